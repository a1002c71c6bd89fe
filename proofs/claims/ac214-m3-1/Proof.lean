import JvmDerived
import JvmDerived.Pilot.@@N@@Statement
import JvmDerived.Pilot.@@N@@Code
set_option linter.unusedVariables false
set_option linter.unusedSimpArgs false
namespace Jvm.RoadKit
open Sem ClassFile Op Lib Jvm.Stand Jvm.Free Jvm.LawKit
section New
variable {p : Program} {l : Launch} {e : Env} {R : Room} {s : State} {m : MethodId} {args : Array Value} {below : List Frame} {meth : Method} {c : Code} {T : State} {locs : List Loc} {cells slots : Nat}
theorem retI (X : Stand p l e R s m args below meth c T locs cells slots) (hx : p.tables.exec = Jvm.exec) {pc : Nat} {Ls : Array Slot} {z : Int32} {rest : List Value} (hret : meth.sig.returnType = some .int) (hd : decode c.code pc = .ok (.ireturn, 1)) {fs : List Frame}
    (hl : ∀ (f : JFrame) (acts : List Action), f.method = m → f.locked = none → f.entered = [] → (doReturn e (T.setTop f) acts (some (.int z))).1 = T.setFrames fs) : Steps p.tables e below (T.setTop (mkF m pc Ls (.int z :: rest))) (T.setFrames fs) := by
  have hm' : T.vm.method? m = some meth := X.method'
  have hn : narrow .int (.int z) = .int z := rfl
  show Steps p.tables e below (T.setTop { method := m, pc := pc, locals := Ls, stack := _ :: rest, locked := none }) _
  jvm_step X.here [X.here.top, hx, hd, hm', hret, hn]
  first | (intro acts; rw [hl _ acts rfl rfl rfl]) | rw [hl _ _ rfl rfl rfl]
  exact Steps.refl _
end New
end Jvm.RoadKit
namespace Jvm.RoadKit
open Sem ClassFile Op Lib Jvm.Stand Jvm.Free Jvm.LawKit
/-- own: the rest of a run, from the state t on -/
def Go (p : Program) (e : Env) (below : List Frame) (s : State) (Q : Option Value → Heap → List Loc → Prop) (C S : Nat) (t : State) : Prop :=
  ∃ s₂ o, Steps p.tables e below t s₂ ∧ s₂.status = .running ∧ Ended s₂ below o ∧ ∃ v L, o = .returned v ∧ Q v s₂.heap L ∧ FrameEnd s o s₂ L C S
theorem Go.st {p : Program} {e : Env} {below : List Frame} {s : State} {Q : Option Value → Heap → List Loc → Prop} {C S : Nat} {t t' : State} (h : ∀ target, Steps p.tables e below t' target → Steps p.tables e below t target) (k : Go p e below s Q C S t') : Go p e below s Q C S t := by
  obtain ⟨s₂, o, h1, h2⟩ := k
  exact ⟨s₂, o, h _ h1, h2⟩
theorem Go.by {p : Program} {e : Env} {below : List Frame} {s : State} {Q : Option Value → Heap → List Loc → Prop} {C S : Nat} {t t' : State} (h : Steps p.tables e below t t') (k : Go p e below s Q C S t') : Go p e below s Q C S t := by
  obtain ⟨s₂, o, h1, h2⟩ := k
  exact ⟨s₂, o, h.trans h1, h2⟩
theorem Go.ret {p : Program} {l : Launch} {e : Env} {R : Room} {s : State} {m : MethodId} {args : Array Value} {below : List Frame} {meth : Method} {c : Code} {T : State} {locs : List Loc} {cells slots : Nat} {Q : Option Value → Heap → List Loc → Prop} {C S : Nat} {t : State}
    (X : Stand p l e R s m args below meth c T locs cells slots) {v : Option Value} (hv : meth.sig.returnType = none → v = none) (hlocks : meth.locks = false)
    (st : ∀ fs, (∀ (f : JFrame) (acts : List Action), f.method = m → f.locked = none → f.entered = [] → (doReturn e (T.setTop f) acts v).1 = T.setFrames fs) → Steps p.tables e below t (T.setFrames fs))
    (hQ : Q v T.heap locs) (hC : cells ≤ C) (hS : slots ≤ S) : Go p e below s Q C S t := by
  obtain ⟨fs, hr, hrun, hended, hW, hsame⟩ := X.leave hv hlocks
  exact ⟨_, _, st fs hr, hrun, hended, _, _, rfl, hQ, ⟨_, rfl⟩, hW, hsame.mono hC hS⟩
def GoW (p : Program) (e : Env) (below : List Frame) (s : State) (Q : Option Value → Heap → List Loc → Prop) (C S : Nat) (t : State) : Prop :=
  ∃ s₂ o, Steps p.tables e below t s₂ ∧ s₂.status = .running ∧ Ended s₂ below o ∧ ∃ v L, o = .returned v ∧ Q v s₂.heap L ∧ ReturnedEndW s o s₂ L C S
theorem GoW.st {p : Program} {e : Env} {below : List Frame} {s : State} {Q : Option Value → Heap → List Loc → Prop} {C S : Nat} {t t' : State} (h : ∀ target, Steps p.tables e below t' target → Steps p.tables e below t target) (k : GoW p e below s Q C S t') : GoW p e below s Q C S t := by
  obtain ⟨s₂, o, h1, h2⟩ := k
  exact ⟨s₂, o, h _ h1, h2⟩
theorem GoW.by {p : Program} {e : Env} {below : List Frame} {s : State} {Q : Option Value → Heap → List Loc → Prop} {C S : Nat} {t t' : State} (h : Steps p.tables e below t t') (k : GoW p e below s Q C S t') : GoW p e below s Q C S t := by
  obtain ⟨s₂, o, h1, h2⟩ := k
  exact ⟨s₂, o, h.trans h1, h2⟩
theorem GoW.ret {p : Program} {l : Launch} {e : Env} {R : Room} {s : State} {vm₁ : Vm} {m : MethodId} {args : Array Value} {below : List Frame} {meth : Method} {c : Code} {T : State} {locs : List Loc} {cells slots : Nat} {Q : Option Value → Heap → List Loc → Prop} {C S : Nat} {t : State}
    (X : Stand p l e R (s.setVm vm₁) m args below meth c T locs cells slots) {n : Nat} (hSi : s.Since vm₁ n) (hn : n ≤ T.heap.size) {v : Option Value} (hv : meth.sig.returnType = none → v = none) (hlocks : meth.locks = false)
    (st : ∀ fs, (∀ (f : JFrame) (acts : List Action), f.method = m → f.locked = none → f.entered = [] → (doReturn e (T.setTop f) acts v).1 = T.setFrames fs) → Steps p.tables e below t (T.setFrames fs))
    (hQ : Q v T.heap locs) (hC : cells ≤ C) (hS : slots ≤ S) : GoW p e below s Q C S t := by
  obtain ⟨fs, hr, hrun, hended, h1, h2, h3, h4⟩ := X.leaveW hSi hn hv hlocks
  exact ⟨_, _, st fs hr, hrun, hended, _, _, rfl, hQ, h1, h2, h3, h4.mono hC hS⟩
abbrev Rm (f c s l : Nat) : Room := { frames := f, cells := c, slots := s, locals := l }
abbrev Met (l : Launch) (Z : State) (ws : List Cond) (y : MethodName) (bytes : ByteArray) (ml : Nat) (rt : Option FieldType) (rm : Room) (as' : Array Value) (h0 : Heap) (Q : Option Value → Heap → List Loc → Prop) : Prop :=
  MetFree l y (head1 (Cond.code y bytes ml rt :: ws) rm) (fun a U => a = as' ∧ Z.Warmed39 U.vm ∧ U.heap = h0) (fun _ _ _ _ _ => True) (fun _ U o U' => ∃ v L, o = .returned v ∧ Q v U'.heap L ∧ FrameEnd U o U' L rm.cells rm.slots)
theorem Met.enter {l : Launch} {Z : State} {ws : List Cond} {y : MethodName} {bytes : ByteArray} {ml : Nat} {rt : Option FieldType} {rm : Room} {as' : Array Value} {h0 : Heap} {Q : Option Value → Heap → List Loc → Prop} {L0 : Array Slot} (hp : plainFor y = true) (ef : ∀ m, entryFrame m as' ml = mkF m 0 L0 [])
    (body : ∀ (p : Program) (e : Env) (s : State) (m : MethodId) (below : List Frame) (meth : Method) (c : Code) (s₁ : State), p.tables.exec = Jvm.exec → c.code = bytes → c.maxLocals = ml → s.vm.findClass y.cls = some m.cls → meth.name = y.name → meth.sig.returnType = rt → meth.locks = false → Z.Warmed39 s.vm → Stand p l e rm s m as' below meth c s₁ [] 0 0 → s₁.heap = h0 → Go p e below s Q rm.cells rm.slots (s₁.setTop (mkF m 0 L0 []))) : Met l Z ws y bytes ml rt rm as' h0 Q := by
  refine MetFree.of_bodySF hp hisR ?_
  intro p e s m args below meth c s₁ Bd hml0 hP hK
  obtain ⟨rfl, hZ, hh⟩ := hP
  have e0 : s₁.heap = h0 := by rw [← hh, Bd.state]; rfl
  exact Go.st (fun t k => castTop (ef m) k) (body p e s m below meth c s₁ Bd.exec Bd.bytes hml0 (findClass_of_methodNamed Bd.named) (name_of_methodNamed Bd.named Bd.method).1 Bd.returns (BodyLoose.notSynchronized Bd) hZ (Stand.of_body Bd) e0)
abbrev MetW (l : Launch) (Z : State) (ws : List Cond) (y : MethodName) (bytes : ByteArray) (ml : Nat) (rt : Option FieldType) (rm : Room) (as' : Array Value) (h0 : Heap) (Q : Option Value → Heap → List Loc → Prop) : Prop :=
  MetFree l y (head1 (Cond.code y bytes ml rt :: ws) rm) (fun a U => a = as' ∧ Z.Warmed39 U.vm ∧ U.heap = h0) (fun _ _ _ _ _ => True) (fun _ U o U' => ∃ v L, o = .returned v ∧ Q v U'.heap L ∧ ReturnedEndW U o U' L rm.cells rm.slots)
theorem MetW.enter {l : Launch} {Z : State} {ws : List Cond} {y : MethodName} {bytes : ByteArray} {ml : Nat} {rt : Option FieldType} {rm : Room} {as' : Array Value} {h0 : Heap} {Q : Option Value → Heap → List Loc → Prop} {L0 : Array Slot} (hp : plainFor y = true) (ef : ∀ m, entryFrame m as' ml = mkF m 0 L0 [])
    (body : ∀ (p : Program) (e : Env) (s : State) (m : MethodId) (below : List Frame) (meth : Method) (c : Code) (s₁ : State), p.tables.exec = Jvm.exec → c.code = bytes → c.maxLocals = ml → s.vm.findClass y.cls = some m.cls → meth.name = y.name → meth.sig.returnType = rt → meth.locks = false → Z.Warmed39 s.vm → Stand p l e rm (s.setVm s.vm) m as' below meth c s₁ [] 0 0 → s₁.heap = h0 → GoW p e below s Q rm.cells rm.slots (s₁.setTop (mkF m 0 L0 []))) : MetW l Z ws y bytes ml rt rm as' h0 Q := by
  refine MetFree.of_bodySF hp hisR ?_
  intro p e s m args below meth c s₁ Bd hml0 hP hK
  obtain ⟨rfl, hZ, hh⟩ := hP
  have e0 : s₁.heap = h0 := by rw [← hh, Bd.state]; rfl
  exact GoW.st (fun t k => castTop (ef m) k) (body p e s m below meth c s₁ Bd.exec Bd.bytes hml0 (findClass_of_methodNamed Bd.named) (name_of_methodNamed Bd.named Bd.method).1 Bd.returns (BodyLoose.notSynchronized Bd) hZ (Stand.of_body Bd) e0)
def GoH (p : Program) (e : Env) (below : List Frame) (s : State) (P : Option Value → State → List Loc → Prop) (C S : Nat) (t : State) : Prop :=
  ∃ s₂ o, Steps p.tables e below t s₂ ∧ s₂.status = .running ∧ Ended s₂ below o ∧ ∃ v L, o = .returned v ∧ P v s₂ L ∧ ReturnedEndW s o s₂ L C S
theorem GoH.st {p : Program} {e : Env} {below : List Frame} {s : State} {P : Option Value → State → List Loc → Prop} {C S : Nat} {t t' : State} (h : ∀ target, Steps p.tables e below t' target → Steps p.tables e below t target) (k : GoH p e below s P C S t') : GoH p e below s P C S t := by
  obtain ⟨s₂, o, h1, h2⟩ := k
  exact ⟨s₂, o, h _ h1, h2⟩
theorem GoH.by {p : Program} {e : Env} {below : List Frame} {s : State} {P : Option Value → State → List Loc → Prop} {C S : Nat} {t t' : State} (h : Steps p.tables e below t t') (k : GoH p e below s P C S t') : GoH p e below s P C S t := by
  obtain ⟨s₂, o, h1, h2⟩ := k
  exact ⟨s₂, o, h.trans h1, h2⟩
theorem GoH.ret {p : Program} {l : Launch} {e : Env} {R : Room} {s : State} {vm₁ : Vm} {m : MethodId} {args : Array Value} {below : List Frame} {meth : Method} {c : Code} {T : State} {locs : List Loc} {cells slots : Nat} {Q : Option Value → Heap → List Loc → Prop} {C S : Nat} {t : State} {Z : State} {EL : List (String × Nat)} {a0 : Array Value} {h0 h : Heap}
    (X : Stand p l e R (s.setVm vm₁) m args below meth c T locs cells slots) {n : Nat} (hSi : s.Since vm₁ n) (hn : n ≤ T.heap.size) (hZ : Z.Warmed39 vm₁) (hEL : EW Z a0 EL) (ch : CHr Z EL s.vm h0 vm₁ h) (eT : T.heap = h) {v : Option Value} (hv : meth.sig.returnType = none → v = none) (hlocks : meth.locks = false)
    (st : ∀ fs, (∀ (f : JFrame) (acts : List Action), f.method = m → f.locked = none → f.entered = [] → (doReturn e (T.setTop f) acts v).1 = T.setFrames fs) → Steps p.tables e below t (T.setFrames fs))
    (hQ : Q v T.heap locs) (hC : cells ≤ C) (hS : slots ≤ S) : GoH p e below s (fun v s₂ L => Q v s₂.heap L ∧ CHr Z EL s.vm h0 s₂.vm s₂.heap) C S t := by
  obtain ⟨fs, hr, hrun, hended, h1, h2, h3, h4⟩ := X.leaveW hSi hn hv hlocks
  have q := ch.trans (CHv.at X hZ hEL ch.1)
  rw [← eT] at q
  exact ⟨_, _, st fs hr, hrun, hended, _, _, rfl, ⟨hQ, q⟩, h1, h2, h3, h4.mono hC hS⟩
abbrev MetH (EL : List (String × Nat)) (xs : List Addr) (l : Launch) (Z : State) (ws : List Cond) (y : MethodName) (bytes : ByteArray) (ml : Nat) (rt : Option FieldType) (rm : Room) (as' : Array Value) (h0 : Heap) (Q : Option Value → Heap → List Loc → Prop) : Prop :=
  MetFree l y (head1 (Cond.code y bytes ml rt :: ws) rm) (fun a U => a = as' ∧ Z.Warmed39 U.vm ∧ U.heap = h0 ∧ CHv Z EL U.vm h0 ∧ ∀ x ∈ xs, Safe Z EL U.vm h0 x) (fun _ _ _ _ _ => True) (fun _ U o U' => ∃ v L, o = .returned v ∧ Q v U'.heap L ∧ CHr Z EL U.vm U.heap U'.vm U'.heap ∧ ReturnedEndW U o U' L rm.cells rm.slots)
theorem MetH.enter {EL : List (String × Nat)} {xs : List Addr} {l : Launch} {Z : State} {ws : List Cond} {y : MethodName} {bytes : ByteArray} {ml : Nat} {rt : Option FieldType} {rm : Room} {as' : Array Value} {h0 : Heap} {Q : Option Value → Heap → List Loc → Prop} {L0 : Array Slot} (hp : plainFor y = true) (ef : ∀ m, entryFrame m as' ml = mkF m 0 L0 [])
    (body : ∀ (p : Program) (e : Env) (s : State) (m : MethodId) (below : List Frame) (meth : Method) (c : Code) (s₁ : State), p.tables.exec = Jvm.exec → c.code = bytes → c.maxLocals = ml → s.vm.findClass y.cls = some m.cls → meth.name = y.name → meth.sig.returnType = rt → meth.locks = false → Z.Warmed39 s.vm → Stand p l e rm (s.setVm s.vm) m as' below meth c s₁ [] 0 0 → s₁.heap = h0 → CHv Z EL s.vm h0 → (∀ x ∈ xs, Safe Z EL s.vm h0 x) → GoH p e below s (fun v s₂ L => Q v s₂.heap L ∧ CHr Z EL s.vm h0 s₂.vm s₂.heap) rm.cells rm.slots (s₁.setTop (mkF m 0 L0 []))) : MetH EL xs l Z ws y bytes ml rt rm as' h0 Q := by
  refine MetFree.of_bodySF hp hisR ?_
  intro p e s m args below meth c s₁ Bd hml0 hP hK
  obtain ⟨rfl, hZ, hh, hH, hX⟩ := hP
  have e0 : s₁.heap = h0 := by rw [← hh, Bd.state]; rfl
  obtain ⟨s₂, o, q1, q2, q3, v, L, q4, ⟨q5, q6⟩, q7⟩ := GoH.st (fun t k => castTop (ef m) k) (body p e s m below meth c s₁ Bd.exec Bd.bytes hml0 (findClass_of_methodNamed Bd.named) (name_of_methodNamed Bd.named Bd.method).1 Bd.returns (BodyLoose.notSynchronized Bd) hZ (Stand.of_body Bd) e0 hH hX)
  exact ⟨s₂, o, q1, q2, q3, v, L, q4, q5, by rw [hh]; exact q6, q7⟩
abbrev MetP (EL : List (String × Nat)) (xs : List Addr) (l : Launch) (Z : State) (ws : List Cond) (y : MethodName) (bytes : ByteArray) (ml : Nat) (rt : Option FieldType) (rm : Room) (as' : Array Value) (h0 : Heap) (Q : Option Value → Heap → List Loc → Prop) : Prop :=
  MetFree l y (head1 (Cond.code y bytes ml rt :: ws) rm) (fun a U => a = as' ∧ Z.Warmed39 U.vm ∧ U.heap = h0 ∧ CHv Z EL U.vm h0 ∧ ∀ x ∈ xs, Safe Z EL U.vm h0 x) (fun _ _ _ _ _ => True) (fun _ U o U' => ∃ v L, o = .returned v ∧ Q v U'.heap L ∧ ReturnedEndW U o U' L rm.cells rm.slots)
theorem MetP.enter {EL : List (String × Nat)} {xs : List Addr} {l : Launch} {Z : State} {ws : List Cond} {y : MethodName} {bytes : ByteArray} {ml : Nat} {rt : Option FieldType} {rm : Room} {as' : Array Value} {h0 : Heap} {Q : Option Value → Heap → List Loc → Prop} {L0 : Array Slot} (hp : plainFor y = true) (ef : ∀ m, entryFrame m as' ml = mkF m 0 L0 [])
    (body : ∀ (p : Program) (e : Env) (s : State) (m : MethodId) (below : List Frame) (meth : Method) (c : Code) (s₁ : State), p.tables.exec = Jvm.exec → c.code = bytes → c.maxLocals = ml → s.vm.findClass y.cls = some m.cls → meth.name = y.name → meth.sig.returnType = rt → meth.locks = false → Z.Warmed39 s.vm → Stand p l e rm (s.setVm s.vm) m as' below meth c s₁ [] 0 0 → s₁.heap = h0 → CHv Z EL s.vm h0 → (∀ x ∈ xs, Safe Z EL s.vm h0 x) → GoW p e below s Q rm.cells rm.slots (s₁.setTop (mkF m 0 L0 []))) : MetP EL xs l Z ws y bytes ml rt rm as' h0 Q := by
  refine MetFree.of_bodySF hp hisR ?_
  intro p e s m args below meth c s₁ Bd hml0 hP hK
  obtain ⟨rfl, hZ, hh, hH, hX⟩ := hP
  have e0 : s₁.heap = h0 := by rw [← hh, Bd.state]; rfl
  exact GoW.st (fun t k => castTop (ef m) k) (body p e s m below meth c s₁ Bd.exec Bd.bytes hml0 (findClass_of_methodNamed Bd.named) (name_of_methodNamed Bd.named Bd.method).1 Bd.returns (BodyLoose.notSynchronized Bd) hZ (Stand.of_body Bd) e0 hH hX)
theorem own_backOfSX {p : Program} {l : Launch} {e : Env} {R : Room} {s : State} {args : Array Value} {below : List Frame} {Z : State} {a0 : Array Value} {EL : List (String × Nat)} {xs : List Addr} {h : Heap} {vm0 : Vm} {y : MethodName} {bytes : ByteArray} {maxL : Nat} {ret : Option FieldType} {rm : Room} {len W : Nat} {as' : Array Value} {Q : Option Value → Heap → List Loc → Prop}
    (hM : MetFree l y (head1 [Cond.code y bytes maxL ret] rm) (fun a U => a = as' ∧ Z.Warmed39 U.vm ∧ U.heap = h ∧ CHv Z EL U.vm h ∧ ∀ x ∈ xs, Safe Z EL U.vm h x) (fun _ _ _ _ _ => True) (fun _ U o U' => ∃ v L, o = .returned v ∧ Q v U'.heap L ∧ CHr Z EL U.vm U.heap U'.vm U'.heap ∧ ReturnedEndW U o U' L rm.cells rm.slots))
    (hZ : Z.Warmed39 vm0) (wc : (Cond.code y bytes maxL ret).before a0 Z = true) (wz : (Cond.initialized y.cls).before a0 Z = true) (hf : rm.frames + 1 ≤ R.frames) (hl : W + (maxL + 11) + rm.locals ≤ R.locals) (hEL : EW Z a0 EL) (H : CHv Z EL vm0 h) (hxs : ∀ x ∈ xs, x < h.size ∧ Safe Z EL vm0 h x) :
    BackS l R p e below (s.setVm vm0) args y len W (fun A a => a = as' ∧ A.U.heap = h ∧ A.cells + rm.cells ≤ R.cells ∧ A.slots + rm.slots ≤ R.slots)
      (fun A _ v B => ∃ L, Q v B.U.heap L ∧ B.locs = A.locs ++ L ∧ B.cells = A.cells + rm.cells ∧ B.slots = A.slots + rm.slots ∧ CHr Z EL vm0 h B.U.vm B.U.heap) :=
  BackS.of_freeW (bytes := bytes) (maxL := maxL) (ret := ret) (E := fun _ first o t L k n => k = rm.cells ∧ n = rm.slots ∧ (∃ v, o = .returned v ∧ Q v t.heap L) ∧ CHr Z EL first.vm first.heap t.vm t.heap) hM hf hl
    (fun m meth c A a Y hp => have hU : Z.Warmed39 A.U.vm := wtrans (s := s.setVm vm0) hZ Y.warmed
      ⟨by show (Cond.and _ .tt).before a A.U = true; rw [Cond.before_and, mv hU wc]; rfl, mv hU wc, mv hU wz, hp.2.2.1, hp.2.2.2⟩)
    (fun m meth c A a g mk Y hp => ⟨hp.1, wtrans (s := s.setVm vm0) hZ Y.warmed, hp.2.1, (CHv.at Y hZ hEL H).1, fun x hx => (CHv.at Y hZ hEL H).safe (hxs x hx).1 (hxs x hx).2⟩) (fun _ _ _ _ _ _ _ _ _ => trivial)
    (fun _ _ _ _ ⟨v, L, h1, h2, h3, h4⟩ => ⟨L, _, _, h4, rfl, rfl, ⟨v, h1, h2⟩, h3⟩)
    (fun m meth c A a g mk v t L k n Y hp _ _ ⟨e1, e2, ⟨v', e3, e4⟩, e5⟩ => by
      cases e3; subst e1 e2
      refine ⟨L, e4, rfl, rfl, rfl, (CHv.at Y hZ hEL H).trans ?_⟩
      rw [← hp.2.1]; exact e5)
theorem own_backOfSP {p : Program} {l : Launch} {e : Env} {R : Room} {s : State} {args : Array Value} {below : List Frame} {Z : State} {a0 : Array Value} {EL : List (String × Nat)} {xs : List Addr} {h : Heap} {vm0 : Vm} {y : MethodName} {bytes : ByteArray} {maxL : Nat} {ret : Option FieldType} {rm : Room} {len W : Nat} {as' : Array Value} {Q : Option Value → Heap → List Loc → Prop}
    (hM : MetFree l y (head1 [Cond.code y bytes maxL ret] rm) (fun a U => a = as' ∧ Z.Warmed39 U.vm ∧ U.heap = h ∧ CHv Z EL U.vm h ∧ ∀ x ∈ xs, Safe Z EL U.vm h x) (fun _ _ _ _ _ => True) (fun _ U o U' => ∃ v L, o = .returned v ∧ Q v U'.heap L ∧ ReturnedEndW U o U' L rm.cells rm.slots))
    (hZ : Z.Warmed39 vm0) (wc : (Cond.code y bytes maxL ret).before a0 Z = true) (wz : (Cond.initialized y.cls).before a0 Z = true) (hf : rm.frames + 1 ≤ R.frames) (hl : W + (maxL + 11) + rm.locals ≤ R.locals) (hEL : EW Z a0 EL) (H : CHv Z EL vm0 h) (hxs : ∀ x ∈ xs, x < h.size ∧ Safe Z EL vm0 h x) :
    BackS l R p e below (s.setVm vm0) args y len W (fun A a => a = as' ∧ A.U.heap = h ∧ A.cells + rm.cells ≤ R.cells ∧ A.slots + rm.slots ≤ R.slots)
      (fun A _ v B => ∃ L, Q v B.U.heap L ∧ B.locs = A.locs ++ L ∧ B.cells = A.cells + rm.cells ∧ B.slots = A.slots + rm.slots) :=
  BackS.of_freeW (bytes := bytes) (maxL := maxL) (ret := ret) (E := fun _ first o t L k n => k = rm.cells ∧ n = rm.slots ∧ (∃ v, o = .returned v ∧ Q v t.heap L)) hM hf hl
    (fun m meth c A a Y hp => have hU : Z.Warmed39 A.U.vm := wtrans (s := s.setVm vm0) hZ Y.warmed
      ⟨by show (Cond.and _ .tt).before a A.U = true; rw [Cond.before_and, mv hU wc]; rfl, mv hU wc, mv hU wz, hp.2.2.1, hp.2.2.2⟩)
    (fun m meth c A a g mk Y hp => ⟨hp.1, wtrans (s := s.setVm vm0) hZ Y.warmed, hp.2.1, (CHv.at Y hZ hEL H).1, fun x hx => (CHv.at Y hZ hEL H).safe (hxs x hx).1 (hxs x hx).2⟩) (fun _ _ _ _ _ _ _ _ _ => trivial)
    (fun _ _ _ _ ⟨v, L, h1, h2, h4⟩ => ⟨L, _, _, h4, rfl, rfl, ⟨v, h1, h2⟩⟩)
    (fun m meth c A a g mk v t L k n Y hp _ _ ⟨e1, e2, ⟨v', e3, e4⟩⟩ => by
      cases e3; subst e1 e2
      exact ⟨L, e4, rfl, rfl, rfl⟩)
theorem retR {p : Program} {l : Launch} {e : Env} {R : Room} {s : State} {m : MethodId} {args : Array Value} {below : List Frame} {meth : Method} {c : Code} {T : State} {locs : List Loc} {cells slots : Nat} (X : Stand p l e R s m args below meth c T locs cells slots) (hx : p.tables.exec = Jvm.exec) {pc : Nat} {Ls : Array Slot} {z : Value} {rest : List Value} {t : FieldType} (hret : meth.sig.returnType = some t) (ht : t.isReference = true) (hz : z.isRef = true) (hd : decode c.code pc = .ok (.areturn, 1)) {fs : List Frame}
    (hl : ∀ (f : JFrame) (acts : List Action), f.method = m → f.locked = none → f.entered = [] → (doReturn e (T.setTop f) acts (some z)).1 = T.setFrames fs) : Steps p.tables e below (T.setTop (mkF m pc Ls (z :: rest))) (T.setFrames fs) := by
  have hm' : T.vm.method? m = some meth := X.method'
  show Steps p.tables e below (T.setTop { method := m, pc := pc, locals := Ls, stack := _ :: rest, locked := none }) _
  jvm_step X.here [X.here.top, hx, hd, hm', hret, ht, hz]
  first | (intro acts; rw [hl _ acts rfl rfl rfl]) | rw [hl _ _ rfl rfl rfl]
  exact Steps.refl _
theorem retJ {p : Program} {l : Launch} {e : Env} {R : Room} {s : State} {m : MethodId} {args : Array Value} {below : List Frame} {meth : Method} {c : Code} {T : State} {locs : List Loc} {cells slots : Nat} (X : Stand p l e R s m args below meth c T locs cells slots) (hx : p.tables.exec = Jvm.exec) {pc : Nat} {Ls : Array Slot} {z : Int64} {rest : List Value} (hret : meth.sig.returnType = some .long) (hd : decode c.code pc = .ok (.lreturn, 1)) {fs : List Frame}
    (hl : ∀ (f : JFrame) (acts : List Action), f.method = m → f.locked = none → f.entered = [] → (doReturn e (T.setTop f) acts (some (.long z))).1 = T.setFrames fs) : Steps p.tables e below (T.setTop (mkF m pc Ls (.long z :: rest))) (T.setFrames fs) := by
  have hm' : T.vm.method? m = some meth := X.method'
  show Steps p.tables e below (T.setTop { method := m, pc := pc, locals := Ls, stack := _ :: rest, locked := none }) _
  jvm_step X.here [X.here.top, hx, hd, hm', hret, narrow]
  first | (intro acts; rw [hl _ acts rfl rfl rfl]) | rw [hl _ _ rfl rfl rfl]
  exact Steps.refl _
theorem retD {p : Program} {l : Launch} {e : Env} {R : Room} {s : State} {m : MethodId} {args : Array Value} {below : List Frame} {meth : Method} {c : Code} {T : State} {locs : List Loc} {cells slots : Nat} (X : Stand p l e R s m args below meth c T locs cells slots) (hx : p.tables.exec = Jvm.exec) {pc : Nat} {Ls : Array Slot} {z : UInt64} {rest : List Value} (hret : meth.sig.returnType = some .double) (hd : decode c.code pc = .ok (.dreturn, 1)) {fs : List Frame}
    (hl : ∀ (f : JFrame) (acts : List Action), f.method = m → f.locked = none → f.entered = [] → (doReturn e (T.setTop f) acts (some (.double z))).1 = T.setFrames fs) : Steps p.tables e below (T.setTop (mkF m pc Ls (.double z :: rest))) (T.setFrames fs) := by
  have hm' : T.vm.method? m = some meth := X.method'
  show Steps p.tables e below (T.setTop { method := m, pc := pc, locals := Ls, stack := _ :: rest, locked := none }) _
  jvm_step X.here [X.here.top, hx, hd, hm', hret, narrow]
  first | (intro acts; rw [hl _ acts rfl rfl rfl]) | rw [hl _ _ rfl rfl rfl]
  exact Steps.refl _
theorem Arr.keep {Z : State} {h h' : Heap} {a : Addr} {c : Cell} {ty : FieldType} {ws : List Addr} (F : Arr Z h a c ty) (K : Keep h h' ws) (q : a ∉ ws) : Arr Z h' a c ty := ⟨K.2.1 a c F.1 q, F.2⟩
theorem Ins.keep {Z : State} {h h' : Heap} {a : Addr} {C : String} {b : Bool} {ws : List Addr} (F : Ins Z h a C b) (K : Keep h h' ws) : Ins Z h' a C b := by
  obtain ⟨cell, cT, h1, h2, h3⟩ := F
  obtain ⟨c', q, r1, r2, -⟩ := K.2.2 a cell h1
  exact ⟨c', cT, q, h2, by rw [r1, r2]; exact h3⟩
theorem own_selp {Z : State} {a0 : Array Value} {y : MethodName} {k : Nat} (wi : (Jvm.Cond.instantiable y.cls k).before a0 Z = true) (wp : (Jvm.Cond.privateMethod y).before a0 Z = true) (wm : (Jvm.Cond.instanceMethod y).before a0 Z = true) (hy : y.cls ≠ "java/lang/invoke/MethodHandle" ∧ y.cls ≠ "java/lang/invoke/VarHandle") : (Jvm.Cond.selects y.cls y y).before a0 Z = true := by
  obtain ⟨c, k', h1, h2, -, h3, -⟩ := Cond.instantiable_spec wi
  exact selects_self_of_private h1 h2 (by simp only [Bool.or_eq_false_iff] at h3; exact h3.1) (Cond.privateMethod_at wp) wm hy
theorem own_mvNest {Z s : State} {a0 args : Array Value} {own host : String} {index : Nat} {y : MethodName} (hZ : Z.Warmed39 s.vm) (w : (Jvm.Cond.methodLinkNest own index y host).before a0 Z = true) : (Jvm.Cond.methodLinkNest own index y host).before args s = true := (Cond.methodLinkNest_wide hZ w :)
theorem own_nsroot {Z : State} {a0 : Array Value} {O K : String} {n : Nat} (w : (Jvm.Cond.noSuperclass O).before a0 Z = true) (wk : (Jvm.Cond.instantiable K n).before a0 Z = true) (hn : O ≠ K) : NS Z O K := by
  obtain ⟨c, k, h1, h2, h3, -, -⟩ := Cond.noSuperclass_spec w
  obtain ⟨t, kt, g1, -⟩ := Cond.instantiable_spec wk
  have ne := ids_ne h1 g1 hn
  exact ⟨c, t, h1, g1, fun fuel => by cases fuel with | zero => rfl | succ f => simp [Vm.isSubclassAux, ne, h2, h3]⟩
theorem own_nsno {Z : State} {a0 : Array Value} {C S K : String} {n : Nat} (w : (Jvm.Cond.superclass C S).before a0 Z = true) (wk : (Jvm.Cond.instantiable K n).before a0 Z = true) (nn : NS Z C K) (hn : C ≠ K) : ∃ c t, Z.vm.findClass C = some c ∧ Z.vm.findClass K = some t ∧ Z.vm.assignable c t = false := by
  obtain ⟨c, t, h0, g0, n3⟩ := nn
  obtain ⟨p, k, kp, -, h2, -, -, h5, -, h7⟩ := Cond.superclass_spec h0 w
  obtain ⟨t', k', g1, g2, g3, g4, -⟩ := Cond.instantiable_spec wk
  cases g0.symm.trans g1
  simp only [Bool.or_eq_false_iff] at g4
  have ne := ids_ne h0 g0 hn
  refine ⟨c, _, h0, g0, ?_⟩
  show Z.vm.assignableAux (255 + 1) c _ = false
  simp [Vm.assignableAux, ne, h2, g2, h5, g3, g4.1, Vm.isSubclass, n3]
section OwnWords
variable {args : Array Value} {first s : State} {o : Option Outcome} {idx : List Nat} {a b t : Term}
theorem own_eqi {z : Int32} (h : (Jvm.Cond.eq a (Term.int z)).value args first o s idx = some true) : a.eval args first o idx s = some (.int z) := by
  obtain ⟨x, y, h1, h2, h3, h4⟩ := cmp_v (Or.inl h)
  obtain rfl : .int z = y := Option.some.inj ((Term.int_eval z).symm.trans h2)
  obtain ⟨w, rfl⟩ := h4
  simp only [Cond.value, h1, h2] at h
  simp at h
  rw [h1, h]
theorem own_eqr {w : Addr} (h : (Jvm.Cond.eq a b).value args first o s idx = some true) (hb : b.eval args first o idx s = some (.ref w)) : a.eval args first o idx s = some (.ref w) := by
  obtain ⟨x, y, h1, h2, h3, h4⟩ := cmp_v (Or.inl h)
  cases h2.symm.trans hb
  have hx : x.isRef = true := h4.2
  have q := gotT (eq_R h1 h2 hx rfl) h
  rw [h1, q]
theorem own_len {n : Int32} {w : Addr} {cl : Cell} (h : (Term.length t).eval args first o idx s = some (.int n)) (ht : t.eval args first o idx s = some (.ref w)) (hc : s.heap[w]? = some cl) : cl.slots.size = n.toNatClampNeg ∧ ¬ n < 0 := by
  obtain ⟨a', cell, ha', hat, hv⟩ := Term.length_spec h
  cases ht.symm.trans ha'
  cases (State.arrayAt?_spec hat).1.symm.trans hc
  have hsz : cl.slots.size < 2 ^ 31 := by
    simp only [Term.eval, ht, hat, Option.bind_eq_bind, Option.bind_some] at h
    by_cases hlt : cl.slots.size < 2147483648
    · exact hlt
    · simp [hlt] at h
  cases hv
  refine ⟨?_, ?_⟩
  · simp only [Int32.toNatClampNeg, len_toInt hsz]; rfl
  · rw [Int32.lt_iff_toInt_lt, len_toInt hsz]; show ¬ (cl.slots.size : Int) < 0; omega
end OwnWords
theorem own_cs {p : Program} {l : Launch} {e : Env} {R : Room} {s : State} {m : MethodId} {args : Array Value} {below : List Frame} {meth : Method} {c : Code} {T : State} {locs : List Loc} {cells slots : Nat} {Z : State} {a0 : Array Value} {h : Heap} {own : String} {index : Nat} {y : MethodName} {bytes : ByteArray} {maxL : Nat} {ret : Option FieldType} {rm : Room} {as' : Array Value} {Q : Option Value → Heap → List Loc → Prop}  {W : Nat} {argsL rest : List Value} {g : JFrame} (X : Stand p l e R s m args below meth c T locs cells slots) (hx : p.tables.exec = Jvm.exec) (hZ : Z.Warmed39 s.vm) (hown : s.vm.findClass own = some m.cls) (w1 : (Cond.methodLink own index y).before a0 Z = true) (w2 : (Cond.static y).before a0 Z = true) (w5 : (Cond.code y bytes maxL ret).before a0 Z = true) (w6 : (Cond.initialized y.cls).before a0 Z = true) (hy : y.cls ≠ "java/lang/invoke/MethodHandle" ∧ y.cls ≠ "java/lang/invoke/VarHandle") (eT : T.heap = h)  (hM : Met l Z [] y bytes maxL ret rm as' h Q)
    (hg : g.method = m) (hsize : g.locals.size = c.maxLocals) (hlen : ∀ sig, parseMethodDescriptor y.desc = some sig → argsL.length = sig.parameters.length) (hst : g.stack = argsL.reverse ++ rest) (hW : 2 * g.monitorRoom + (rest.map fun v => v.category).sum ≤ W) (hd : decode c.code g.pc = .ok (.invokestatic index, 3)) (has : argsL.toArray = as') (hf : rm.frames + 1 ≤ R.frames) (hl : W + (maxL + 11) + rm.locals ≤ R.locals) (hc : cells + rm.cells ≤ R.cells) (hs : slots + rm.slots ≤ R.slots) :
    ∃ T' v L, Stand p l e R s m args below meth c T' (locs ++ L) (cells + rm.cells) (slots + rm.slots) ∧ Q v T'.heap L ∧ Steps p.tables e below (T.setTop g) (T'.setTop { g with pc := g.pc + 3, stack := v.toList ++ rest }) := by
  obtain ⟨v, vm1, ⟨T', L', k', n'⟩, -, X', ⟨Lc, hQ, l', y', z'⟩, st⟩ := Jvm.LawKit.callS X hx hown (mvT hZ w1) (mvT hZ w2) (mvT hZ w6) (mvT hZ w5) hy (backOf hM hZ w5 w6 hf hl) hg hsize hlen hst hW hd (fun _ _ => ⟨has, eT, hc, hs⟩)
  dsimp only [Pt.U, Pt.locs, Pt.cells, Pt.slots] at X' l' y' z' st hQ
  subst l' y' z'
  exact ⟨T', v, Lc, X', hQ, st _ (Steps.refl _)⟩
theorem own_cv {p : Program} {l : Launch} {e : Env} {R : Room} {s : State} {m : MethodId} {args : Array Value} {below : List Frame} {meth : Method} {c : Code} {T : State} {locs : List Loc} {cells slots : Nat} {Z : State} {a0 : Array Value} {h : Heap} {own : String} {index : Nat} {y z : MethodName} {bytes : ByteArray} {maxL : Nat} {ret : Option FieldType} {rm : Room} {as' : Array Value} {Q : Option Value → Heap → List Loc → Prop} {b : Addr} {W : Nat} {argsL rest : List Value} {g : JFrame} {C : String} (X : Stand p l e R s m args below meth c T locs cells slots) (hx : p.tables.exec = Jvm.exec) (hZ : Z.Warmed39 s.vm) (hown : s.vm.findClass own = some m.cls) (w1 : (Cond.methodLink own index y).before a0 Z = true) (w2 : (Cond.declares y).before a0 Z = true) (hnf : NotFace s y) (w3 : (Cond.selects C y z).before a0 Z = true) (w4 : (Cond.instanceMethod z).before a0 Z = true) (w5 : (Cond.code z bytes maxL ret).before a0 Z = true) (w6 : (Cond.initialized z.cls).before a0 Z = true) (hy : y.cls ≠ "java/lang/invoke/MethodHandle" ∧ y.cls ≠ "java/lang/invoke/VarHandle") (eT : T.heap = h) (E : Exa Z h b C) (hM : Met l Z [] z bytes maxL ret rm as' h Q)
    (hg : g.method = m) (hsize : g.locals.size = c.maxLocals) (hlen : ∀ sig, parseMethodDescriptor y.desc = some sig → argsL.length = sig.parameters.length) (hst : g.stack = argsL.reverse ++ .ref b :: rest) (hW : 2 * g.monitorRoom + (rest.map fun v => v.category).sum ≤ W) (hd : decode c.code g.pc = .ok (.invokevirtual index, 3)) (has : (.ref b :: argsL).toArray = as') (hf : rm.frames + 1 ≤ R.frames) (hl : W + (maxL + 11) + rm.locals ≤ R.locals) (hc : cells + rm.cells ≤ R.cells) (hs : slots + rm.slots ≤ R.slots) :
    ∃ T' v L, Stand p l e R s m args below meth c T' (locs ++ L) (cells + rm.cells) (slots + rm.slots) ∧ Q v T'.heap L ∧ Steps p.tables e below (T.setTop g) (T'.setTop { g with pc := g.pc + 3, stack := v.toList ++ rest }) := by
  obtain ⟨cq, kq, qa, qb, qc⟩ := isOf hZ eT E
  obtain ⟨v, vm1, ⟨T', L', k', n'⟩, -, X', ⟨Lc, hQ, l', y', z'⟩, st⟩ := X.virtualBack hx hown (mvT hZ w1) (mvT hZ w2) hnf (mvT hZ w3) (mvT hZ w4) hy (backOf hM hZ w5 w6 hf hl) qa qc hg hsize (Steps.refl _) hlen hst hW hd (fun _ _ => ⟨has, eT, hc, hs⟩)
  dsimp only [Pt.U, Pt.locs, Pt.cells, Pt.slots] at X' l' y' z' st hQ
  subst l' y' z'
  exact ⟨T', v, Lc, X', hQ, st⟩
theorem own_ci {p : Program} {l : Launch} {e : Env} {R : Room} {s : State} {m : MethodId} {args : Array Value} {below : List Frame} {meth : Method} {c : Code} {T : State} {locs : List Loc} {cells slots : Nat} {Z : State} {a0 : Array Value} {h : Heap} {own : String} {index : Nat} {y : MethodName} {bytes : ByteArray} {maxL : Nat}  {rm : Room} {as' : Array Value} {Q : Option Value → Heap → List Loc → Prop} {b : Addr} {W : Nat} {argsL rest : List Value} {g : JFrame} (X : Stand p l e R s m args below meth c T locs cells slots) (hx : p.tables.exec = Jvm.exec) (hZ : Z.Warmed39 s.vm) (hown : s.vm.findClass own = some m.cls) (h1 : y.name = "<init>") (w1 : (Cond.methodLink own index y).before a0 Z = true) (w2 : (Cond.instanceMethod y).before a0 Z = true) (w5 : (Cond.code y bytes maxL none).before a0 Z = true) (w6 : (Cond.initialized y.cls).before a0 Z = true) (hy : y.cls ≠ "java/lang/invoke/MethodHandle" ∧ y.cls ≠ "java/lang/invoke/VarHandle") (eT : T.heap = h)  (hM : Met l Z [] y bytes maxL none rm as' h Q)
    (hg : g.method = m) (hsize : g.locals.size = c.maxLocals) (hlen : ∀ sig, parseMethodDescriptor y.desc = some sig → argsL.length = sig.parameters.length) (hst : g.stack = argsL.reverse ++ .ref b :: rest) (hW : 2 * g.monitorRoom + (rest.map fun v => v.category).sum ≤ W) (hd : decode c.code g.pc = .ok (.invokespecial index, 3)) (has : (.ref b :: argsL).toArray = as') (hf : rm.frames + 1 ≤ R.frames) (hl : W + (maxL + 11) + rm.locals ≤ R.locals) (hc : cells + rm.cells ≤ R.cells) (hs : slots + rm.slots ≤ R.slots) :
    ∃ T' v L, Stand p l e R s m args below meth c T' (locs ++ L) (cells + rm.cells) (slots + rm.slots) ∧ Q v T'.heap L ∧ Steps p.tables e below (T.setTop g) (T'.setTop { g with pc := g.pc + 3, stack := v.toList ++ rest }) := by
  obtain ⟨v, vm1, ⟨T', L', k', n'⟩, -, X', ⟨Lc, hQ, l', y', z'⟩, st⟩ := X.specialBack hx h1 hown (mvT hZ w1) (mvT hZ w2) (mvT hZ w5) hy (backOf hM hZ w5 w6 hf hl) hg hsize (Steps.refl _) (a := b) hlen hst hW hd (fun _ _ => ⟨has, eT, hc, hs⟩)
  dsimp only [Pt.U, Pt.locs, Pt.cells, Pt.slots] at X' l' y' z' st hQ
  subst l' y' z'
  exact ⟨T', v, Lc, X', hQ, st⟩
theorem own_cn {p : Program} {l : Launch} {e : Env} {R : Room} {s : State} {m : MethodId} {args : Array Value} {below : List Frame} {meth : Method} {c : Code} {T : State} {locs : List Loc} {cells slots : Nat} {Z : State} {a0 : Array Value} {h : Heap} {own : String} {index : Nat} {y : MethodName} {bytes : ByteArray} {maxL : Nat}  {rm : Room} {as' : Array Value} {Q : Option Value → Heap → List Loc → Prop} {b : Addr} {W : Nat} {argsL rest : List Value} {g : JFrame} {host : String} (X : Stand p l e R s m args below meth c T locs cells slots) (hx : p.tables.exec = Jvm.exec) (hZ : Z.Warmed39 s.vm) (hown : s.vm.findClass own = some m.cls) (h1 : y.name = "<init>") (w1 : (Cond.methodLinkNest own index y host).before a0 Z = true) (w2 : (Cond.instanceMethod y).before a0 Z = true) (w5 : (Cond.code y bytes maxL none).before a0 Z = true) (w6 : (Cond.initialized y.cls).before a0 Z = true) (hy : y.cls ≠ "java/lang/invoke/MethodHandle" ∧ y.cls ≠ "java/lang/invoke/VarHandle") (eT : T.heap = h)  (hM : Met l Z [] y bytes maxL none rm as' h Q)
    (hg : g.method = m) (hsize : g.locals.size = c.maxLocals) (hlen : ∀ sig, parseMethodDescriptor y.desc = some sig → argsL.length = sig.parameters.length) (hst : g.stack = argsL.reverse ++ .ref b :: rest) (hW : 2 * g.monitorRoom + (rest.map fun v => v.category).sum ≤ W) (hd : decode c.code g.pc = .ok (.invokespecial index, 3)) (has : (.ref b :: argsL).toArray = as') (hf : rm.frames + 1 ≤ R.frames) (hl : W + (maxL + 11) + rm.locals ≤ R.locals) (hc : cells + rm.cells ≤ R.cells) (hs : slots + rm.slots ≤ R.slots) :
    ∃ T' v L, Stand p l e R s m args below meth c T' (locs ++ L) (cells + rm.cells) (slots + rm.slots) ∧ Q v T'.heap L ∧ Steps p.tables e below (T.setTop g) (T'.setTop { g with pc := g.pc + 3, stack := v.toList ++ rest }) := by
  obtain ⟨v, vm1, ⟨T', L', k', n'⟩, -, X', ⟨Lc, hQ, l', y', z'⟩, st⟩ := X.specialBackNest hx h1 hown (own_mvNest hZ w1) (mvT hZ w2) (mvT hZ w5) hy (backOf hM hZ w5 w6 hf hl) hg hsize (Steps.refl _) (a := b) hlen hst hW hd (fun _ _ => ⟨has, eT, hc, hs⟩)
  dsimp only [Pt.U, Pt.locs, Pt.cells, Pt.slots] at X' l' y' z' st hQ
  subst l' y' z'
  exact ⟨T', v, Lc, X', hQ, st⟩
theorem own_cp {p : Program} {l : Launch} {e : Env} {R : Room} {s : State} {m : MethodId} {args : Array Value} {below : List Frame} {meth : Method} {c : Code} {T : State} {locs : List Loc} {cells slots : Nat} {Z : State} {a0 : Array Value} {h : Heap} {own : String} {index : Nat} {y : MethodName} {bytes : ByteArray} {maxL : Nat} {ret : Option FieldType} {rm : Room} {as' : Array Value} {Q : Option Value → Heap → List Loc → Prop} {b : Addr} {W : Nat} {argsL rest : List Value} {g : JFrame} (X : Stand p l e R s m args below meth c T locs cells slots) (hx : p.tables.exec = Jvm.exec) (hZ : Z.Warmed39 s.vm) (hown : s.vm.findClass own = some m.cls) (w1 : (Cond.methodLink own index y).before a0 Z = true) (w2 : (Cond.instanceMethod y).before a0 Z = true) (w3 : (Cond.selects y.cls y y).before a0 Z = true) (w4 : (Cond.privateMethod y).before a0 Z = true) (w5 : (Cond.code y bytes maxL ret).before a0 Z = true) (w6 : (Cond.initialized y.cls).before a0 Z = true) (hy : y.cls ≠ "java/lang/invoke/MethodHandle" ∧ y.cls ≠ "java/lang/invoke/VarHandle") (eT : T.heap = h) (E : Exa Z h b y.cls) (hM : Met l Z [] y bytes maxL ret rm as' h Q)
    (hg : g.method = m) (hsize : g.locals.size = c.maxLocals) (hlen : ∀ sig, parseMethodDescriptor y.desc = some sig → argsL.length = sig.parameters.length) (hst : g.stack = argsL.reverse ++ .ref b :: rest) (hW : 2 * g.monitorRoom + (rest.map fun v => v.category).sum ≤ W) (hd : decode c.code g.pc = .ok (.invokevirtual index, 3)) (has : (.ref b :: argsL).toArray = as') (hf : rm.frames + 1 ≤ R.frames) (hl : W + (maxL + 11) + rm.locals ≤ R.locals) (hc : cells + rm.cells ≤ R.cells) (hs : slots + rm.slots ≤ R.slots) :
    ∃ T' v L, Stand p l e R s m args below meth c T' (locs ++ L) (cells + rm.cells) (slots + rm.slots) ∧ Q v T'.heap L ∧ Steps p.tables e below (T.setTop g) (T'.setTop { g with pc := g.pc + 3, stack := v.toList ++ rest }) := by
  obtain ⟨cq, q, q'⟩ := E.cell
  obtain ⟨v, vm1, ⟨T', L', k', n'⟩, -, X', ⟨Lc, hQ, l', y', z'⟩, st⟩ := X.privateBack hx hown (mvT hZ w1) (mvT hZ w2) (mvT hZ w3) (Cond.privateMethod_at (mvP hZ w4 (args := #[]))) (mvT hZ w5) hy (backOf hM hZ w5 w6 hf hl) hg hsize (Steps.refl _) (a := b) (by rw [eT]; exact q) q' hlen hst hW hd (fun _ _ => ⟨has, eT, hc, hs⟩)
  dsimp only [Pt.U, Pt.locs, Pt.cells, Pt.slots] at X' l' y' z' st hQ
  subst l' y' z'
  exact ⟨T', v, Lc, X', hQ, st⟩
theorem own_cf {p : Program} {l : Launch} {e : Env} {R : Room} {s : State} {m : MethodId} {args : Array Value} {below : List Frame} {meth : Method} {c : Code} {T : State} {locs : List Loc} {cells slots : Nat} {Z : State} {a0 : Array Value} {h : Heap} {own : String} {index : Nat} {y z : MethodName} {bytes : ByteArray} {maxL : Nat} {ret : Option FieldType} {rm : Room} {as' : Array Value} {Q : Option Value → Heap → List Loc → Prop} {b : Addr} {W : Nat} {argsL rest : List Value} {g : JFrame} {C : String} {count : Nat} (X : Stand p l e R s m args below meth c T locs cells slots) (hx : p.tables.exec = Jvm.exec) (hZ : Z.Warmed39 s.vm) (hown : s.vm.findClass own = some m.cls) (w1 : (Cond.methodLink own index y).before a0 Z = true) (w2 : (Cond.declares y).before a0 Z = true) (w7 : (Cond.interfaceMethod y.cls y.cls y.name y.desc).before a0 Z = true) (w3 : (Cond.selects C y z).before a0 Z = true) (w4 : (Cond.instanceMethod z).before a0 Z = true) (w8 : (Cond.publicMethod z).before a0 Z = true) (w9 : (Cond.unhidden C y.name y.desc).before a0 Z = true) (w10 : (Cond.castable C y.cls).before a0 Z = true) (w5 : (Cond.code z bytes maxL ret).before a0 Z = true) (w6 : (Cond.initialized z.cls).before a0 Z = true) (hy : y.cls ≠ "java/lang/invoke/MethodHandle" ∧ y.cls ≠ "java/lang/invoke/VarHandle") (eT : T.heap = h) (E : Exa Z h b C) (hM : Met l Z [] z bytes maxL ret rm as' h Q)
    (hg : g.method = m) (hsize : g.locals.size = c.maxLocals) (hlen : ∀ sig, parseMethodDescriptor y.desc = some sig → argsL.length = sig.parameters.length) (hst : g.stack = argsL.reverse ++ .ref b :: rest) (hW : 2 * g.monitorRoom + (rest.map fun v => v.category).sum ≤ W) (hd : decode c.code g.pc = .ok (.invokeinterface index count, 5)) (has : (.ref b :: argsL).toArray = as') (hf : rm.frames + 1 ≤ R.frames) (hl : W + (maxL + 11) + rm.locals ≤ R.locals) (hc : cells + rm.cells ≤ R.cells) (hs : slots + rm.slots ≤ R.slots) :
    ∃ T' v L, Stand p l e R s m args below meth c T' (locs ++ L) (cells + rm.cells) (slots + rm.slots) ∧ Q v T'.heap L ∧ Steps p.tables e below (T.setTop g) (T'.setTop { g with pc := g.pc + 5, stack := v.toList ++ rest }) := by
  obtain ⟨cq, kq, qa, qb, qc⟩ := isOf hZ eT E
  obtain ⟨v, vm1, ⟨T', L', k', n'⟩, -, X', ⟨Lc, hQ, l', y', z'⟩, st⟩ := X.interfaceBack hx hown (mvT hZ w1) (mvT hZ w2) (mvT hZ w7 (by simp [Cond.onTables, Cond.keepsFace, Cond.keeps, Cond.steady, Cond.faceAtom, hy.1, hy.2])) (mvT hZ w3) (mvT hZ w4) (mvT hZ w8) (mvT hZ w9) (mvT hZ w10) hy (backOf hM hZ w5 w6 hf hl) qa qb qc hg hsize (Steps.refl _) hlen hst hW hd (fun _ _ => ⟨has, eT, hc, hs⟩)
  dsimp only [Pt.U, Pt.locs, Pt.cells, Pt.slots] at X' l' y' z' st hQ
  subst l' y' z'
  exact ⟨T', v, Lc, X', hQ, st⟩
theorem Go.cps {p : Program} {e : Env} {below : List Frame} {s : State} {Q : Option Value → Heap → List Loc → Prop} {C S : Nat} {t : State} {A : State → List Loc → Prop} {B : Option Value → State → List Loc → Prop} {N : State → Option Value → State} (h : ∃ T' v L, A T' L ∧ B v T' L ∧ Steps p.tables e below t (N T' v)) (k : ∀ T' v L, A T' L → B v T' L → Go p e below s Q C S (N T' v)) : Go p e below s Q C S t := by
  obtain ⟨T', v, L, h1, h2, h3⟩ := h
  exact Go.by h3 (k T' v L h1 h2)
theorem GoW.cps {p : Program} {e : Env} {below : List Frame} {s : State} {Q : Option Value → Heap → List Loc → Prop} {C S : Nat} {t : State} {A : State → List Loc → Prop} {B : Option Value → State → List Loc → Prop} {N : State → Option Value → State} (h : ∃ T' v L, A T' L ∧ B v T' L ∧ Steps p.tables e below t (N T' v)) (k : ∀ T' v L, A T' L → B v T' L → GoW p e below s Q C S (N T' v)) : GoW p e below s Q C S t := by
  obtain ⟨T', v, L, h1, h2, h3⟩ := h
  exact GoW.by h3 (k T' v L h1 h2)
theorem mI0 {x0 : Addr} {r : List Addr} : x0 ∈ x0 :: r := List.mem_of_getElem? (i := 0) rfl
theorem mI1 {x0 x1 : Addr} {r : List Addr} : x1 ∈ x0 :: x1 :: r := List.mem_of_getElem? (i := 1) rfl
theorem mI2 {x0 x1 x2 : Addr} {r : List Addr} : x2 ∈ x0 :: x1 :: x2 :: r := List.mem_of_getElem? (i := 2) rfl
theorem mI3 {x0 x1 x2 x3 : Addr} {r : List Addr} : x3 ∈ x0 :: x1 :: x2 :: x3 :: r := List.mem_of_getElem? (i := 3) rfl
theorem mI4 {x0 x1 x2 x3 x4 : Addr} {r : List Addr} : x4 ∈ x0 :: x1 :: x2 :: x3 :: x4 :: r := List.mem_of_getElem? (i := 4) rfl
theorem mI5 {x0 x1 x2 x3 x4 x5 : Addr} {r : List Addr} : x5 ∈ x0 :: x1 :: x2 :: x3 :: x4 :: x5 :: r := List.mem_of_getElem? (i := 5) rfl
end Jvm.RoadKit
namespace Jvm.Pilot.@@N@@
open Jvm Jvm.ClassFile Sem Op Lib Jvm.Free Jvm.Stand Jvm.LawKit Jvm.RoadKit Bundle Jvm.Pilot.@@N@@.Jvm.D
set_option maxRecDepth 65536
set_option maxHeartbeats 40000000
theorem own_and1 (p : Int32) : (p &&& (1 : Int32)) = (0 : Int32) ∨ (p &&& (1 : Int32)) = (1 : Int32) := by
  have h := c_and p 1 (by decide)
  have e0 : (0 : Int32).toInt = 0 := rfl
  have e1 : (1 : Int32).toInt = 1 := rfl
  simp only [← Int32.toInt_inj, e0, e1]
  omega
theorem own_cnt {p c : Int32} (h : c = (1 : Int32) + (p &&& (1 : Int32))) : c = (1 : Int32) ∨ c = (2 : Int32) := by
  rcases own_and1 p with q | q <;> rw [q] at h <;> subst h <;> decide
abbrev sq0 : String := "com/example/docstride/docstride/search/topk/StretchQueue"
theorem d1_0 : decode prog_63_method_1_code 0 = .ok (.aload_n 0, 1) := by decide +kernel
theorem d1_1 : decode prog_63_method_1_code 1 = .ok (.invokespecial 1, 3) := by decide +kernel
theorem tw9 : (Jvm.Cond.methodLink "com/example/docstride/docstride/search/topk/StretchQueue" (1 : Nat) ({ cls := "java/lang/Object", name := "<init>", desc := "()V" } : Jvm.MethodName)) ∈ tables_1 := List.mem_of_getElem? (i := 9) rfl
theorem tw10 : (Jvm.Cond.instanceMethod ({ cls := "java/lang/Object", name := "<init>", desc := "()V" } : Jvm.MethodName)) ∈ tables_1 := List.mem_of_getElem? (i := 10) rfl
theorem tw11 : (Jvm.Cond.code ({ cls := "java/lang/Object", name := "<init>", desc := "()V" } : Jvm.MethodName) object_method_1_code (1 : Nat) (Option.none : Option Jvm.ClassFile.FieldType)) ∈ tables_1 := List.mem_of_getElem? (i := 11) rfl
theorem d1_4 : decode prog_63_method_1_code 4 = .ok (.aload_n 0, 1) := by decide +kernel
theorem d1_5 : decode prog_63_method_1_code 5 = .ok (.bipush 16, 2) := by decide +kernel
theorem d1_7 : decode prog_63_method_1_code 7 = .ok (.newarray .int, 2) := by decide +kernel
theorem tw0 : (Jvm.Cond.arrayClass Jvm.ClassFile.FieldType.int) ∈ tables_1 := List.mem_of_getElem? (i := 0) rfl
theorem d1_9 : decode prog_63_method_1_code 9 = .ok (.putfield 9, 3) := by decide +kernel
theorem tw12 : (Jvm.Cond.fieldLink "com/example/docstride/docstride/search/topk/StretchQueue" (9 : Nat) "com/example/docstride/docstride/search/topk/StretchQueue" "starts" "[I") ∈ tables_1 := List.mem_of_getElem? (i := 12) rfl
theorem tw13 : (Jvm.Cond.lays "com/example/docstride/docstride/search/topk/StretchQueue" "com/example/docstride/docstride/search/topk/StretchQueue" "starts" "[I") ∈ tables_1 := List.mem_of_getElem? (i := 13) rfl
theorem tw4 : (Jvm.Cond.instantiable "com/example/docstride/docstride/search/topk/StretchQueue" (14 : Nat)) ∈ tables_1 := List.mem_of_getElem? (i := 4) rfl
theorem d1_12 : decode prog_63_method_1_code 12 = .ok (.aload_n 0, 1) := by decide +kernel
theorem d1_13 : decode prog_63_method_1_code 13 = .ok (.bipush 16, 2) := by decide +kernel
theorem d1_15 : decode prog_63_method_1_code 15 = .ok (.newarray .int, 2) := by decide +kernel
theorem d1_17 : decode prog_63_method_1_code 17 = .ok (.putfield 13, 3) := by decide +kernel
theorem tw14 : (Jvm.Cond.fieldLink "com/example/docstride/docstride/search/topk/StretchQueue" (13 : Nat) "com/example/docstride/docstride/search/topk/StretchQueue" "nexts" "[I") ∈ tables_1 := List.mem_of_getElem? (i := 14) rfl
theorem tw15 : (Jvm.Cond.lays "com/example/docstride/docstride/search/topk/StretchQueue" "com/example/docstride/docstride/search/topk/StretchQueue" "nexts" "[I") ∈ tables_1 := List.mem_of_getElem? (i := 15) rfl
theorem d1_20 : decode prog_63_method_1_code 20 = .ok (.aload_n 0, 1) := by decide +kernel
theorem d1_21 : decode prog_63_method_1_code 21 = .ok (.bipush 16, 2) := by decide +kernel
theorem d1_23 : decode prog_63_method_1_code 23 = .ok (.newarray .int, 2) := by decide +kernel
theorem d1_25 : decode prog_63_method_1_code 25 = .ok (.putfield 16, 3) := by decide +kernel
theorem tw16 : (Jvm.Cond.fieldLink "com/example/docstride/docstride/search/topk/StretchQueue" (16 : Nat) "com/example/docstride/docstride/search/topk/StretchQueue" "ends" "[I") ∈ tables_1 := List.mem_of_getElem? (i := 16) rfl
theorem tw17 : (Jvm.Cond.lays "com/example/docstride/docstride/search/topk/StretchQueue" "com/example/docstride/docstride/search/topk/StretchQueue" "ends" "[I") ∈ tables_1 := List.mem_of_getElem? (i := 17) rfl
theorem d1_28 : decode prog_63_method_1_code 28 = .ok (.aload_n 0, 1) := by decide +kernel
theorem d1_29 : decode prog_63_method_1_code 29 = .ok (.bipush 16, 2) := by decide +kernel
theorem d1_31 : decode prog_63_method_1_code 31 = .ok (.newarray .double, 2) := by decide +kernel
theorem tw1 : (Jvm.Cond.arrayClass Jvm.ClassFile.FieldType.double) ∈ tables_1 := List.mem_of_getElem? (i := 1) rfl
theorem d1_33 : decode prog_63_method_1_code 33 = .ok (.putfield 19, 3) := by decide +kernel
theorem tw18 : (Jvm.Cond.fieldLink "com/example/docstride/docstride/search/topk/StretchQueue" (19 : Nat) "com/example/docstride/docstride/search/topk/StretchQueue" "bounds" "[D") ∈ tables_1 := List.mem_of_getElem? (i := 18) rfl
theorem tw19 : (Jvm.Cond.lays "com/example/docstride/docstride/search/topk/StretchQueue" "com/example/docstride/docstride/search/topk/StretchQueue" "bounds" "[D") ∈ tables_1 := List.mem_of_getElem? (i := 19) rfl
theorem d1_36 : decode prog_63_method_1_code 36 = .ok (.aload_n 0, 1) := by decide +kernel
theorem d1_37 : decode prog_63_method_1_code 37 = .ok (.bipush 16, 2) := by decide +kernel
theorem d1_39 : decode prog_63_method_1_code 39 = .ok (.newarray .boolean, 2) := by decide +kernel
theorem tw20 : (Jvm.Cond.arrayClass Jvm.ClassFile.FieldType.boolean) ∈ tables_1 := List.mem_of_getElem? (i := 20) rfl
theorem d1_41 : decode prog_63_method_1_code 41 = .ok (.putfield 23, 3) := by decide +kernel
theorem tw21 : (Jvm.Cond.fieldLink "com/example/docstride/docstride/search/topk/StretchQueue" (23 : Nat) "com/example/docstride/docstride/search/topk/StretchQueue" "windows" "[Z") ∈ tables_1 := List.mem_of_getElem? (i := 21) rfl
theorem tw22 : (Jvm.Cond.lays "com/example/docstride/docstride/search/topk/StretchQueue" "com/example/docstride/docstride/search/topk/StretchQueue" "windows" "[Z") ∈ tables_1 := List.mem_of_getElem? (i := 22) rfl
theorem d1_44 : decode prog_63_method_1_code 44 = .ok (.aload_n 0, 1) := by decide +kernel
theorem d1_45 : decode prog_63_method_1_code 45 = .ok (.bipush 16, 2) := by decide +kernel
theorem d1_47 : decode prog_63_method_1_code 47 = .ok (.newarray .int, 2) := by decide +kernel
theorem d1_49 : decode prog_63_method_1_code 49 = .ok (.putfield 27, 3) := by decide +kernel
theorem tw23 : (Jvm.Cond.fieldLink "com/example/docstride/docstride/search/topk/StretchQueue" (27 : Nat) "com/example/docstride/docstride/search/topk/StretchQueue" "heap" "[I") ∈ tables_1 := List.mem_of_getElem? (i := 23) rfl
theorem tw24 : (Jvm.Cond.lays "com/example/docstride/docstride/search/topk/StretchQueue" "com/example/docstride/docstride/search/topk/StretchQueue" "heap" "[I") ∈ tables_1 := List.mem_of_getElem? (i := 24) rfl
theorem d1_52 : decode prog_63_method_1_code 52 = .ok (.aload_n 0, 1) := by decide +kernel
theorem d1_53 : decode prog_63_method_1_code 53 = .ok (.bipush 16, 2) := by decide +kernel
theorem d1_55 : decode prog_63_method_1_code 55 = .ok (.newarray .double, 2) := by decide +kernel
theorem d1_57 : decode prog_63_method_1_code 57 = .ok (.putfield 30, 3) := by decide +kernel
theorem tw25 : (Jvm.Cond.fieldLink "com/example/docstride/docstride/search/topk/StretchQueue" (30 : Nat) "com/example/docstride/docstride/search/topk/StretchQueue" "heapBounds" "[D") ∈ tables_1 := List.mem_of_getElem? (i := 25) rfl
theorem tw26 : (Jvm.Cond.lays "com/example/docstride/docstride/search/topk/StretchQueue" "com/example/docstride/docstride/search/topk/StretchQueue" "heapBounds" "[D") ∈ tables_1 := List.mem_of_getElem? (i := 26) rfl
theorem d1_60 : decode prog_63_method_1_code 60 = .ok (.aload_n 0, 1) := by decide +kernel
theorem d1_61 : decode prog_63_method_1_code 61 = .ok (.bipush 16, 2) := by decide +kernel
theorem d1_63 : decode prog_63_method_1_code 63 = .ok (.newarray .int, 2) := by decide +kernel
theorem d1_65 : decode prog_63_method_1_code 65 = .ok (.putfield 33, 3) := by decide +kernel
theorem tw27 : (Jvm.Cond.fieldLink "com/example/docstride/docstride/search/topk/StretchQueue" (33 : Nat) "com/example/docstride/docstride/search/topk/StretchQueue" "heapStarts" "[I") ∈ tables_1 := List.mem_of_getElem? (i := 27) rfl
theorem tw28 : (Jvm.Cond.lays "com/example/docstride/docstride/search/topk/StretchQueue" "com/example/docstride/docstride/search/topk/StretchQueue" "heapStarts" "[I") ∈ tables_1 := List.mem_of_getElem? (i := 28) rfl
theorem d1_68 : decode prog_63_method_1_code 68 = .ok (.aload_n 0, 1) := by decide +kernel
theorem d1_69 : decode prog_63_method_1_code 69 = .ok (.iload_n 1, 1) := by decide +kernel
theorem d1_70 : decode prog_63_method_1_code 70 = .ok (.putfield 36, 3) := by decide +kernel
theorem tw29 : (Jvm.Cond.fieldLink "com/example/docstride/docstride/search/topk/StretchQueue" (36 : Nat) "com/example/docstride/docstride/search/topk/StretchQueue" "count" "I") ∈ tables_1 := List.mem_of_getElem? (i := 29) rfl
theorem tw30 : (Jvm.Cond.laysFinal "com/example/docstride/docstride/search/topk/StretchQueue" "com/example/docstride/docstride/search/topk/StretchQueue" "count" "I") ∈ tables_1 := List.mem_of_getElem? (i := 30) rfl
theorem d1_73 : decode prog_63_method_1_code 73 = .ok (.aload_n 0, 1) := by decide +kernel
theorem d1_74 : decode prog_63_method_1_code 74 = .ok (.bipush 16, 2) := by decide +kernel
theorem d1_76 : decode prog_63_method_1_code 76 = .ok (.iload_n 1, 1) := by decide +kernel
theorem d1_77 : decode prog_63_method_1_code 77 = .ok (.imul, 1) := by decide +kernel
theorem d1_78 : decode prog_63_method_1_code 78 = .ok (.newarray .int, 2) := by decide +kernel
theorem d1_80 : decode prog_63_method_1_code 80 = .ok (.putfield 40, 3) := by decide +kernel
theorem tw31 : (Jvm.Cond.fieldLink "com/example/docstride/docstride/search/topk/StretchQueue" (40 : Nat) "com/example/docstride/docstride/search/topk/StretchQueue" "entries" "[I") ∈ tables_1 := List.mem_of_getElem? (i := 31) rfl
theorem tw32 : (Jvm.Cond.lays "com/example/docstride/docstride/search/topk/StretchQueue" "com/example/docstride/docstride/search/topk/StretchQueue" "entries" "[I") ∈ tables_1 := List.mem_of_getElem? (i := 32) rfl
theorem d1_83 : decode prog_63_method_1_code 83 = .ok (.aload_n 0, 1) := by decide +kernel
theorem d1_84 : decode prog_63_method_1_code 84 = .ok (.bipush 16, 2) := by decide +kernel
theorem d1_86 : decode prog_63_method_1_code 86 = .ok (.iload_n 1, 1) := by decide +kernel
theorem d1_87 : decode prog_63_method_1_code 87 = .ok (.imul, 1) := by decide +kernel
theorem d1_88 : decode prog_63_method_1_code 88 = .ok (.newarray .int, 2) := by decide +kernel
theorem d1_90 : decode prog_63_method_1_code 90 = .ok (.putfield 43, 3) := by decide +kernel
theorem tw33 : (Jvm.Cond.fieldLink "com/example/docstride/docstride/search/topk/StretchQueue" (43 : Nat) "com/example/docstride/docstride/search/topk/StretchQueue" "blocks" "[I") ∈ tables_1 := List.mem_of_getElem? (i := 33) rfl
theorem tw34 : (Jvm.Cond.lays "com/example/docstride/docstride/search/topk/StretchQueue" "com/example/docstride/docstride/search/topk/StretchQueue" "blocks" "[I") ∈ tables_1 := List.mem_of_getElem? (i := 34) rfl
theorem d1_93 : decode prog_63_method_1_code 93 = .ok (.aload_n 0, 1) := by decide +kernel
theorem d1_94 : decode prog_63_method_1_code 94 = .ok (.bipush 16, 2) := by decide +kernel
theorem d1_96 : decode prog_63_method_1_code 96 = .ok (.iload_n 1, 1) := by decide +kernel
theorem d1_97 : decode prog_63_method_1_code 97 = .ok (.imul, 1) := by decide +kernel
theorem d1_98 : decode prog_63_method_1_code 98 = .ok (.newarray .double, 2) := by decide +kernel
theorem d1_100 : decode prog_63_method_1_code 100 = .ok (.putfield 46, 3) := by decide +kernel
theorem tw35 : (Jvm.Cond.fieldLink "com/example/docstride/docstride/search/topk/StretchQueue" (46 : Nat) "com/example/docstride/docstride/search/topk/StretchQueue" "parts" "[D") ∈ tables_1 := List.mem_of_getElem? (i := 35) rfl
theorem tw36 : (Jvm.Cond.lays "com/example/docstride/docstride/search/topk/StretchQueue" "com/example/docstride/docstride/search/topk/StretchQueue" "parts" "[D") ∈ tables_1 := List.mem_of_getElem? (i := 36) rfl
theorem d1_103 : decode prog_63_method_1_code 103 = .ok (.return_, 1) := by decide +kernel
theorem tw43 : (Jvm.Cond.lays "com/example/docstride/docstride/search/topk/StretchQueue" "com/example/docstride/docstride/search/topk/StretchQueue" "added" "I") ∈ tables_1 := List.mem_of_getElem? (i := 43) rfl
theorem tw49 : (Jvm.Cond.lays "com/example/docstride/docstride/search/topk/StretchQueue" "com/example/docstride/docstride/search/topk/StretchQueue" "size" "I") ∈ tables_1 := List.mem_of_getElem? (i := 49) rfl
theorem ef1_1 (m : MethodId) (x0 : Addr) : entryFrame m #[(.ref x0), (.int 1)] 2 = mkF m 0 #[.val (.ref x0), .val (.int 1)] [] := by first | (simp [entryFrame, mkF, argsToLocals, Value.category]; done) | rfl
def Q1_1 (Z : State) (a0_ : Addr) (h0 : Heap) (n0 : Nat) (v : Option Value) (h : Heap) (L : List Loc) : Prop := ∃ (x_starts : Addr) (x_nexts : Addr) (x_ends : Addr) (x_bounds : Addr) (x_windows : Addr) (x_heap : Addr) (x_heapBounds : Addr) (x_heapStarts : Addr) (x_entries : Addr) (x_blocks : Addr) (x_parts : Addr) (k_starts : ClassId) (k_nexts : ClassId) (k_ends : ClassId) (k_bounds : ClassId) (k_windows : ClassId) (k_heap : ClassId) (k_heapBounds : ClassId) (k_heapStarts : ClassId) (k_entries : ClassId) (k_blocks : ClassId) (k_parts : ClassId), v = none ∧ Fr n0 L ∧ Keep h0 h [a0_] ∧ h0.size ≤ x_starts ∧ h0.size ≤ x_nexts ∧ h0.size ≤ x_ends ∧ h0.size ≤ x_bounds ∧ h0.size ≤ x_windows ∧ h0.size ≤ x_heap ∧ h0.size ≤ x_heapBounds ∧ h0.size ≤ x_heapStarts ∧ h0.size ≤ x_entries ∧ h0.size ≤ x_blocks ∧ h0.size ≤ x_parts ∧ x_starts < x_nexts ∧ x_nexts < x_ends ∧ x_ends < x_bounds ∧ x_bounds < x_windows ∧ x_windows < x_heap ∧ x_heap < x_heapBounds ∧ x_heapBounds < x_heapStarts ∧ x_heapStarts < x_entries ∧ x_entries < x_blocks ∧ x_blocks < x_parts ∧ Exa Z h a0_ sq0 ∧ Fld Z h a0_ sq0 "count" "I" (.int 1) ∧ Fld Z h a0_ sq0 "added" "I" (.int 0) ∧ Fld Z h a0_ sq0 "size" "I" (.int 0) ∧ Fld Z h a0_ sq0 "starts" "[I" (.ref x_starts) ∧ Arv Z h x_starts k_starts .int (16 : Int32) [(.int 0), (.int 0), (.int 0), (.int 0)] (.int 0) ∧ Fld Z h a0_ sq0 "nexts" "[I" (.ref x_nexts) ∧ Arv Z h x_nexts k_nexts .int (16 : Int32) [(.int 0), (.int 0), (.int 0), (.int 0)] (.int 0) ∧ Fld Z h a0_ sq0 "ends" "[I" (.ref x_ends) ∧ Arv Z h x_ends k_ends .int (16 : Int32) [(.int 0), (.int 0), (.int 0), (.int 0)] (.int 0) ∧ Fld Z h a0_ sq0 "bounds" "[D" (.ref x_bounds) ∧ Arv Z h x_bounds k_bounds .double (16 : Int32) [(.double (FP.l2d 0)), (.double (FP.l2d 0)), (.double (FP.l2d 0)), (.double (FP.l2d 0))] (.double (FP.l2d 0)) ∧ Fld Z h a0_ sq0 "windows" "[Z" (.ref x_windows) ∧ Arv Z h x_windows k_windows .boolean (16 : Int32) [(.int 0), (.int 0), (.int 0), (.int 0)] (.int 0) ∧ Fld Z h a0_ sq0 "heap" "[I" (.ref x_heap) ∧ Arv Z h x_heap k_heap .int (16 : Int32) [(.int 0), (.int 0), (.int 0), (.int 0)] (.int 0) ∧ Fld Z h a0_ sq0 "heapBounds" "[D" (.ref x_heapBounds) ∧ Arv Z h x_heapBounds k_heapBounds .double (16 : Int32) [(.double (FP.l2d 0)), (.double (FP.l2d 0)), (.double (FP.l2d 0)), (.double (FP.l2d 0))] (.double (FP.l2d 0)) ∧ Fld Z h a0_ sq0 "heapStarts" "[I" (.ref x_heapStarts) ∧ Arv Z h x_heapStarts k_heapStarts .int (16 : Int32) [(.int 0), (.int 0), (.int 0), (.int 0)] (.int 0) ∧ Fld Z h a0_ sq0 "entries" "[I" (.ref x_entries) ∧ Arv Z h x_entries k_entries .int (16 : Int32) [(.int 0), (.int 0), (.int 0), (.int 0)] (.int 0) ∧ Fld Z h a0_ sq0 "blocks" "[I" (.ref x_blocks) ∧ Arv Z h x_blocks k_blocks .int (16 : Int32) [(.int 0), (.int 0), (.int 0), (.int 0)] (.int 0) ∧ Fld Z h a0_ sq0 "parts" "[D" (.ref x_parts) ∧ Arv Z h x_parts k_parts .double (16 : Int32) [(.double (FP.l2d 0)), (.double (FP.l2d 0)), (.double (FP.l2d 0)), (.double (FP.l2d 0))] (.double (FP.l2d 0))
theorem pn56 : plainName "com/example/docstride/docstride/search/topk/StretchQueue" = true := by first | (simp [plainName, overriddenIn]; done) | decide +kernel
theorem rm1_1 (l : Launch) (Z : State) (a0 : Array Value) (hw : ∀ d ∈ tables_1, d.before a0 Z = true) (ws : List Jvm.Cond) (a0_ : Addr) (h0 : Heap) (n0 : Nat) (Z0 : n0 ≤ h0.size) (O0 : Old Z n0 h0) (E0 : Exa Z h0 a0_ sq0) (g_a0 : n0 ≤ a0_) (F_starts : Fld Z h0 a0_ sq0 "starts" "[I" .null) (F_nexts : Fld Z h0 a0_ sq0 "nexts" "[I" .null) (F_ends : Fld Z h0 a0_ sq0 "ends" "[I" .null) (F_bounds : Fld Z h0 a0_ sq0 "bounds" "[D" .null) (F_windows : Fld Z h0 a0_ sq0 "windows" "[Z" .null) (F_heap : Fld Z h0 a0_ sq0 "heap" "[I" .null) (F_heapBounds : Fld Z h0 a0_ sq0 "heapBounds" "[D" .null) (F_heapStarts : Fld Z h0 a0_ sq0 "heapStarts" "[I" .null) (F_entries : Fld Z h0 a0_ sq0 "entries" "[I" .null) (F_blocks : Fld Z h0 a0_ sq0 "blocks" "[I" .null) (F_parts : Fld Z h0 a0_ sq0 "parts" "[D" .null) (F_count : Fld Z h0 a0_ sq0 "count" "I" (.int 0)) (F_added : Fld Z h0 a0_ sq0 "added" "I" (.int 0)) (F_size : Fld Z h0 a0_ sq0 "size" "I" (.int 0)) :
    Met l Z ws (⟨sq0, "<init>", "(I)V"⟩ : MethodName) prog_63_method_1_code 2 none (Rm 1 11 176 12) #[(.ref a0_), (.int 1)] h0 (Q1_1 Z a0_ h0 n0) := by
  refine Met.enter (L0 := #[.val (.ref a0_), .val (.int 1)]) (plainFor_of_name pn56) (fun m => ef1_1 m a0_) ?_
  intro p e s m below meth c s₁ hx hby hml hown hnm hret hlk hZ X0 e0
  have N0 := Fr.nil n0
  have K0 : Keep h0 h0 [a0_] := Keep.refl h0 _
  refine Go.st (t' := s₁.setTop (mkF m 1 #[.val (.ref a0_), .val (.int 1)] [(.ref a0_)])) (fun target kt => ?_) ?_
  · refine XS.aloadN X0.here hx rfl (hb hby d1_0) rfl rfl ?_
    exact kt
  obtain ⟨T10, X10, e10, st10⟩ := initO X0 hx hZ hown (hw _ tw9) (hw _ tw10) (hw _ tw11) e0 (g := (mkF m 1 #[.val (.ref a0_), .val (.int 1)] [(.ref a0_)])) rfl (by rw [hml]; rfl) rfl (hb hby d1_1) (by decide) (W := 0) (by show 2 * 0 + _ ≤ _; exact Nat.le_of_eq rfl) (by decide)
  refine Go.st st10 ?_
  refine Go.st (t' := T10.setTop (mkF m 7 #[.val (.ref a0_), .val (.int 1)] [(.int 16), (.ref a0_)])) (fun target kt => ?_) ?_
  · refine XS.aloadN X10.here hx rfl (hb hby d1_4) rfl rfl ?_
    refine XS.bipush X10.here hx rfl (hb hby d1_5) ?_
    exact kt
  obtain ⟨T11, h11, k11, X11, e11, E11, A11, B11, st11⟩ := newPE (aty := .int) X10 hx hZ (hw _ tw0) e10 (g := (mkF m 7 #[.val (.ref a0_), .val (.int 1)] [(.int 16), (.ref a0_)])) rfl (hb hby d1_7) rfl (by decide) (cap := 16) (by decide) (by decide) (by decide) (by decide) (ad := "[I") (by decide)
  obtain ⟨b11, g11⟩ : ∃ z, z = h0.size := ⟨_, rfl⟩
  rw [← g11] at A11 B11 st11
  have lb12 : h0.size ≤ b11 := Nat.le_of_eq g11.symm
  have sz13 : h0.size ≤ b11 := Nat.le_trans K0.1 lb12
  have g14 : n0 ≤ b11 := Nat.le_trans Z0 sz13
  have K15 := K0.ext E11
  have O16 := O0.ext E11
  have V17 : Arv Z h11 b11 k11 .int (16 : Int32) [(.int 0), (.int 0), (.int 0), (.int 0)] (.int 0) := (Arv.new A11 (by decide)).pad (pad_rep [] (.int 0) 4)
  refine Go.st st11 ?_
  have c18 := F_starts.ext E11
  have c19 := E0.keep K15
  obtain ⟨T20, h20, X20, e20, W20, st20⟩ := putF X11 hx hZ hown (host := "") (Or.inl (hw _ tw12)) Via.refl e11 c18 c19 (Or.inl (hw _ tw13)) (hw _ tw4) (ty := (.array .int)) (by decide) rfl rfl (g := (mkF m 9 #[.val (.ref a0_), .val (.int 1)] [(.ref b11), (.ref a0_)])) rfl rfl (hb hby d1_9)
  have F21 : Fld Z h20 a0_ sq0 "starts" "[I" (.ref b11) := c18.same W20
  have K22 := K15.wr W20 (Or.inl mI0)
  have O23 := O16.wr W20 g_a0
  have N20 := Fr.snoc X20 N0 g_a0
  refine Go.st st20 ?_
  refine Go.st (t' := T20.setTop (mkF m 15 #[.val (.ref a0_), .val (.int 1)] [(.int 16), (.ref a0_)])) (fun target kt => ?_) ?_
  · refine XS.aloadN X20.here hx rfl (hb hby d1_12) rfl rfl ?_
    refine XS.bipush X20.here hx rfl (hb hby d1_13) ?_
    exact kt
  obtain ⟨T24, h24, k24, X24, e24, E24, A24, B24, st24⟩ := newPE (aty := .int) X20 hx hZ (hw _ tw0) e20 (g := (mkF m 15 #[.val (.ref a0_), .val (.int 1)] [(.int 16), (.ref a0_)])) rfl (hb hby d1_15) rfl (by decide) (cap := 16) (by decide) (by decide) (by decide) (by decide) (ad := "[I") (by decide)
  obtain ⟨b24, g24⟩ : ∃ z, z = h20.size := ⟨_, rfl⟩
  rw [← g24] at A24 B24 st24
  have lb25 : h20.size ≤ b24 := Nat.le_of_eq g24.symm
  have sz26 : h0.size ≤ b24 := Nat.le_trans K22.1 lb25
  have g27 : n0 ≤ b24 := Nat.le_trans Z0 sz26
  have K28 := K22.ext E24
  have O29 := O23.ext E24
  have V30 : Arv Z h24 b24 k24 .int (16 : Int32) [(.int 0), (.int 0), (.int 0), (.int 0)] (.int 0) := (Arv.new A24 (by decide)).pad (pad_rep [] (.int 0) 4)
  refine Go.st st24 ?_
  have c31 := ((F_nexts.ext E11).other W20 (Or.inr (slot_ne (Or.inl (hw _ tw15)) (Or.inl (hw _ tw13)) (by decide) (t := (.array .int)) (t' := (.array .int)) (by decide) (by decide)))).ext E24
  have S_32 : Keep h11 h24 [a0_] := (((Keep.refl h11 [a0_]).wr W20 (Or.inl mI0)).ext E24)
  have c33 := c19.keep S_32
  obtain ⟨T34, h34, X34, e34, W34, st34⟩ := putF X24 hx hZ hown (host := "") (Or.inl (hw _ tw14)) Via.refl e24 c31 c33 (Or.inl (hw _ tw15)) (hw _ tw4) (ty := (.array .int)) (by decide) rfl rfl (g := (mkF m 17 #[.val (.ref a0_), .val (.int 1)] [(.ref b24), (.ref a0_)])) rfl rfl (hb hby d1_17)
  have F35 : Fld Z h34 a0_ sq0 "nexts" "[I" (.ref b24) := c31.same W34
  have K36 := K28.wr W34 (Or.inl mI0)
  have O37 := O29.wr W34 g_a0
  have N34 := Fr.snoc X34 N20 g_a0
  refine Go.st st34 ?_
  refine Go.st (t' := T34.setTop (mkF m 23 #[.val (.ref a0_), .val (.int 1)] [(.int 16), (.ref a0_)])) (fun target kt => ?_) ?_
  · refine XS.aloadN X34.here hx rfl (hb hby d1_20) rfl rfl ?_
    refine XS.bipush X34.here hx rfl (hb hby d1_21) ?_
    exact kt
  obtain ⟨T38, h38, k38, X38, e38, E38, A38, B38, st38⟩ := newPE (aty := .int) X34 hx hZ (hw _ tw0) e34 (g := (mkF m 23 #[.val (.ref a0_), .val (.int 1)] [(.int 16), (.ref a0_)])) rfl (hb hby d1_23) rfl (by decide) (cap := 16) (by decide) (by decide) (by decide) (by decide) (ad := "[I") (by decide)
  obtain ⟨b38, g38⟩ : ∃ z, z = h34.size := ⟨_, rfl⟩
  rw [← g38] at A38 B38 st38
  have lb39 : h34.size ≤ b38 := Nat.le_of_eq g38.symm
  have sz40 : h0.size ≤ b38 := Nat.le_trans K36.1 lb39
  have g41 : n0 ≤ b38 := Nat.le_trans Z0 sz40
  have K42 := K36.ext E38
  have O43 := O37.ext E38
  have V44 : Arv Z h38 b38 k38 .int (16 : Int32) [(.int 0), (.int 0), (.int 0), (.int 0)] (.int 0) := (Arv.new A38 (by decide)).pad (pad_rep [] (.int 0) 4)
  refine Go.st st38 ?_
  have c45 := ((((F_ends.ext E11).other W20 (Or.inr (slot_ne (Or.inl (hw _ tw17)) (Or.inl (hw _ tw13)) (by decide) (t := (.array .int)) (t' := (.array .int)) (by decide) (by decide)))).ext E24).other W34 (Or.inr (slot_ne (Or.inl (hw _ tw17)) (Or.inl (hw _ tw15)) (by decide) (t := (.array .int)) (t' := (.array .int)) (by decide) (by decide)))).ext E38
  have S_46 : Keep h24 h38 [a0_] := (((Keep.refl h24 [a0_]).wr W34 (Or.inl mI0)).ext E38)
  have c47 := c33.keep S_46
  obtain ⟨T48, h48, X48, e48, W48, st48⟩ := putF X38 hx hZ hown (host := "") (Or.inl (hw _ tw16)) Via.refl e38 c45 c47 (Or.inl (hw _ tw17)) (hw _ tw4) (ty := (.array .int)) (by decide) rfl rfl (g := (mkF m 25 #[.val (.ref a0_), .val (.int 1)] [(.ref b38), (.ref a0_)])) rfl rfl (hb hby d1_25)
  have F49 : Fld Z h48 a0_ sq0 "ends" "[I" (.ref b38) := c45.same W48
  have K50 := K42.wr W48 (Or.inl mI0)
  have O51 := O43.wr W48 g_a0
  have N48 := Fr.snoc X48 N34 g_a0
  refine Go.st st48 ?_
  refine Go.st (t' := T48.setTop (mkF m 31 #[.val (.ref a0_), .val (.int 1)] [(.int 16), (.ref a0_)])) (fun target kt => ?_) ?_
  · refine XS.aloadN X48.here hx rfl (hb hby d1_28) rfl rfl ?_
    refine XS.bipush X48.here hx rfl (hb hby d1_29) ?_
    exact kt
  obtain ⟨T52, h52, k52, X52, e52, E52, A52, B52, st52⟩ := newPE (aty := .double) X48 hx hZ (hw _ tw1) e48 (g := (mkF m 31 #[.val (.ref a0_), .val (.int 1)] [(.int 16), (.ref a0_)])) rfl (hb hby d1_31) rfl (by decide) (cap := 16) (by decide) (by decide) (by decide) (by decide) (ad := "[D") (by decide)
  obtain ⟨b52, g52⟩ : ∃ z, z = h48.size := ⟨_, rfl⟩
  rw [← g52] at A52 B52 st52
  have lb53 : h48.size ≤ b52 := Nat.le_of_eq g52.symm
  have sz54 : h0.size ≤ b52 := Nat.le_trans K50.1 lb53
  have g55 : n0 ≤ b52 := Nat.le_trans Z0 sz54
  have K56 := K50.ext E52
  have O57 := O51.ext E52
  have V58 : Arv Z h52 b52 k52 .double (16 : Int32) [(.double (FP.l2d 0)), (.double (FP.l2d 0)), (.double (FP.l2d 0)), (.double (FP.l2d 0))] (.double (FP.l2d 0)) := (Arv.newD A52 (by decide)).pad (pad_rep [] (.double (FP.l2d 0)) 4)
  refine Go.st st52 ?_
  have c59 := ((((((F_bounds.ext E11).other W20 (Or.inr (slot_ne (Or.inl (hw _ tw19)) (Or.inl (hw _ tw13)) (by decide) (t := (.array .double)) (t' := (.array .int)) (by decide) (by decide)))).ext E24).other W34 (Or.inr (slot_ne (Or.inl (hw _ tw19)) (Or.inl (hw _ tw15)) (by decide) (t := (.array .double)) (t' := (.array .int)) (by decide) (by decide)))).ext E38).other W48 (Or.inr (slot_ne (Or.inl (hw _ tw19)) (Or.inl (hw _ tw17)) (by decide) (t := (.array .double)) (t' := (.array .int)) (by decide) (by decide)))).ext E52
  have S_60 : Keep h38 h52 [a0_] := (((Keep.refl h38 [a0_]).wr W48 (Or.inl mI0)).ext E52)
  have c61 := c47.keep S_60
  obtain ⟨T62, h62, X62, e62, W62, st62⟩ := putF X52 hx hZ hown (host := "") (Or.inl (hw _ tw18)) Via.refl e52 c59 c61 (Or.inl (hw _ tw19)) (hw _ tw4) (ty := (.array .double)) (by decide) rfl rfl (g := (mkF m 33 #[.val (.ref a0_), .val (.int 1)] [(.ref b52), (.ref a0_)])) rfl rfl (hb hby d1_33)
  have F63 : Fld Z h62 a0_ sq0 "bounds" "[D" (.ref b52) := c59.same W62
  have K64 := K56.wr W62 (Or.inl mI0)
  have O65 := O57.wr W62 g_a0
  have N62 := Fr.snoc X62 N48 g_a0
  refine Go.st st62 ?_
  refine Go.st (t' := T62.setTop (mkF m 39 #[.val (.ref a0_), .val (.int 1)] [(.int 16), (.ref a0_)])) (fun target kt => ?_) ?_
  · refine XS.aloadN X62.here hx rfl (hb hby d1_36) rfl rfl ?_
    refine XS.bipush X62.here hx rfl (hb hby d1_37) ?_
    exact kt
  obtain ⟨T66, h66, k66, X66, e66, E66, A66, B66, st66⟩ := newPE (aty := .boolean) X62 hx hZ (hw _ tw20) e62 (g := (mkF m 39 #[.val (.ref a0_), .val (.int 1)] [(.int 16), (.ref a0_)])) rfl (hb hby d1_39) rfl (by decide) (cap := 16) (by decide) (by decide) (by decide) (by decide) (ad := "[Z") (by decide)
  obtain ⟨b66, g66⟩ : ∃ z, z = h62.size := ⟨_, rfl⟩
  rw [← g66] at A66 B66 st66
  have lb67 : h62.size ≤ b66 := Nat.le_of_eq g66.symm
  have sz68 : h0.size ≤ b66 := Nat.le_trans K64.1 lb67
  have g69 : n0 ≤ b66 := Nat.le_trans Z0 sz68
  have K70 := K64.ext E66
  have O71 := O65.ext E66
  have V72 : Arv Z h66 b66 k66 .boolean (16 : Int32) [(.int 0), (.int 0), (.int 0), (.int 0)] (.int 0) := (Arv.new A66 (by decide)).pad (pad_rep [] (.int 0) 4)
  refine Go.st st66 ?_
  have c73 := ((((((((F_windows.ext E11).other W20 (Or.inr (slot_ne (Or.inl (hw _ tw22)) (Or.inl (hw _ tw13)) (by decide) (t := (.array .boolean)) (t' := (.array .int)) (by decide) (by decide)))).ext E24).other W34 (Or.inr (slot_ne (Or.inl (hw _ tw22)) (Or.inl (hw _ tw15)) (by decide) (t := (.array .boolean)) (t' := (.array .int)) (by decide) (by decide)))).ext E38).other W48 (Or.inr (slot_ne (Or.inl (hw _ tw22)) (Or.inl (hw _ tw17)) (by decide) (t := (.array .boolean)) (t' := (.array .int)) (by decide) (by decide)))).ext E52).other W62 (Or.inr (slot_ne (Or.inl (hw _ tw22)) (Or.inl (hw _ tw19)) (by decide) (t := (.array .boolean)) (t' := (.array .double)) (by decide) (by decide)))).ext E66
  have S_74 : Keep h52 h66 [a0_] := (((Keep.refl h52 [a0_]).wr W62 (Or.inl mI0)).ext E66)
  have c75 := c61.keep S_74
  obtain ⟨T76, h76, X76, e76, W76, st76⟩ := putF X66 hx hZ hown (host := "") (Or.inl (hw _ tw21)) Via.refl e66 c73 c75 (Or.inl (hw _ tw22)) (hw _ tw4) (ty := (.array .boolean)) (by decide) rfl rfl (g := (mkF m 41 #[.val (.ref a0_), .val (.int 1)] [(.ref b66), (.ref a0_)])) rfl rfl (hb hby d1_41)
  have F77 : Fld Z h76 a0_ sq0 "windows" "[Z" (.ref b66) := c73.same W76
  have K78 := K70.wr W76 (Or.inl mI0)
  have O79 := O71.wr W76 g_a0
  have N76 := Fr.snoc X76 N62 g_a0
  refine Go.st st76 ?_
  refine Go.st (t' := T76.setTop (mkF m 47 #[.val (.ref a0_), .val (.int 1)] [(.int 16), (.ref a0_)])) (fun target kt => ?_) ?_
  · refine XS.aloadN X76.here hx rfl (hb hby d1_44) rfl rfl ?_
    refine XS.bipush X76.here hx rfl (hb hby d1_45) ?_
    exact kt
  obtain ⟨T80, h80, k80, X80, e80, E80, A80, B80, st80⟩ := newPE (aty := .int) X76 hx hZ (hw _ tw0) e76 (g := (mkF m 47 #[.val (.ref a0_), .val (.int 1)] [(.int 16), (.ref a0_)])) rfl (hb hby d1_47) rfl (by decide) (cap := 16) (by decide) (by decide) (by decide) (by decide) (ad := "[I") (by decide)
  obtain ⟨b80, g80⟩ : ∃ z, z = h76.size := ⟨_, rfl⟩
  rw [← g80] at A80 B80 st80
  have lb81 : h76.size ≤ b80 := Nat.le_of_eq g80.symm
  have sz82 : h0.size ≤ b80 := Nat.le_trans K78.1 lb81
  have g83 : n0 ≤ b80 := Nat.le_trans Z0 sz82
  have K84 := K78.ext E80
  have O85 := O79.ext E80
  have V86 : Arv Z h80 b80 k80 .int (16 : Int32) [(.int 0), (.int 0), (.int 0), (.int 0)] (.int 0) := (Arv.new A80 (by decide)).pad (pad_rep [] (.int 0) 4)
  refine Go.st st80 ?_
  have c87 := ((((((((((F_heap.ext E11).other W20 (Or.inr (slot_ne (Or.inl (hw _ tw24)) (Or.inl (hw _ tw13)) (by decide) (t := (.array .int)) (t' := (.array .int)) (by decide) (by decide)))).ext E24).other W34 (Or.inr (slot_ne (Or.inl (hw _ tw24)) (Or.inl (hw _ tw15)) (by decide) (t := (.array .int)) (t' := (.array .int)) (by decide) (by decide)))).ext E38).other W48 (Or.inr (slot_ne (Or.inl (hw _ tw24)) (Or.inl (hw _ tw17)) (by decide) (t := (.array .int)) (t' := (.array .int)) (by decide) (by decide)))).ext E52).other W62 (Or.inr (slot_ne (Or.inl (hw _ tw24)) (Or.inl (hw _ tw19)) (by decide) (t := (.array .int)) (t' := (.array .double)) (by decide) (by decide)))).ext E66).other W76 (Or.inr (slot_ne (Or.inl (hw _ tw24)) (Or.inl (hw _ tw22)) (by decide) (t := (.array .int)) (t' := (.array .boolean)) (by decide) (by decide)))).ext E80
  have S_88 : Keep h66 h80 [a0_] := (((Keep.refl h66 [a0_]).wr W76 (Or.inl mI0)).ext E80)
  have c89 := c75.keep S_88
  obtain ⟨T90, h90, X90, e90, W90, st90⟩ := putF X80 hx hZ hown (host := "") (Or.inl (hw _ tw23)) Via.refl e80 c87 c89 (Or.inl (hw _ tw24)) (hw _ tw4) (ty := (.array .int)) (by decide) rfl rfl (g := (mkF m 49 #[.val (.ref a0_), .val (.int 1)] [(.ref b80), (.ref a0_)])) rfl rfl (hb hby d1_49)
  have F91 : Fld Z h90 a0_ sq0 "heap" "[I" (.ref b80) := c87.same W90
  have K92 := K84.wr W90 (Or.inl mI0)
  have O93 := O85.wr W90 g_a0
  have N90 := Fr.snoc X90 N76 g_a0
  refine Go.st st90 ?_
  refine Go.st (t' := T90.setTop (mkF m 55 #[.val (.ref a0_), .val (.int 1)] [(.int 16), (.ref a0_)])) (fun target kt => ?_) ?_
  · refine XS.aloadN X90.here hx rfl (hb hby d1_52) rfl rfl ?_
    refine XS.bipush X90.here hx rfl (hb hby d1_53) ?_
    exact kt
  obtain ⟨T94, h94, k94, X94, e94, E94, A94, B94, st94⟩ := newPE (aty := .double) X90 hx hZ (hw _ tw1) e90 (g := (mkF m 55 #[.val (.ref a0_), .val (.int 1)] [(.int 16), (.ref a0_)])) rfl (hb hby d1_55) rfl (by decide) (cap := 16) (by decide) (by decide) (by decide) (by decide) (ad := "[D") (by decide)
  obtain ⟨b94, g94⟩ : ∃ z, z = h90.size := ⟨_, rfl⟩
  rw [← g94] at A94 B94 st94
  have lb95 : h90.size ≤ b94 := Nat.le_of_eq g94.symm
  have sz96 : h0.size ≤ b94 := Nat.le_trans K92.1 lb95
  have g97 : n0 ≤ b94 := Nat.le_trans Z0 sz96
  have K98 := K92.ext E94
  have O99 := O93.ext E94
  have V100 : Arv Z h94 b94 k94 .double (16 : Int32) [(.double (FP.l2d 0)), (.double (FP.l2d 0)), (.double (FP.l2d 0)), (.double (FP.l2d 0))] (.double (FP.l2d 0)) := (Arv.newD A94 (by decide)).pad (pad_rep [] (.double (FP.l2d 0)) 4)
  refine Go.st st94 ?_
  have c101 := ((((((((((((F_heapBounds.ext E11).other W20 (Or.inr (slot_ne (Or.inl (hw _ tw26)) (Or.inl (hw _ tw13)) (by decide) (t := (.array .double)) (t' := (.array .int)) (by decide) (by decide)))).ext E24).other W34 (Or.inr (slot_ne (Or.inl (hw _ tw26)) (Or.inl (hw _ tw15)) (by decide) (t := (.array .double)) (t' := (.array .int)) (by decide) (by decide)))).ext E38).other W48 (Or.inr (slot_ne (Or.inl (hw _ tw26)) (Or.inl (hw _ tw17)) (by decide) (t := (.array .double)) (t' := (.array .int)) (by decide) (by decide)))).ext E52).other W62 (Or.inr (slot_ne (Or.inl (hw _ tw26)) (Or.inl (hw _ tw19)) (by decide) (t := (.array .double)) (t' := (.array .double)) (by decide) (by decide)))).ext E66).other W76 (Or.inr (slot_ne (Or.inl (hw _ tw26)) (Or.inl (hw _ tw22)) (by decide) (t := (.array .double)) (t' := (.array .boolean)) (by decide) (by decide)))).ext E80).other W90 (Or.inr (slot_ne (Or.inl (hw _ tw26)) (Or.inl (hw _ tw24)) (by decide) (t := (.array .double)) (t' := (.array .int)) (by decide) (by decide)))).ext E94
  have S_102 : Keep h80 h94 [a0_] := (((Keep.refl h80 [a0_]).wr W90 (Or.inl mI0)).ext E94)
  have c103 := c89.keep S_102
  obtain ⟨T104, h104, X104, e104, W104, st104⟩ := putF X94 hx hZ hown (host := "") (Or.inl (hw _ tw25)) Via.refl e94 c101 c103 (Or.inl (hw _ tw26)) (hw _ tw4) (ty := (.array .double)) (by decide) rfl rfl (g := (mkF m 57 #[.val (.ref a0_), .val (.int 1)] [(.ref b94), (.ref a0_)])) rfl rfl (hb hby d1_57)
  have F105 : Fld Z h104 a0_ sq0 "heapBounds" "[D" (.ref b94) := c101.same W104
  have K106 := K98.wr W104 (Or.inl mI0)
  have O107 := O99.wr W104 g_a0
  have N104 := Fr.snoc X104 N90 g_a0
  refine Go.st st104 ?_
  refine Go.st (t' := T104.setTop (mkF m 63 #[.val (.ref a0_), .val (.int 1)] [(.int 16), (.ref a0_)])) (fun target kt => ?_) ?_
  · refine XS.aloadN X104.here hx rfl (hb hby d1_60) rfl rfl ?_
    refine XS.bipush X104.here hx rfl (hb hby d1_61) ?_
    exact kt
  obtain ⟨T108, h108, k108, X108, e108, E108, A108, B108, st108⟩ := newPE (aty := .int) X104 hx hZ (hw _ tw0) e104 (g := (mkF m 63 #[.val (.ref a0_), .val (.int 1)] [(.int 16), (.ref a0_)])) rfl (hb hby d1_63) rfl (by decide) (cap := 16) (by decide) (by decide) (by decide) (by decide) (ad := "[I") (by decide)
  obtain ⟨b108, g108⟩ : ∃ z, z = h104.size := ⟨_, rfl⟩
  rw [← g108] at A108 B108 st108
  have lb109 : h104.size ≤ b108 := Nat.le_of_eq g108.symm
  have sz110 : h0.size ≤ b108 := Nat.le_trans K106.1 lb109
  have g111 : n0 ≤ b108 := Nat.le_trans Z0 sz110
  have K112 := K106.ext E108
  have O113 := O107.ext E108
  have V114 : Arv Z h108 b108 k108 .int (16 : Int32) [(.int 0), (.int 0), (.int 0), (.int 0)] (.int 0) := (Arv.new A108 (by decide)).pad (pad_rep [] (.int 0) 4)
  refine Go.st st108 ?_
  have c115 := ((((((((((((((F_heapStarts.ext E11).other W20 (Or.inr (slot_ne (Or.inl (hw _ tw28)) (Or.inl (hw _ tw13)) (by decide) (t := (.array .int)) (t' := (.array .int)) (by decide) (by decide)))).ext E24).other W34 (Or.inr (slot_ne (Or.inl (hw _ tw28)) (Or.inl (hw _ tw15)) (by decide) (t := (.array .int)) (t' := (.array .int)) (by decide) (by decide)))).ext E38).other W48 (Or.inr (slot_ne (Or.inl (hw _ tw28)) (Or.inl (hw _ tw17)) (by decide) (t := (.array .int)) (t' := (.array .int)) (by decide) (by decide)))).ext E52).other W62 (Or.inr (slot_ne (Or.inl (hw _ tw28)) (Or.inl (hw _ tw19)) (by decide) (t := (.array .int)) (t' := (.array .double)) (by decide) (by decide)))).ext E66).other W76 (Or.inr (slot_ne (Or.inl (hw _ tw28)) (Or.inl (hw _ tw22)) (by decide) (t := (.array .int)) (t' := (.array .boolean)) (by decide) (by decide)))).ext E80).other W90 (Or.inr (slot_ne (Or.inl (hw _ tw28)) (Or.inl (hw _ tw24)) (by decide) (t := (.array .int)) (t' := (.array .int)) (by decide) (by decide)))).ext E94).other W104 (Or.inr (slot_ne (Or.inl (hw _ tw28)) (Or.inl (hw _ tw26)) (by decide) (t := (.array .int)) (t' := (.array .double)) (by decide) (by decide)))).ext E108
  have S_116 : Keep h94 h108 [a0_] := (((Keep.refl h94 [a0_]).wr W104 (Or.inl mI0)).ext E108)
  have c117 := c103.keep S_116
  obtain ⟨T118, h118, X118, e118, W118, st118⟩ := putF X108 hx hZ hown (host := "") (Or.inl (hw _ tw27)) Via.refl e108 c115 c117 (Or.inl (hw _ tw28)) (hw _ tw4) (ty := (.array .int)) (by decide) rfl rfl (g := (mkF m 65 #[.val (.ref a0_), .val (.int 1)] [(.ref b108), (.ref a0_)])) rfl rfl (hb hby d1_65)
  have F119 : Fld Z h118 a0_ sq0 "heapStarts" "[I" (.ref b108) := c115.same W118
  have K120 := K112.wr W118 (Or.inl mI0)
  have O121 := O113.wr W118 g_a0
  have N118 := Fr.snoc X118 N104 g_a0
  refine Go.st st118 ?_
  refine Go.st (t' := T118.setTop (mkF m 70 #[.val (.ref a0_), .val (.int 1)] [(.int 1), (.ref a0_)])) (fun target kt => ?_) ?_
  · refine XS.aloadN X118.here hx rfl (hb hby d1_68) rfl rfl ?_
    refine XS.iloadN X118.here hx rfl (hb hby d1_69) rfl ?_
    exact kt
  have c122 := (((((((((((((((F_count.ext E11).other W20 (Or.inr (slot_ne (Or.inr (hw _ tw30)) (Or.inl (hw _ tw13)) (by decide) (t := .int) (t' := (.array .int)) (by decide) (by decide)))).ext E24).other W34 (Or.inr (slot_ne (Or.inr (hw _ tw30)) (Or.inl (hw _ tw15)) (by decide) (t := .int) (t' := (.array .int)) (by decide) (by decide)))).ext E38).other W48 (Or.inr (slot_ne (Or.inr (hw _ tw30)) (Or.inl (hw _ tw17)) (by decide) (t := .int) (t' := (.array .int)) (by decide) (by decide)))).ext E52).other W62 (Or.inr (slot_ne (Or.inr (hw _ tw30)) (Or.inl (hw _ tw19)) (by decide) (t := .int) (t' := (.array .double)) (by decide) (by decide)))).ext E66).other W76 (Or.inr (slot_ne (Or.inr (hw _ tw30)) (Or.inl (hw _ tw22)) (by decide) (t := .int) (t' := (.array .boolean)) (by decide) (by decide)))).ext E80).other W90 (Or.inr (slot_ne (Or.inr (hw _ tw30)) (Or.inl (hw _ tw24)) (by decide) (t := .int) (t' := (.array .int)) (by decide) (by decide)))).ext E94).other W104 (Or.inr (slot_ne (Or.inr (hw _ tw30)) (Or.inl (hw _ tw26)) (by decide) (t := .int) (t' := (.array .double)) (by decide) (by decide)))).ext E108).other W118 (Or.inr (slot_ne (Or.inr (hw _ tw30)) (Or.inl (hw _ tw28)) (by decide) (t := .int) (t' := (.array .int)) (by decide) (by decide)))
  have c123 := c117.wr W118
  obtain ⟨T124, h124, X124, e124, W124, st124⟩ := putF X118 hx hZ hown (host := "") (Or.inl (hw _ tw29)) Via.refl e118 c122 c123 (Or.inr ⟨(hw _ tw30), rfl, hnm⟩) (hw _ tw4) (ty := .int) (by decide) rfl rfl (g := (mkF m 70 #[.val (.ref a0_), .val (.int 1)] [(.int 1), (.ref a0_)])) rfl rfl (hb hby d1_70)
  have F125 : Fld Z h124 a0_ sq0 "count" "I" (.int 1) := c122.same W124
  have K126 := K120.wr W124 (Or.inl mI0)
  have O127 := O121.wr W124 g_a0
  have N124 := Fr.snoc X124 N118 g_a0
  refine Go.st st124 ?_
  refine Go.st (t' := T124.setTop (mkF m 78 #[.val (.ref a0_), .val (.int 1)] [(.int 16), (.ref a0_)])) (fun target kt => ?_) ?_
  · refine XS.aloadN X124.here hx rfl (hb hby d1_73) rfl rfl ?_
    refine XS.bipush X124.here hx rfl (hb hby d1_74) ?_
    refine XS.iloadN X124.here hx rfl (hb hby d1_76) rfl ?_
    refine XS.imul X124.here hx rfl (hb hby d1_77) rfl ?_
    exact kt
  obtain ⟨T128, h128, k128, X128, e128, E128, A128, B128, st128⟩ := newPE (aty := .int) X124 hx hZ (hw _ tw0) e124 (g := (mkF m 78 #[.val (.ref a0_), .val (.int 1)] [(.int 16), (.ref a0_)])) rfl (hb hby d1_78) rfl (by decide) (cap := 16) (by decide) (by decide) (by decide) (by decide) (ad := "[I") (by decide)
  obtain ⟨b128, g128⟩ : ∃ z, z = h124.size := ⟨_, rfl⟩
  rw [← g128] at A128 B128 st128
  have lb129 : h124.size ≤ b128 := Nat.le_of_eq g128.symm
  have sz130 : h0.size ≤ b128 := Nat.le_trans K126.1 lb129
  have g131 : n0 ≤ b128 := Nat.le_trans Z0 sz130
  have K132 := K126.ext E128
  have O133 := O127.ext E128
  have V134 : Arv Z h128 b128 k128 .int (16 : Int32) [(.int 0), (.int 0), (.int 0), (.int 0)] (.int 0) := (Arv.new A128 (by decide)).pad (pad_rep [] (.int 0) 4)
  refine Go.st st128 ?_
  have c135 := (((((((((((((((((F_entries.ext E11).other W20 (Or.inr (slot_ne (Or.inl (hw _ tw32)) (Or.inl (hw _ tw13)) (by decide) (t := (.array .int)) (t' := (.array .int)) (by decide) (by decide)))).ext E24).other W34 (Or.inr (slot_ne (Or.inl (hw _ tw32)) (Or.inl (hw _ tw15)) (by decide) (t := (.array .int)) (t' := (.array .int)) (by decide) (by decide)))).ext E38).other W48 (Or.inr (slot_ne (Or.inl (hw _ tw32)) (Or.inl (hw _ tw17)) (by decide) (t := (.array .int)) (t' := (.array .int)) (by decide) (by decide)))).ext E52).other W62 (Or.inr (slot_ne (Or.inl (hw _ tw32)) (Or.inl (hw _ tw19)) (by decide) (t := (.array .int)) (t' := (.array .double)) (by decide) (by decide)))).ext E66).other W76 (Or.inr (slot_ne (Or.inl (hw _ tw32)) (Or.inl (hw _ tw22)) (by decide) (t := (.array .int)) (t' := (.array .boolean)) (by decide) (by decide)))).ext E80).other W90 (Or.inr (slot_ne (Or.inl (hw _ tw32)) (Or.inl (hw _ tw24)) (by decide) (t := (.array .int)) (t' := (.array .int)) (by decide) (by decide)))).ext E94).other W104 (Or.inr (slot_ne (Or.inl (hw _ tw32)) (Or.inl (hw _ tw26)) (by decide) (t := (.array .int)) (t' := (.array .double)) (by decide) (by decide)))).ext E108).other W118 (Or.inr (slot_ne (Or.inl (hw _ tw32)) (Or.inl (hw _ tw28)) (by decide) (t := (.array .int)) (t' := (.array .int)) (by decide) (by decide)))).other W124 (Or.inr (slot_ne (Or.inl (hw _ tw32)) (Or.inr (hw _ tw30)) (by decide) (t := (.array .int)) (t' := .int) (by decide) (by decide)))).ext E128
  have S_136 : Keep h118 h128 [a0_] := (((Keep.refl h118 [a0_]).wr W124 (Or.inl mI0)).ext E128)
  have c137 := c123.keep S_136
  obtain ⟨T138, h138, X138, e138, W138, st138⟩ := putF X128 hx hZ hown (host := "") (Or.inl (hw _ tw31)) Via.refl e128 c135 c137 (Or.inl (hw _ tw32)) (hw _ tw4) (ty := (.array .int)) (by decide) rfl rfl (g := (mkF m 80 #[.val (.ref a0_), .val (.int 1)] [(.ref b128), (.ref a0_)])) rfl rfl (hb hby d1_80)
  have F139 : Fld Z h138 a0_ sq0 "entries" "[I" (.ref b128) := c135.same W138
  have K140 := K132.wr W138 (Or.inl mI0)
  have O141 := O133.wr W138 g_a0
  have N138 := Fr.snoc X138 N124 g_a0
  refine Go.st st138 ?_
  refine Go.st (t' := T138.setTop (mkF m 88 #[.val (.ref a0_), .val (.int 1)] [(.int 16), (.ref a0_)])) (fun target kt => ?_) ?_
  · refine XS.aloadN X138.here hx rfl (hb hby d1_83) rfl rfl ?_
    refine XS.bipush X138.here hx rfl (hb hby d1_84) ?_
    refine XS.iloadN X138.here hx rfl (hb hby d1_86) rfl ?_
    refine XS.imul X138.here hx rfl (hb hby d1_87) rfl ?_
    exact kt
  obtain ⟨T142, h142, k142, X142, e142, E142, A142, B142, st142⟩ := newPE (aty := .int) X138 hx hZ (hw _ tw0) e138 (g := (mkF m 88 #[.val (.ref a0_), .val (.int 1)] [(.int 16), (.ref a0_)])) rfl (hb hby d1_88) rfl (by decide) (cap := 16) (by decide) (by decide) (by decide) (by decide) (ad := "[I") (by decide)
  obtain ⟨b142, g142⟩ : ∃ z, z = h138.size := ⟨_, rfl⟩
  rw [← g142] at A142 B142 st142
  have lb143 : h138.size ≤ b142 := Nat.le_of_eq g142.symm
  have sz144 : h0.size ≤ b142 := Nat.le_trans K140.1 lb143
  have g145 : n0 ≤ b142 := Nat.le_trans Z0 sz144
  have K146 := K140.ext E142
  have O147 := O141.ext E142
  have V148 : Arv Z h142 b142 k142 .int (16 : Int32) [(.int 0), (.int 0), (.int 0), (.int 0)] (.int 0) := (Arv.new A142 (by decide)).pad (pad_rep [] (.int 0) 4)
  refine Go.st st142 ?_
  have c149 := (((((((((((((((((((F_blocks.ext E11).other W20 (Or.inr (slot_ne (Or.inl (hw _ tw34)) (Or.inl (hw _ tw13)) (by decide) (t := (.array .int)) (t' := (.array .int)) (by decide) (by decide)))).ext E24).other W34 (Or.inr (slot_ne (Or.inl (hw _ tw34)) (Or.inl (hw _ tw15)) (by decide) (t := (.array .int)) (t' := (.array .int)) (by decide) (by decide)))).ext E38).other W48 (Or.inr (slot_ne (Or.inl (hw _ tw34)) (Or.inl (hw _ tw17)) (by decide) (t := (.array .int)) (t' := (.array .int)) (by decide) (by decide)))).ext E52).other W62 (Or.inr (slot_ne (Or.inl (hw _ tw34)) (Or.inl (hw _ tw19)) (by decide) (t := (.array .int)) (t' := (.array .double)) (by decide) (by decide)))).ext E66).other W76 (Or.inr (slot_ne (Or.inl (hw _ tw34)) (Or.inl (hw _ tw22)) (by decide) (t := (.array .int)) (t' := (.array .boolean)) (by decide) (by decide)))).ext E80).other W90 (Or.inr (slot_ne (Or.inl (hw _ tw34)) (Or.inl (hw _ tw24)) (by decide) (t := (.array .int)) (t' := (.array .int)) (by decide) (by decide)))).ext E94).other W104 (Or.inr (slot_ne (Or.inl (hw _ tw34)) (Or.inl (hw _ tw26)) (by decide) (t := (.array .int)) (t' := (.array .double)) (by decide) (by decide)))).ext E108).other W118 (Or.inr (slot_ne (Or.inl (hw _ tw34)) (Or.inl (hw _ tw28)) (by decide) (t := (.array .int)) (t' := (.array .int)) (by decide) (by decide)))).other W124 (Or.inr (slot_ne (Or.inl (hw _ tw34)) (Or.inr (hw _ tw30)) (by decide) (t := (.array .int)) (t' := .int) (by decide) (by decide)))).ext E128).other W138 (Or.inr (slot_ne (Or.inl (hw _ tw34)) (Or.inl (hw _ tw32)) (by decide) (t := (.array .int)) (t' := (.array .int)) (by decide) (by decide)))).ext E142
  have S_150 : Keep h128 h142 [a0_] := (((Keep.refl h128 [a0_]).wr W138 (Or.inl mI0)).ext E142)
  have c151 := c137.keep S_150
  obtain ⟨T152, h152, X152, e152, W152, st152⟩ := putF X142 hx hZ hown (host := "") (Or.inl (hw _ tw33)) Via.refl e142 c149 c151 (Or.inl (hw _ tw34)) (hw _ tw4) (ty := (.array .int)) (by decide) rfl rfl (g := (mkF m 90 #[.val (.ref a0_), .val (.int 1)] [(.ref b142), (.ref a0_)])) rfl rfl (hb hby d1_90)
  have F153 : Fld Z h152 a0_ sq0 "blocks" "[I" (.ref b142) := c149.same W152
  have K154 := K146.wr W152 (Or.inl mI0)
  have O155 := O147.wr W152 g_a0
  have N152 := Fr.snoc X152 N138 g_a0
  refine Go.st st152 ?_
  refine Go.st (t' := T152.setTop (mkF m 98 #[.val (.ref a0_), .val (.int 1)] [(.int 16), (.ref a0_)])) (fun target kt => ?_) ?_
  · refine XS.aloadN X152.here hx rfl (hb hby d1_93) rfl rfl ?_
    refine XS.bipush X152.here hx rfl (hb hby d1_94) ?_
    refine XS.iloadN X152.here hx rfl (hb hby d1_96) rfl ?_
    refine XS.imul X152.here hx rfl (hb hby d1_97) rfl ?_
    exact kt
  obtain ⟨T156, h156, k156, X156, e156, E156, A156, B156, st156⟩ := newPE (aty := .double) X152 hx hZ (hw _ tw1) e152 (g := (mkF m 98 #[.val (.ref a0_), .val (.int 1)] [(.int 16), (.ref a0_)])) rfl (hb hby d1_98) rfl (by decide) (cap := 16) (by decide) (by decide) (by decide) (by decide) (ad := "[D") (by decide)
  obtain ⟨b156, g156⟩ : ∃ z, z = h152.size := ⟨_, rfl⟩
  rw [← g156] at A156 B156 st156
  have lb157 : h152.size ≤ b156 := Nat.le_of_eq g156.symm
  have sz158 : h0.size ≤ b156 := Nat.le_trans K154.1 lb157
  have g159 : n0 ≤ b156 := Nat.le_trans Z0 sz158
  have K160 := K154.ext E156
  have O161 := O155.ext E156
  have V162 : Arv Z h156 b156 k156 .double (16 : Int32) [(.double (FP.l2d 0)), (.double (FP.l2d 0)), (.double (FP.l2d 0)), (.double (FP.l2d 0))] (.double (FP.l2d 0)) := (Arv.newD A156 (by decide)).pad (pad_rep [] (.double (FP.l2d 0)) 4)
  refine Go.st st156 ?_
  have c163 := (((((((((((((((((((((F_parts.ext E11).other W20 (Or.inr (slot_ne (Or.inl (hw _ tw36)) (Or.inl (hw _ tw13)) (by decide) (t := (.array .double)) (t' := (.array .int)) (by decide) (by decide)))).ext E24).other W34 (Or.inr (slot_ne (Or.inl (hw _ tw36)) (Or.inl (hw _ tw15)) (by decide) (t := (.array .double)) (t' := (.array .int)) (by decide) (by decide)))).ext E38).other W48 (Or.inr (slot_ne (Or.inl (hw _ tw36)) (Or.inl (hw _ tw17)) (by decide) (t := (.array .double)) (t' := (.array .int)) (by decide) (by decide)))).ext E52).other W62 (Or.inr (slot_ne (Or.inl (hw _ tw36)) (Or.inl (hw _ tw19)) (by decide) (t := (.array .double)) (t' := (.array .double)) (by decide) (by decide)))).ext E66).other W76 (Or.inr (slot_ne (Or.inl (hw _ tw36)) (Or.inl (hw _ tw22)) (by decide) (t := (.array .double)) (t' := (.array .boolean)) (by decide) (by decide)))).ext E80).other W90 (Or.inr (slot_ne (Or.inl (hw _ tw36)) (Or.inl (hw _ tw24)) (by decide) (t := (.array .double)) (t' := (.array .int)) (by decide) (by decide)))).ext E94).other W104 (Or.inr (slot_ne (Or.inl (hw _ tw36)) (Or.inl (hw _ tw26)) (by decide) (t := (.array .double)) (t' := (.array .double)) (by decide) (by decide)))).ext E108).other W118 (Or.inr (slot_ne (Or.inl (hw _ tw36)) (Or.inl (hw _ tw28)) (by decide) (t := (.array .double)) (t' := (.array .int)) (by decide) (by decide)))).other W124 (Or.inr (slot_ne (Or.inl (hw _ tw36)) (Or.inr (hw _ tw30)) (by decide) (t := (.array .double)) (t' := .int) (by decide) (by decide)))).ext E128).other W138 (Or.inr (slot_ne (Or.inl (hw _ tw36)) (Or.inl (hw _ tw32)) (by decide) (t := (.array .double)) (t' := (.array .int)) (by decide) (by decide)))).ext E142).other W152 (Or.inr (slot_ne (Or.inl (hw _ tw36)) (Or.inl (hw _ tw34)) (by decide) (t := (.array .double)) (t' := (.array .int)) (by decide) (by decide)))).ext E156
  have S_164 : Keep h142 h156 [a0_] := (((Keep.refl h142 [a0_]).wr W152 (Or.inl mI0)).ext E156)
  have c165 := c151.keep S_164
  obtain ⟨T166, h166, X166, e166, W166, st166⟩ := putF X156 hx hZ hown (host := "") (Or.inl (hw _ tw35)) Via.refl e156 c163 c165 (Or.inl (hw _ tw36)) (hw _ tw4) (ty := (.array .double)) (by decide) rfl rfl (g := (mkF m 100 #[.val (.ref a0_), .val (.int 1)] [(.ref b156), (.ref a0_)])) rfl rfl (hb hby d1_100)
  have F167 : Fld Z h166 a0_ sq0 "parts" "[D" (.ref b156) := c163.same W166
  have K168 := K160.wr W166 (Or.inl mI0)
  have O169 := O161.wr W166 g_a0
  have N166 := Fr.snoc X166 N152 g_a0
  refine Go.st st166 ?_
  have o170 : b11 < b24 := Nat.lt_of_lt_of_le V17.lt (Nat.le_trans (Keep.of_wr W20).1 lb25)
  have o171 : b24 < b38 := Nat.lt_of_lt_of_le V30.lt (Nat.le_trans (Keep.of_wr W34).1 lb39)
  have o172 : b38 < b52 := Nat.lt_of_lt_of_le V44.lt (Nat.le_trans (Keep.of_wr W48).1 lb53)
  have o173 : b52 < b66 := Nat.lt_of_lt_of_le V58.lt (Nat.le_trans (Keep.of_wr W62).1 lb67)
  have o174 : b66 < b80 := Nat.lt_of_lt_of_le V72.lt (Nat.le_trans (Keep.of_wr W76).1 lb81)
  have o175 : b80 < b94 := Nat.lt_of_lt_of_le V86.lt (Nat.le_trans (Keep.of_wr W90).1 lb95)
  have o176 : b94 < b108 := Nat.lt_of_lt_of_le V100.lt (Nat.le_trans (Keep.of_wr W104).1 lb109)
  have o177 : b108 < b128 := Nat.lt_of_lt_of_le V114.lt (Nat.le_trans (Nat.le_trans (Keep.of_wr W118).1 (Keep.of_wr W124).1) lb129)
  have o178 : b128 < b142 := Nat.lt_of_lt_of_le V134.lt (Nat.le_trans (Keep.of_wr W138).1 lb143)
  have o179 : b142 < b156 := Nat.lt_of_lt_of_le V148.lt (Nat.le_trans (Keep.of_wr W152).1 lb157)
  have c180 := c165.wr W166
  have S_181 : Keep h124 h166 [a0_] := (((((((Keep.refl h124 [a0_]).ext E128).wr W138 (Or.inl mI0)).ext E142).wr W152 (Or.inl mI0)).ext E156).wr W166 (Or.inl mI0))
  have c182 := (((((F125.ext E128).other W138 (Or.inr (slot_ne (Or.inr (hw _ tw30)) (Or.inl (hw _ tw32)) (by decide) (t := .int) (t' := (.array .int)) (by decide) (by decide)))).ext E142).other W152 (Or.inr (slot_ne (Or.inr (hw _ tw30)) (Or.inl (hw _ tw34)) (by decide) (t := .int) (t' := (.array .int)) (by decide) (by decide)))).ext E156).other W166 (Or.inr (slot_ne (Or.inr (hw _ tw30)) (Or.inl (hw _ tw36)) (by decide) (t := .int) (t' := (.array .double)) (by decide) (by decide)))
  have c183 := ((((((((((((((((((((((F_added.ext E11).other W20 (Or.inr (slot_ne (Or.inl (hw _ tw43)) (Or.inl (hw _ tw13)) (by decide) (t := .int) (t' := (.array .int)) (by decide) (by decide)))).ext E24).other W34 (Or.inr (slot_ne (Or.inl (hw _ tw43)) (Or.inl (hw _ tw15)) (by decide) (t := .int) (t' := (.array .int)) (by decide) (by decide)))).ext E38).other W48 (Or.inr (slot_ne (Or.inl (hw _ tw43)) (Or.inl (hw _ tw17)) (by decide) (t := .int) (t' := (.array .int)) (by decide) (by decide)))).ext E52).other W62 (Or.inr (slot_ne (Or.inl (hw _ tw43)) (Or.inl (hw _ tw19)) (by decide) (t := .int) (t' := (.array .double)) (by decide) (by decide)))).ext E66).other W76 (Or.inr (slot_ne (Or.inl (hw _ tw43)) (Or.inl (hw _ tw22)) (by decide) (t := .int) (t' := (.array .boolean)) (by decide) (by decide)))).ext E80).other W90 (Or.inr (slot_ne (Or.inl (hw _ tw43)) (Or.inl (hw _ tw24)) (by decide) (t := .int) (t' := (.array .int)) (by decide) (by decide)))).ext E94).other W104 (Or.inr (slot_ne (Or.inl (hw _ tw43)) (Or.inl (hw _ tw26)) (by decide) (t := .int) (t' := (.array .double)) (by decide) (by decide)))).ext E108).other W118 (Or.inr (slot_ne (Or.inl (hw _ tw43)) (Or.inl (hw _ tw28)) (by decide) (t := .int) (t' := (.array .int)) (by decide) (by decide)))).other W124 (Or.inr (slot_ne (Or.inl (hw _ tw43)) (Or.inr (hw _ tw30)) (by decide) (t := .int) (t' := .int) (by decide) (by decide)))).ext E128).other W138 (Or.inr (slot_ne (Or.inl (hw _ tw43)) (Or.inl (hw _ tw32)) (by decide) (t := .int) (t' := (.array .int)) (by decide) (by decide)))).ext E142).other W152 (Or.inr (slot_ne (Or.inl (hw _ tw43)) (Or.inl (hw _ tw34)) (by decide) (t := .int) (t' := (.array .int)) (by decide) (by decide)))).ext E156).other W166 (Or.inr (slot_ne (Or.inl (hw _ tw43)) (Or.inl (hw _ tw36)) (by decide) (t := .int) (t' := (.array .double)) (by decide) (by decide)))
  have c184 := ((((((((((((((((((((((F_size.ext E11).other W20 (Or.inr (slot_ne (Or.inl (hw _ tw49)) (Or.inl (hw _ tw13)) (by decide) (t := .int) (t' := (.array .int)) (by decide) (by decide)))).ext E24).other W34 (Or.inr (slot_ne (Or.inl (hw _ tw49)) (Or.inl (hw _ tw15)) (by decide) (t := .int) (t' := (.array .int)) (by decide) (by decide)))).ext E38).other W48 (Or.inr (slot_ne (Or.inl (hw _ tw49)) (Or.inl (hw _ tw17)) (by decide) (t := .int) (t' := (.array .int)) (by decide) (by decide)))).ext E52).other W62 (Or.inr (slot_ne (Or.inl (hw _ tw49)) (Or.inl (hw _ tw19)) (by decide) (t := .int) (t' := (.array .double)) (by decide) (by decide)))).ext E66).other W76 (Or.inr (slot_ne (Or.inl (hw _ tw49)) (Or.inl (hw _ tw22)) (by decide) (t := .int) (t' := (.array .boolean)) (by decide) (by decide)))).ext E80).other W90 (Or.inr (slot_ne (Or.inl (hw _ tw49)) (Or.inl (hw _ tw24)) (by decide) (t := .int) (t' := (.array .int)) (by decide) (by decide)))).ext E94).other W104 (Or.inr (slot_ne (Or.inl (hw _ tw49)) (Or.inl (hw _ tw26)) (by decide) (t := .int) (t' := (.array .double)) (by decide) (by decide)))).ext E108).other W118 (Or.inr (slot_ne (Or.inl (hw _ tw49)) (Or.inl (hw _ tw28)) (by decide) (t := .int) (t' := (.array .int)) (by decide) (by decide)))).other W124 (Or.inr (slot_ne (Or.inl (hw _ tw49)) (Or.inr (hw _ tw30)) (by decide) (t := .int) (t' := .int) (by decide) (by decide)))).ext E128).other W138 (Or.inr (slot_ne (Or.inl (hw _ tw49)) (Or.inl (hw _ tw32)) (by decide) (t := .int) (t' := (.array .int)) (by decide) (by decide)))).ext E142).other W152 (Or.inr (slot_ne (Or.inl (hw _ tw49)) (Or.inl (hw _ tw34)) (by decide) (t := .int) (t' := (.array .int)) (by decide) (by decide)))).ext E156).other W166 (Or.inr (slot_ne (Or.inl (hw _ tw49)) (Or.inl (hw _ tw36)) (by decide) (t := .int) (t' := (.array .double)) (by decide) (by decide)))
  have S_185 := (((((((((((((((Keep.refl h20 [a0_]).ext E24).wr W34 (Or.inl mI0)).ext E38).wr W48 (Or.inl mI0)).ext E52).wr W62 (Or.inl mI0)).ext E66).wr W76 (Or.inl mI0)).ext E80).wr W90 (Or.inl mI0)).ext E94).wr W104 (Or.inl mI0)).ext E108).wr W118 (Or.inl mI0)).wr W124 (Or.inl mI0)
  have S_186 : Keep h20 h166 [a0_] := (S_185.trans S_181 (allS (Or.inl mI0) all0))
  have c187 := ((((((((((((((((((((F21.ext E24).other W34 (Or.inr (slot_ne (Or.inl (hw _ tw13)) (Or.inl (hw _ tw15)) (by decide) (t := (.array .int)) (t' := (.array .int)) (by decide) (by decide)))).ext E38).other W48 (Or.inr (slot_ne (Or.inl (hw _ tw13)) (Or.inl (hw _ tw17)) (by decide) (t := (.array .int)) (t' := (.array .int)) (by decide) (by decide)))).ext E52).other W62 (Or.inr (slot_ne (Or.inl (hw _ tw13)) (Or.inl (hw _ tw19)) (by decide) (t := (.array .int)) (t' := (.array .double)) (by decide) (by decide)))).ext E66).other W76 (Or.inr (slot_ne (Or.inl (hw _ tw13)) (Or.inl (hw _ tw22)) (by decide) (t := (.array .int)) (t' := (.array .boolean)) (by decide) (by decide)))).ext E80).other W90 (Or.inr (slot_ne (Or.inl (hw _ tw13)) (Or.inl (hw _ tw24)) (by decide) (t := (.array .int)) (t' := (.array .int)) (by decide) (by decide)))).ext E94).other W104 (Or.inr (slot_ne (Or.inl (hw _ tw13)) (Or.inl (hw _ tw26)) (by decide) (t := (.array .int)) (t' := (.array .double)) (by decide) (by decide)))).ext E108).other W118 (Or.inr (slot_ne (Or.inl (hw _ tw13)) (Or.inl (hw _ tw28)) (by decide) (t := (.array .int)) (t' := (.array .int)) (by decide) (by decide)))).other W124 (Or.inr (slot_ne (Or.inl (hw _ tw13)) (Or.inr (hw _ tw30)) (by decide) (t := (.array .int)) (t' := .int) (by decide) (by decide)))).ext E128).other W138 (Or.inr (slot_ne (Or.inl (hw _ tw13)) (Or.inl (hw _ tw32)) (by decide) (t := (.array .int)) (t' := (.array .int)) (by decide) (by decide)))).ext E142).other W152 (Or.inr (slot_ne (Or.inl (hw _ tw13)) (Or.inl (hw _ tw34)) (by decide) (t := (.array .int)) (t' := (.array .int)) (by decide) (by decide)))).ext E156).other W166 (Or.inr (slot_ne (Or.inl (hw _ tw13)) (Or.inl (hw _ tw36)) (by decide) (t := (.array .int)) (t' := (.array .double)) (by decide) (by decide)))
  have S_188 := (Keep.refl h11 [a0_]).wr W20 (Or.inl mI0)
  have S_189 : Keep h11 h166 [a0_] := (S_188.trans S_186 (allS (Or.inl mI0) all0))
  have o190 : a0_ < b11 := Nat.lt_of_lt_of_le E0.lt lb12
  have ne191 : a0_ ≠ b11 := Nat.ne_of_lt o190
  have c192 := V17.keep S_189 (ninS (Ne.symm ne191) nin0)
  have S_193 := (((((((((((((Keep.refl h34 [a0_]).ext E38).wr W48 (Or.inl mI0)).ext E52).wr W62 (Or.inl mI0)).ext E66).wr W76 (Or.inl mI0)).ext E80).wr W90 (Or.inl mI0)).ext E94).wr W104 (Or.inl mI0)).ext E108).wr W118 (Or.inl mI0)).wr W124 (Or.inl mI0)
  have S_194 : Keep h34 h166 [a0_] := (S_193.trans S_181 (allS (Or.inl mI0) all0))
  have c195 := ((((((((((((((((((F35.ext E38).other W48 (Or.inr (slot_ne (Or.inl (hw _ tw15)) (Or.inl (hw _ tw17)) (by decide) (t := (.array .int)) (t' := (.array .int)) (by decide) (by decide)))).ext E52).other W62 (Or.inr (slot_ne (Or.inl (hw _ tw15)) (Or.inl (hw _ tw19)) (by decide) (t := (.array .int)) (t' := (.array .double)) (by decide) (by decide)))).ext E66).other W76 (Or.inr (slot_ne (Or.inl (hw _ tw15)) (Or.inl (hw _ tw22)) (by decide) (t := (.array .int)) (t' := (.array .boolean)) (by decide) (by decide)))).ext E80).other W90 (Or.inr (slot_ne (Or.inl (hw _ tw15)) (Or.inl (hw _ tw24)) (by decide) (t := (.array .int)) (t' := (.array .int)) (by decide) (by decide)))).ext E94).other W104 (Or.inr (slot_ne (Or.inl (hw _ tw15)) (Or.inl (hw _ tw26)) (by decide) (t := (.array .int)) (t' := (.array .double)) (by decide) (by decide)))).ext E108).other W118 (Or.inr (slot_ne (Or.inl (hw _ tw15)) (Or.inl (hw _ tw28)) (by decide) (t := (.array .int)) (t' := (.array .int)) (by decide) (by decide)))).other W124 (Or.inr (slot_ne (Or.inl (hw _ tw15)) (Or.inr (hw _ tw30)) (by decide) (t := (.array .int)) (t' := .int) (by decide) (by decide)))).ext E128).other W138 (Or.inr (slot_ne (Or.inl (hw _ tw15)) (Or.inl (hw _ tw32)) (by decide) (t := (.array .int)) (t' := (.array .int)) (by decide) (by decide)))).ext E142).other W152 (Or.inr (slot_ne (Or.inl (hw _ tw15)) (Or.inl (hw _ tw34)) (by decide) (t := (.array .int)) (t' := (.array .int)) (by decide) (by decide)))).ext E156).other W166 (Or.inr (slot_ne (Or.inl (hw _ tw15)) (Or.inl (hw _ tw36)) (by decide) (t := (.array .int)) (t' := (.array .double)) (by decide) (by decide)))
  have S_196 := (Keep.refl h24 [a0_]).wr W34 (Or.inl mI0)
  have S_197 : Keep h24 h166 [a0_] := (S_196.trans S_194 (allS (Or.inl mI0) all0))
  have o198 : a0_ < b24 := Nat.lt_trans o190 o170
  have ne199 : a0_ ≠ b24 := Nat.ne_of_lt o198
  have c200 := V30.keep S_197 (ninS (Ne.symm ne199) nin0)
  have S_201 := (((((((((((Keep.refl h48 [a0_]).ext E52).wr W62 (Or.inl mI0)).ext E66).wr W76 (Or.inl mI0)).ext E80).wr W90 (Or.inl mI0)).ext E94).wr W104 (Or.inl mI0)).ext E108).wr W118 (Or.inl mI0)).wr W124 (Or.inl mI0)
  have S_202 : Keep h48 h166 [a0_] := (S_201.trans S_181 (allS (Or.inl mI0) all0))
  have c203 := ((((((((((((((((F49.ext E52).other W62 (Or.inr (slot_ne (Or.inl (hw _ tw17)) (Or.inl (hw _ tw19)) (by decide) (t := (.array .int)) (t' := (.array .double)) (by decide) (by decide)))).ext E66).other W76 (Or.inr (slot_ne (Or.inl (hw _ tw17)) (Or.inl (hw _ tw22)) (by decide) (t := (.array .int)) (t' := (.array .boolean)) (by decide) (by decide)))).ext E80).other W90 (Or.inr (slot_ne (Or.inl (hw _ tw17)) (Or.inl (hw _ tw24)) (by decide) (t := (.array .int)) (t' := (.array .int)) (by decide) (by decide)))).ext E94).other W104 (Or.inr (slot_ne (Or.inl (hw _ tw17)) (Or.inl (hw _ tw26)) (by decide) (t := (.array .int)) (t' := (.array .double)) (by decide) (by decide)))).ext E108).other W118 (Or.inr (slot_ne (Or.inl (hw _ tw17)) (Or.inl (hw _ tw28)) (by decide) (t := (.array .int)) (t' := (.array .int)) (by decide) (by decide)))).other W124 (Or.inr (slot_ne (Or.inl (hw _ tw17)) (Or.inr (hw _ tw30)) (by decide) (t := (.array .int)) (t' := .int) (by decide) (by decide)))).ext E128).other W138 (Or.inr (slot_ne (Or.inl (hw _ tw17)) (Or.inl (hw _ tw32)) (by decide) (t := (.array .int)) (t' := (.array .int)) (by decide) (by decide)))).ext E142).other W152 (Or.inr (slot_ne (Or.inl (hw _ tw17)) (Or.inl (hw _ tw34)) (by decide) (t := (.array .int)) (t' := (.array .int)) (by decide) (by decide)))).ext E156).other W166 (Or.inr (slot_ne (Or.inl (hw _ tw17)) (Or.inl (hw _ tw36)) (by decide) (t := (.array .int)) (t' := (.array .double)) (by decide) (by decide)))
  have S_204 := (Keep.refl h38 [a0_]).wr W48 (Or.inl mI0)
  have S_205 : Keep h38 h166 [a0_] := (S_204.trans S_202 (allS (Or.inl mI0) all0))
  have o206 : a0_ < b38 := Nat.lt_trans o198 o171
  have ne207 : a0_ ≠ b38 := Nat.ne_of_lt o206
  have c208 := V44.keep S_205 (ninS (Ne.symm ne207) nin0)
  have S_209 := (((((((((Keep.refl h62 [a0_]).ext E66).wr W76 (Or.inl mI0)).ext E80).wr W90 (Or.inl mI0)).ext E94).wr W104 (Or.inl mI0)).ext E108).wr W118 (Or.inl mI0)).wr W124 (Or.inl mI0)
  have S_210 : Keep h62 h166 [a0_] := (S_209.trans S_181 (allS (Or.inl mI0) all0))
  have c211 := ((((((((((((((F63.ext E66).other W76 (Or.inr (slot_ne (Or.inl (hw _ tw19)) (Or.inl (hw _ tw22)) (by decide) (t := (.array .double)) (t' := (.array .boolean)) (by decide) (by decide)))).ext E80).other W90 (Or.inr (slot_ne (Or.inl (hw _ tw19)) (Or.inl (hw _ tw24)) (by decide) (t := (.array .double)) (t' := (.array .int)) (by decide) (by decide)))).ext E94).other W104 (Or.inr (slot_ne (Or.inl (hw _ tw19)) (Or.inl (hw _ tw26)) (by decide) (t := (.array .double)) (t' := (.array .double)) (by decide) (by decide)))).ext E108).other W118 (Or.inr (slot_ne (Or.inl (hw _ tw19)) (Or.inl (hw _ tw28)) (by decide) (t := (.array .double)) (t' := (.array .int)) (by decide) (by decide)))).other W124 (Or.inr (slot_ne (Or.inl (hw _ tw19)) (Or.inr (hw _ tw30)) (by decide) (t := (.array .double)) (t' := .int) (by decide) (by decide)))).ext E128).other W138 (Or.inr (slot_ne (Or.inl (hw _ tw19)) (Or.inl (hw _ tw32)) (by decide) (t := (.array .double)) (t' := (.array .int)) (by decide) (by decide)))).ext E142).other W152 (Or.inr (slot_ne (Or.inl (hw _ tw19)) (Or.inl (hw _ tw34)) (by decide) (t := (.array .double)) (t' := (.array .int)) (by decide) (by decide)))).ext E156).other W166 (Or.inr (slot_ne (Or.inl (hw _ tw19)) (Or.inl (hw _ tw36)) (by decide) (t := (.array .double)) (t' := (.array .double)) (by decide) (by decide)))
  have S_212 := (Keep.refl h52 [a0_]).wr W62 (Or.inl mI0)
  have S_213 : Keep h52 h166 [a0_] := (S_212.trans S_210 (allS (Or.inl mI0) all0))
  have o214 : a0_ < b52 := Nat.lt_trans o206 o172
  have ne215 : a0_ ≠ b52 := Nat.ne_of_lt o214
  have c216 := V58.keep S_213 (ninS (Ne.symm ne215) nin0)
  have S_217 := (((((((Keep.refl h76 [a0_]).ext E80).wr W90 (Or.inl mI0)).ext E94).wr W104 (Or.inl mI0)).ext E108).wr W118 (Or.inl mI0)).wr W124 (Or.inl mI0)
  have S_218 : Keep h76 h166 [a0_] := (S_217.trans S_181 (allS (Or.inl mI0) all0))
  have c219 := ((((((((((((F77.ext E80).other W90 (Or.inr (slot_ne (Or.inl (hw _ tw22)) (Or.inl (hw _ tw24)) (by decide) (t := (.array .boolean)) (t' := (.array .int)) (by decide) (by decide)))).ext E94).other W104 (Or.inr (slot_ne (Or.inl (hw _ tw22)) (Or.inl (hw _ tw26)) (by decide) (t := (.array .boolean)) (t' := (.array .double)) (by decide) (by decide)))).ext E108).other W118 (Or.inr (slot_ne (Or.inl (hw _ tw22)) (Or.inl (hw _ tw28)) (by decide) (t := (.array .boolean)) (t' := (.array .int)) (by decide) (by decide)))).other W124 (Or.inr (slot_ne (Or.inl (hw _ tw22)) (Or.inr (hw _ tw30)) (by decide) (t := (.array .boolean)) (t' := .int) (by decide) (by decide)))).ext E128).other W138 (Or.inr (slot_ne (Or.inl (hw _ tw22)) (Or.inl (hw _ tw32)) (by decide) (t := (.array .boolean)) (t' := (.array .int)) (by decide) (by decide)))).ext E142).other W152 (Or.inr (slot_ne (Or.inl (hw _ tw22)) (Or.inl (hw _ tw34)) (by decide) (t := (.array .boolean)) (t' := (.array .int)) (by decide) (by decide)))).ext E156).other W166 (Or.inr (slot_ne (Or.inl (hw _ tw22)) (Or.inl (hw _ tw36)) (by decide) (t := (.array .boolean)) (t' := (.array .double)) (by decide) (by decide)))
  have S_220 := (Keep.refl h66 [a0_]).wr W76 (Or.inl mI0)
  have S_221 : Keep h66 h166 [a0_] := (S_220.trans S_218 (allS (Or.inl mI0) all0))
  have o222 : a0_ < b66 := Nat.lt_trans o214 o173
  have ne223 : a0_ ≠ b66 := Nat.ne_of_lt o222
  have c224 := V72.keep S_221 (ninS (Ne.symm ne223) nin0)
  have S_225 := (((((Keep.refl h90 [a0_]).ext E94).wr W104 (Or.inl mI0)).ext E108).wr W118 (Or.inl mI0)).wr W124 (Or.inl mI0)
  have S_226 : Keep h90 h166 [a0_] := (S_225.trans S_181 (allS (Or.inl mI0) all0))
  have c227 := ((((((((((F91.ext E94).other W104 (Or.inr (slot_ne (Or.inl (hw _ tw24)) (Or.inl (hw _ tw26)) (by decide) (t := (.array .int)) (t' := (.array .double)) (by decide) (by decide)))).ext E108).other W118 (Or.inr (slot_ne (Or.inl (hw _ tw24)) (Or.inl (hw _ tw28)) (by decide) (t := (.array .int)) (t' := (.array .int)) (by decide) (by decide)))).other W124 (Or.inr (slot_ne (Or.inl (hw _ tw24)) (Or.inr (hw _ tw30)) (by decide) (t := (.array .int)) (t' := .int) (by decide) (by decide)))).ext E128).other W138 (Or.inr (slot_ne (Or.inl (hw _ tw24)) (Or.inl (hw _ tw32)) (by decide) (t := (.array .int)) (t' := (.array .int)) (by decide) (by decide)))).ext E142).other W152 (Or.inr (slot_ne (Or.inl (hw _ tw24)) (Or.inl (hw _ tw34)) (by decide) (t := (.array .int)) (t' := (.array .int)) (by decide) (by decide)))).ext E156).other W166 (Or.inr (slot_ne (Or.inl (hw _ tw24)) (Or.inl (hw _ tw36)) (by decide) (t := (.array .int)) (t' := (.array .double)) (by decide) (by decide)))
  have S_228 := (Keep.refl h80 [a0_]).wr W90 (Or.inl mI0)
  have S_229 : Keep h80 h166 [a0_] := (S_228.trans S_226 (allS (Or.inl mI0) all0))
  have o230 : a0_ < b80 := Nat.lt_trans o222 o174
  have ne231 : a0_ ≠ b80 := Nat.ne_of_lt o230
  have c232 := V86.keep S_229 (ninS (Ne.symm ne231) nin0)
  have S_233 := (((Keep.refl h104 [a0_]).ext E108).wr W118 (Or.inl mI0)).wr W124 (Or.inl mI0)
  have S_234 : Keep h104 h166 [a0_] := (S_233.trans S_181 (allS (Or.inl mI0) all0))
  have c235 := ((((((((F105.ext E108).other W118 (Or.inr (slot_ne (Or.inl (hw _ tw26)) (Or.inl (hw _ tw28)) (by decide) (t := (.array .double)) (t' := (.array .int)) (by decide) (by decide)))).other W124 (Or.inr (slot_ne (Or.inl (hw _ tw26)) (Or.inr (hw _ tw30)) (by decide) (t := (.array .double)) (t' := .int) (by decide) (by decide)))).ext E128).other W138 (Or.inr (slot_ne (Or.inl (hw _ tw26)) (Or.inl (hw _ tw32)) (by decide) (t := (.array .double)) (t' := (.array .int)) (by decide) (by decide)))).ext E142).other W152 (Or.inr (slot_ne (Or.inl (hw _ tw26)) (Or.inl (hw _ tw34)) (by decide) (t := (.array .double)) (t' := (.array .int)) (by decide) (by decide)))).ext E156).other W166 (Or.inr (slot_ne (Or.inl (hw _ tw26)) (Or.inl (hw _ tw36)) (by decide) (t := (.array .double)) (t' := (.array .double)) (by decide) (by decide)))
  have S_236 := (Keep.refl h94 [a0_]).wr W104 (Or.inl mI0)
  have S_237 : Keep h94 h166 [a0_] := (S_236.trans S_234 (allS (Or.inl mI0) all0))
  have o238 : a0_ < b94 := Nat.lt_trans o230 o175
  have ne239 : a0_ ≠ b94 := Nat.ne_of_lt o238
  have c240 := V100.keep S_237 (ninS (Ne.symm ne239) nin0)
  have S_241 := (Keep.refl h118 [a0_]).wr W124 (Or.inl mI0)
  have S_242 : Keep h118 h166 [a0_] := (S_241.trans S_181 (allS (Or.inl mI0) all0))
  have c243 := ((((((F119.other W124 (Or.inr (slot_ne (Or.inl (hw _ tw28)) (Or.inr (hw _ tw30)) (by decide) (t := (.array .int)) (t' := .int) (by decide) (by decide)))).ext E128).other W138 (Or.inr (slot_ne (Or.inl (hw _ tw28)) (Or.inl (hw _ tw32)) (by decide) (t := (.array .int)) (t' := (.array .int)) (by decide) (by decide)))).ext E142).other W152 (Or.inr (slot_ne (Or.inl (hw _ tw28)) (Or.inl (hw _ tw34)) (by decide) (t := (.array .int)) (t' := (.array .int)) (by decide) (by decide)))).ext E156).other W166 (Or.inr (slot_ne (Or.inl (hw _ tw28)) (Or.inl (hw _ tw36)) (by decide) (t := (.array .int)) (t' := (.array .double)) (by decide) (by decide)))
  have S_244 := (Keep.refl h108 [a0_]).wr W118 (Or.inl mI0)
  have S_245 : Keep h108 h166 [a0_] := (S_244.trans S_242 (allS (Or.inl mI0) all0))
  have o246 : a0_ < b108 := Nat.lt_trans o238 o176
  have ne247 : a0_ ≠ b108 := Nat.ne_of_lt o246
  have c248 := V114.keep S_245 (ninS (Ne.symm ne247) nin0)
  have S_249 : Keep h138 h166 [a0_] := (((((Keep.refl h138 [a0_]).ext E142).wr W152 (Or.inl mI0)).ext E156).wr W166 (Or.inl mI0))
  have c250 := (((F139.ext E142).other W152 (Or.inr (slot_ne (Or.inl (hw _ tw32)) (Or.inl (hw _ tw34)) (by decide) (t := (.array .int)) (t' := (.array .int)) (by decide) (by decide)))).ext E156).other W166 (Or.inr (slot_ne (Or.inl (hw _ tw32)) (Or.inl (hw _ tw36)) (by decide) (t := (.array .int)) (t' := (.array .double)) (by decide) (by decide)))
  have S_251 := (Keep.refl h128 [a0_]).wr W138 (Or.inl mI0)
  have S_252 : Keep h128 h166 [a0_] := (S_251.trans S_249 (allS (Or.inl mI0) all0))
  have o253 : a0_ < b128 := Nat.lt_trans o246 o177
  have ne254 : a0_ ≠ b128 := Nat.ne_of_lt o253
  have c255 := V134.keep S_252 (ninS (Ne.symm ne254) nin0)
  have S_256 : Keep h152 h166 [a0_] := (((Keep.refl h152 [a0_]).ext E156).wr W166 (Or.inl mI0))
  have c257 := (F153.ext E156).other W166 (Or.inr (slot_ne (Or.inl (hw _ tw34)) (Or.inl (hw _ tw36)) (by decide) (t := (.array .int)) (t' := (.array .double)) (by decide) (by decide)))
  have S_258 := (Keep.refl h142 [a0_]).wr W152 (Or.inl mI0)
  have S_259 : Keep h142 h166 [a0_] := (S_258.trans S_256 (allS (Or.inl mI0) all0))
  have o260 : a0_ < b142 := Nat.lt_trans o253 o178
  have ne261 : a0_ ≠ b142 := Nat.ne_of_lt o260
  have c262 := V148.keep S_259 (ninS (Ne.symm ne261) nin0)
  have o263 : a0_ < b156 := Nat.lt_trans o260 o179
  have ne264 : a0_ ≠ b156 := Nat.ne_of_lt o263
  have c265 := V162.other W166 (Ne.symm ne264)
  refine Go.ret X166 (v := none) (fun _ => rfl) hlk (fun fs hr => X166.returnOut hx hret (hb hby d1_103) hr) ?_ (by decide) (by decide)
  show Q1_1 Z a0_ h0 n0 _ T166.heap _
  rw [e166]
  exact ⟨b11, b24, b38, b52, b66, b80, b94, b108, b128, b142, b156, k11, k24, k38, k52, k66, k80, k94, k108, k128, k142, k156, rfl, N166, K168, sz13, sz26, sz40, sz54, sz68, sz82, sz96, sz110, sz130, sz144, sz158, o170, o171, o172, o173, o174, o175, o176, o177, o178, o179, c180, c182, c183, c184, c187, c192, c195, c200, c203, c208, c211, c216, c219, c224, c227, c232, c235, c240, c243, c248, c250, c255, c257, c262, F167, c265⟩
theorem d6_0 : decode prog_63_method_13_code 0 = .ok (.dload_n 0, 1) := by decide +kernel
theorem d6_1 : decode prog_63_method_13_code 1 = .ok (.dload_n 3, 1) := by decide +kernel
theorem d6_2 : decode prog_63_method_13_code 2 = .ok (.dcmp .l, 1) := by decide +kernel
theorem d6_3 : decode prog_63_method_13_code 3 = .ok (.ifCond .gt 15, 3) := by decide +kernel
theorem d6_6 : decode prog_63_method_13_code 6 = .ok (.dload_n 0, 1) := by decide +kernel
theorem d6_7 : decode prog_63_method_13_code 7 = .ok (.dload_n 3, 1) := by decide +kernel
theorem d6_8 : decode prog_63_method_13_code 8 = .ok (.dcmp .l, 1) := by decide +kernel
theorem d6_9 : decode prog_63_method_13_code 9 = .ok (.ifCond .ne 13, 3) := by decide +kernel
theorem d6_12 : decode prog_63_method_13_code 12 = .ok (.iload_n 2, 1) := by decide +kernel
theorem d6_13 : decode prog_63_method_13_code 13 = .ok (.iload 5, 2) := by decide +kernel
theorem d6_15 : decode prog_63_method_13_code 15 = .ok (.if_icmp .ge 7, 3) := by decide +kernel
theorem d6_22 : decode prog_63_method_13_code 22 = .ok (.iconst 0, 1) := by decide +kernel
theorem d6_23 : decode prog_63_method_13_code 23 = .ok (.ireturn, 1) := by decide +kernel
theorem ef6 (m : MethodId)  : entryFrame m #[(.double (FP.l2d (1 : Int64))), (.int 0), (.double (FP.l2d (1 : Int64))), (.int 0)] 6 = mkF m 0 #[.val (.double (FP.l2d (1 : Int64))), .second, .val (.int 0), .val (.double (FP.l2d (1 : Int64))), .second, .val (.int 0)] [] := by first | (simp [entryFrame, mkF, argsToLocals, Value.category]; done) | rfl
def Q6 (Z : State)  (h0 : Heap) (n0 : Nat) (v : Option Value) (h : Heap) (L : List Loc) : Prop := v = some (.int 0) ∧ Fr n0 L ∧ h = h0
theorem rm6 (l : Launch) (Z : State) (a0 : Array Value) (hw : ∀ d ∈ tables_1, d.before a0 Z = true) (ws : List Jvm.Cond)  (h0 : Heap) (n0 : Nat) (Z0 : n0 ≤ h0.size) (O0 : Old Z n0 h0) :
    Met l Z ws (⟨sq0, "isBefore", "(DIDI)Z"⟩ : MethodName) prog_63_method_13_code 6 (some .boolean) (Rm 0 0 0 0) #[(.double (FP.l2d (1 : Int64))), (.int 0), (.double (FP.l2d (1 : Int64))), (.int 0)] h0 (Q6 Z  h0 n0) := by
  refine Met.enter (L0 := #[.val (.double (FP.l2d (1 : Int64))), .second, .val (.int 0), .val (.double (FP.l2d (1 : Int64))), .second, .val (.int 0)]) (plainFor_of_name pn56) (fun m => ef6 m ) ?_
  intro p e s m below meth c s₁ hx hby hml hown hnm hret hlk hZ X0 e0
  have N0 := Fr.nil n0
  have K0 : Keep h0 h0 [] := Keep.refl h0 _
  refine Go.st (t' := s₁.setTop (mkF m 23 #[.val (.double (FP.l2d (1 : Int64))), .second, .val (.int 0), .val (.double (FP.l2d (1 : Int64))), .second, .val (.int 0)] [(.int 0)])) (fun target kt => ?_) ?_
  · refine XS.dloadN X0.here hx rfl (hb hby d6_0) rfl ?_
    refine XS.dloadN X0.here hx rfl (hb hby d6_1) rfl ?_
    refine XS.dcmpS X0.here hx rfl (hb hby d6_2) rfl (dcmpV_self (nn_w rfl) _) ?_
    refine XS.ifNo X0.here hx rfl (hb hby d6_3) rfl ((if0 _ _).trans (flt (by decide : ¬ ((0 : Int32) < (0 : Int32)))).2.2.1) ?_
    refine XS.dloadN X0.here hx rfl (hb hby d6_6) rfl ?_
    refine XS.dloadN X0.here hx rfl (hb hby d6_7) rfl ?_
    refine XS.dcmpS X0.here hx rfl (hb hby d6_8) rfl (dcmpV_self (nn_w rfl) _) ?_
    refine XS.ifNo X0.here hx rfl (hb hby d6_9) rfl ((if0 _ _).trans (teq (by decide : (0 : Int32) = (0 : Int32))).2) ?_
    refine XS.iloadN X0.here hx rfl (hb hby d6_12) rfl ?_
    refine XS.iload X0.here hx rfl (hb hby d6_13) rfl ?_
    refine XS.icmpYes X0.here hx rfl (pc0 := 15) (pc' := 22) rfl (hb hby d6_15) rfl (flt (by decide : ¬ ((0 : Int32) < (0 : Int32)))).2.1 (by decide) (by decide) ?_
    refine XS.iconst X0.here hx rfl (hb hby d6_22) ?_
    exact kt
  refine Go.ret X0 (v := some (.int 0)) (fun h => by rw [hret] at h; cases h) hlk (fun fs hr => retN X0 hx (t := .boolean) hret (by simp) (hb hby d6_23) hr) ?_ (by decide) (by decide)
  show Q6 Z  h0 n0 _ s₁.heap _
  rw [e0]
  exact ⟨rfl, N0, rfl⟩
theorem ef1_2 (m : MethodId) (x0 : Addr) : entryFrame m #[(.ref x0), (.int 2)] 2 = mkF m 0 #[.val (.ref x0), .val (.int 2)] [] := by first | (simp [entryFrame, mkF, argsToLocals, Value.category]; done) | rfl
def Q1_2 (Z : State) (a0_ : Addr) (h0 : Heap) (n0 : Nat) (v : Option Value) (h : Heap) (L : List Loc) : Prop := ∃ (x_starts : Addr) (x_nexts : Addr) (x_ends : Addr) (x_bounds : Addr) (x_windows : Addr) (x_heap : Addr) (x_heapBounds : Addr) (x_heapStarts : Addr) (x_entries : Addr) (x_blocks : Addr) (x_parts : Addr) (k_starts : ClassId) (k_nexts : ClassId) (k_ends : ClassId) (k_bounds : ClassId) (k_windows : ClassId) (k_heap : ClassId) (k_heapBounds : ClassId) (k_heapStarts : ClassId) (k_entries : ClassId) (k_blocks : ClassId) (k_parts : ClassId), v = none ∧ Fr n0 L ∧ Keep h0 h [a0_] ∧ h0.size ≤ x_starts ∧ h0.size ≤ x_nexts ∧ h0.size ≤ x_ends ∧ h0.size ≤ x_bounds ∧ h0.size ≤ x_windows ∧ h0.size ≤ x_heap ∧ h0.size ≤ x_heapBounds ∧ h0.size ≤ x_heapStarts ∧ h0.size ≤ x_entries ∧ h0.size ≤ x_blocks ∧ h0.size ≤ x_parts ∧ x_starts < x_nexts ∧ x_nexts < x_ends ∧ x_ends < x_bounds ∧ x_bounds < x_windows ∧ x_windows < x_heap ∧ x_heap < x_heapBounds ∧ x_heapBounds < x_heapStarts ∧ x_heapStarts < x_entries ∧ x_entries < x_blocks ∧ x_blocks < x_parts ∧ Exa Z h a0_ sq0 ∧ Fld Z h a0_ sq0 "count" "I" (.int 2) ∧ Fld Z h a0_ sq0 "added" "I" (.int 0) ∧ Fld Z h a0_ sq0 "size" "I" (.int 0) ∧ Fld Z h a0_ sq0 "starts" "[I" (.ref x_starts) ∧ Arv Z h x_starts k_starts .int (16 : Int32) [(.int 0), (.int 0), (.int 0), (.int 0)] (.int 0) ∧ Fld Z h a0_ sq0 "nexts" "[I" (.ref x_nexts) ∧ Arv Z h x_nexts k_nexts .int (16 : Int32) [(.int 0), (.int 0), (.int 0), (.int 0)] (.int 0) ∧ Fld Z h a0_ sq0 "ends" "[I" (.ref x_ends) ∧ Arv Z h x_ends k_ends .int (16 : Int32) [(.int 0), (.int 0), (.int 0), (.int 0)] (.int 0) ∧ Fld Z h a0_ sq0 "bounds" "[D" (.ref x_bounds) ∧ Arv Z h x_bounds k_bounds .double (16 : Int32) [(.double (FP.l2d 0)), (.double (FP.l2d 0)), (.double (FP.l2d 0)), (.double (FP.l2d 0))] (.double (FP.l2d 0)) ∧ Fld Z h a0_ sq0 "windows" "[Z" (.ref x_windows) ∧ Arv Z h x_windows k_windows .boolean (16 : Int32) [(.int 0), (.int 0), (.int 0), (.int 0)] (.int 0) ∧ Fld Z h a0_ sq0 "heap" "[I" (.ref x_heap) ∧ Arv Z h x_heap k_heap .int (16 : Int32) [(.int 0), (.int 0), (.int 0), (.int 0)] (.int 0) ∧ Fld Z h a0_ sq0 "heapBounds" "[D" (.ref x_heapBounds) ∧ Arv Z h x_heapBounds k_heapBounds .double (16 : Int32) [(.double (FP.l2d 0)), (.double (FP.l2d 0)), (.double (FP.l2d 0)), (.double (FP.l2d 0))] (.double (FP.l2d 0)) ∧ Fld Z h a0_ sq0 "heapStarts" "[I" (.ref x_heapStarts) ∧ Arv Z h x_heapStarts k_heapStarts .int (16 : Int32) [(.int 0), (.int 0), (.int 0), (.int 0)] (.int 0) ∧ Fld Z h a0_ sq0 "entries" "[I" (.ref x_entries) ∧ Arv Z h x_entries k_entries .int (32 : Int32) [(.int 0), (.int 0), (.int 0), (.int 0)] (.int 0) ∧ Fld Z h a0_ sq0 "blocks" "[I" (.ref x_blocks) ∧ Arv Z h x_blocks k_blocks .int (32 : Int32) [(.int 0), (.int 0), (.int 0), (.int 0)] (.int 0) ∧ Fld Z h a0_ sq0 "parts" "[D" (.ref x_parts) ∧ Arv Z h x_parts k_parts .double (32 : Int32) [(.double (FP.l2d 0)), (.double (FP.l2d 0)), (.double (FP.l2d 0)), (.double (FP.l2d 0))] (.double (FP.l2d 0))
theorem rm1_2 (l : Launch) (Z : State) (a0 : Array Value) (hw : ∀ d ∈ tables_1, d.before a0 Z = true) (ws : List Jvm.Cond) (a0_ : Addr) (h0 : Heap) (n0 : Nat) (Z0 : n0 ≤ h0.size) (O0 : Old Z n0 h0) (E0 : Exa Z h0 a0_ sq0) (g_a0 : n0 ≤ a0_) (F_starts : Fld Z h0 a0_ sq0 "starts" "[I" .null) (F_nexts : Fld Z h0 a0_ sq0 "nexts" "[I" .null) (F_ends : Fld Z h0 a0_ sq0 "ends" "[I" .null) (F_bounds : Fld Z h0 a0_ sq0 "bounds" "[D" .null) (F_windows : Fld Z h0 a0_ sq0 "windows" "[Z" .null) (F_heap : Fld Z h0 a0_ sq0 "heap" "[I" .null) (F_heapBounds : Fld Z h0 a0_ sq0 "heapBounds" "[D" .null) (F_heapStarts : Fld Z h0 a0_ sq0 "heapStarts" "[I" .null) (F_entries : Fld Z h0 a0_ sq0 "entries" "[I" .null) (F_blocks : Fld Z h0 a0_ sq0 "blocks" "[I" .null) (F_parts : Fld Z h0 a0_ sq0 "parts" "[D" .null) (F_count : Fld Z h0 a0_ sq0 "count" "I" (.int 0)) (F_added : Fld Z h0 a0_ sq0 "added" "I" (.int 0)) (F_size : Fld Z h0 a0_ sq0 "size" "I" (.int 0)) :
    Met l Z ws (⟨sq0, "<init>", "(I)V"⟩ : MethodName) prog_63_method_1_code 2 none (Rm 1 11 224 12) #[(.ref a0_), (.int 2)] h0 (Q1_2 Z a0_ h0 n0) := by
  refine Met.enter (L0 := #[.val (.ref a0_), .val (.int 2)]) (plainFor_of_name pn56) (fun m => ef1_2 m a0_) ?_
  intro p e s m below meth c s₁ hx hby hml hown hnm hret hlk hZ X0 e0
  have N0 := Fr.nil n0
  have K0 : Keep h0 h0 [a0_] := Keep.refl h0 _
  refine Go.st (t' := s₁.setTop (mkF m 1 #[.val (.ref a0_), .val (.int 2)] [(.ref a0_)])) (fun target kt => ?_) ?_
  · refine XS.aloadN X0.here hx rfl (hb hby d1_0) rfl rfl ?_
    exact kt
  obtain ⟨T10, X10, e10, st10⟩ := initO X0 hx hZ hown (hw _ tw9) (hw _ tw10) (hw _ tw11) e0 (g := (mkF m 1 #[.val (.ref a0_), .val (.int 2)] [(.ref a0_)])) rfl (by rw [hml]; rfl) rfl (hb hby d1_1) (by decide) (W := 0) (by show 2 * 0 + _ ≤ _; exact Nat.le_of_eq rfl) (by decide)
  refine Go.st st10 ?_
  refine Go.st (t' := T10.setTop (mkF m 7 #[.val (.ref a0_), .val (.int 2)] [(.int 16), (.ref a0_)])) (fun target kt => ?_) ?_
  · refine XS.aloadN X10.here hx rfl (hb hby d1_4) rfl rfl ?_
    refine XS.bipush X10.here hx rfl (hb hby d1_5) ?_
    exact kt
  obtain ⟨T11, h11, k11, X11, e11, E11, A11, B11, st11⟩ := newPE (aty := .int) X10 hx hZ (hw _ tw0) e10 (g := (mkF m 7 #[.val (.ref a0_), .val (.int 2)] [(.int 16), (.ref a0_)])) rfl (hb hby d1_7) rfl (by decide) (cap := 16) (by decide) (by decide) (by decide) (by decide) (ad := "[I") (by decide)
  obtain ⟨b11, g11⟩ : ∃ z, z = h0.size := ⟨_, rfl⟩
  rw [← g11] at A11 B11 st11
  have lb12 : h0.size ≤ b11 := Nat.le_of_eq g11.symm
  have sz13 : h0.size ≤ b11 := Nat.le_trans K0.1 lb12
  have g14 : n0 ≤ b11 := Nat.le_trans Z0 sz13
  have K15 := K0.ext E11
  have O16 := O0.ext E11
  have V17 : Arv Z h11 b11 k11 .int (16 : Int32) [(.int 0), (.int 0), (.int 0), (.int 0)] (.int 0) := (Arv.new A11 (by decide)).pad (pad_rep [] (.int 0) 4)
  refine Go.st st11 ?_
  have c18 := F_starts.ext E11
  have c19 := E0.keep K15
  obtain ⟨T20, h20, X20, e20, W20, st20⟩ := putF X11 hx hZ hown (host := "") (Or.inl (hw _ tw12)) Via.refl e11 c18 c19 (Or.inl (hw _ tw13)) (hw _ tw4) (ty := (.array .int)) (by decide) rfl rfl (g := (mkF m 9 #[.val (.ref a0_), .val (.int 2)] [(.ref b11), (.ref a0_)])) rfl rfl (hb hby d1_9)
  have F21 : Fld Z h20 a0_ sq0 "starts" "[I" (.ref b11) := c18.same W20
  have K22 := K15.wr W20 (Or.inl mI0)
  have O23 := O16.wr W20 g_a0
  have N20 := Fr.snoc X20 N0 g_a0
  refine Go.st st20 ?_
  refine Go.st (t' := T20.setTop (mkF m 15 #[.val (.ref a0_), .val (.int 2)] [(.int 16), (.ref a0_)])) (fun target kt => ?_) ?_
  · refine XS.aloadN X20.here hx rfl (hb hby d1_12) rfl rfl ?_
    refine XS.bipush X20.here hx rfl (hb hby d1_13) ?_
    exact kt
  obtain ⟨T24, h24, k24, X24, e24, E24, A24, B24, st24⟩ := newPE (aty := .int) X20 hx hZ (hw _ tw0) e20 (g := (mkF m 15 #[.val (.ref a0_), .val (.int 2)] [(.int 16), (.ref a0_)])) rfl (hb hby d1_15) rfl (by decide) (cap := 16) (by decide) (by decide) (by decide) (by decide) (ad := "[I") (by decide)
  obtain ⟨b24, g24⟩ : ∃ z, z = h20.size := ⟨_, rfl⟩
  rw [← g24] at A24 B24 st24
  have lb25 : h20.size ≤ b24 := Nat.le_of_eq g24.symm
  have sz26 : h0.size ≤ b24 := Nat.le_trans K22.1 lb25
  have g27 : n0 ≤ b24 := Nat.le_trans Z0 sz26
  have K28 := K22.ext E24
  have O29 := O23.ext E24
  have V30 : Arv Z h24 b24 k24 .int (16 : Int32) [(.int 0), (.int 0), (.int 0), (.int 0)] (.int 0) := (Arv.new A24 (by decide)).pad (pad_rep [] (.int 0) 4)
  refine Go.st st24 ?_
  have c31 := ((F_nexts.ext E11).other W20 (Or.inr (slot_ne (Or.inl (hw _ tw15)) (Or.inl (hw _ tw13)) (by decide) (t := (.array .int)) (t' := (.array .int)) (by decide) (by decide)))).ext E24
  have S_32 : Keep h11 h24 [a0_] := (((Keep.refl h11 [a0_]).wr W20 (Or.inl mI0)).ext E24)
  have c33 := c19.keep S_32
  obtain ⟨T34, h34, X34, e34, W34, st34⟩ := putF X24 hx hZ hown (host := "") (Or.inl (hw _ tw14)) Via.refl e24 c31 c33 (Or.inl (hw _ tw15)) (hw _ tw4) (ty := (.array .int)) (by decide) rfl rfl (g := (mkF m 17 #[.val (.ref a0_), .val (.int 2)] [(.ref b24), (.ref a0_)])) rfl rfl (hb hby d1_17)
  have F35 : Fld Z h34 a0_ sq0 "nexts" "[I" (.ref b24) := c31.same W34
  have K36 := K28.wr W34 (Or.inl mI0)
  have O37 := O29.wr W34 g_a0
  have N34 := Fr.snoc X34 N20 g_a0
  refine Go.st st34 ?_
  refine Go.st (t' := T34.setTop (mkF m 23 #[.val (.ref a0_), .val (.int 2)] [(.int 16), (.ref a0_)])) (fun target kt => ?_) ?_
  · refine XS.aloadN X34.here hx rfl (hb hby d1_20) rfl rfl ?_
    refine XS.bipush X34.here hx rfl (hb hby d1_21) ?_
    exact kt
  obtain ⟨T38, h38, k38, X38, e38, E38, A38, B38, st38⟩ := newPE (aty := .int) X34 hx hZ (hw _ tw0) e34 (g := (mkF m 23 #[.val (.ref a0_), .val (.int 2)] [(.int 16), (.ref a0_)])) rfl (hb hby d1_23) rfl (by decide) (cap := 16) (by decide) (by decide) (by decide) (by decide) (ad := "[I") (by decide)
  obtain ⟨b38, g38⟩ : ∃ z, z = h34.size := ⟨_, rfl⟩
  rw [← g38] at A38 B38 st38
  have lb39 : h34.size ≤ b38 := Nat.le_of_eq g38.symm
  have sz40 : h0.size ≤ b38 := Nat.le_trans K36.1 lb39
  have g41 : n0 ≤ b38 := Nat.le_trans Z0 sz40
  have K42 := K36.ext E38
  have O43 := O37.ext E38
  have V44 : Arv Z h38 b38 k38 .int (16 : Int32) [(.int 0), (.int 0), (.int 0), (.int 0)] (.int 0) := (Arv.new A38 (by decide)).pad (pad_rep [] (.int 0) 4)
  refine Go.st st38 ?_
  have c45 := ((((F_ends.ext E11).other W20 (Or.inr (slot_ne (Or.inl (hw _ tw17)) (Or.inl (hw _ tw13)) (by decide) (t := (.array .int)) (t' := (.array .int)) (by decide) (by decide)))).ext E24).other W34 (Or.inr (slot_ne (Or.inl (hw _ tw17)) (Or.inl (hw _ tw15)) (by decide) (t := (.array .int)) (t' := (.array .int)) (by decide) (by decide)))).ext E38
  have S_46 : Keep h24 h38 [a0_] := (((Keep.refl h24 [a0_]).wr W34 (Or.inl mI0)).ext E38)
  have c47 := c33.keep S_46
  obtain ⟨T48, h48, X48, e48, W48, st48⟩ := putF X38 hx hZ hown (host := "") (Or.inl (hw _ tw16)) Via.refl e38 c45 c47 (Or.inl (hw _ tw17)) (hw _ tw4) (ty := (.array .int)) (by decide) rfl rfl (g := (mkF m 25 #[.val (.ref a0_), .val (.int 2)] [(.ref b38), (.ref a0_)])) rfl rfl (hb hby d1_25)
  have F49 : Fld Z h48 a0_ sq0 "ends" "[I" (.ref b38) := c45.same W48
  have K50 := K42.wr W48 (Or.inl mI0)
  have O51 := O43.wr W48 g_a0
  have N48 := Fr.snoc X48 N34 g_a0
  refine Go.st st48 ?_
  refine Go.st (t' := T48.setTop (mkF m 31 #[.val (.ref a0_), .val (.int 2)] [(.int 16), (.ref a0_)])) (fun target kt => ?_) ?_
  · refine XS.aloadN X48.here hx rfl (hb hby d1_28) rfl rfl ?_
    refine XS.bipush X48.here hx rfl (hb hby d1_29) ?_
    exact kt
  obtain ⟨T52, h52, k52, X52, e52, E52, A52, B52, st52⟩ := newPE (aty := .double) X48 hx hZ (hw _ tw1) e48 (g := (mkF m 31 #[.val (.ref a0_), .val (.int 2)] [(.int 16), (.ref a0_)])) rfl (hb hby d1_31) rfl (by decide) (cap := 16) (by decide) (by decide) (by decide) (by decide) (ad := "[D") (by decide)
  obtain ⟨b52, g52⟩ : ∃ z, z = h48.size := ⟨_, rfl⟩
  rw [← g52] at A52 B52 st52
  have lb53 : h48.size ≤ b52 := Nat.le_of_eq g52.symm
  have sz54 : h0.size ≤ b52 := Nat.le_trans K50.1 lb53
  have g55 : n0 ≤ b52 := Nat.le_trans Z0 sz54
  have K56 := K50.ext E52
  have O57 := O51.ext E52
  have V58 : Arv Z h52 b52 k52 .double (16 : Int32) [(.double (FP.l2d 0)), (.double (FP.l2d 0)), (.double (FP.l2d 0)), (.double (FP.l2d 0))] (.double (FP.l2d 0)) := (Arv.newD A52 (by decide)).pad (pad_rep [] (.double (FP.l2d 0)) 4)
  refine Go.st st52 ?_
  have c59 := ((((((F_bounds.ext E11).other W20 (Or.inr (slot_ne (Or.inl (hw _ tw19)) (Or.inl (hw _ tw13)) (by decide) (t := (.array .double)) (t' := (.array .int)) (by decide) (by decide)))).ext E24).other W34 (Or.inr (slot_ne (Or.inl (hw _ tw19)) (Or.inl (hw _ tw15)) (by decide) (t := (.array .double)) (t' := (.array .int)) (by decide) (by decide)))).ext E38).other W48 (Or.inr (slot_ne (Or.inl (hw _ tw19)) (Or.inl (hw _ tw17)) (by decide) (t := (.array .double)) (t' := (.array .int)) (by decide) (by decide)))).ext E52
  have S_60 : Keep h38 h52 [a0_] := (((Keep.refl h38 [a0_]).wr W48 (Or.inl mI0)).ext E52)
  have c61 := c47.keep S_60
  obtain ⟨T62, h62, X62, e62, W62, st62⟩ := putF X52 hx hZ hown (host := "") (Or.inl (hw _ tw18)) Via.refl e52 c59 c61 (Or.inl (hw _ tw19)) (hw _ tw4) (ty := (.array .double)) (by decide) rfl rfl (g := (mkF m 33 #[.val (.ref a0_), .val (.int 2)] [(.ref b52), (.ref a0_)])) rfl rfl (hb hby d1_33)
  have F63 : Fld Z h62 a0_ sq0 "bounds" "[D" (.ref b52) := c59.same W62
  have K64 := K56.wr W62 (Or.inl mI0)
  have O65 := O57.wr W62 g_a0
  have N62 := Fr.snoc X62 N48 g_a0
  refine Go.st st62 ?_
  refine Go.st (t' := T62.setTop (mkF m 39 #[.val (.ref a0_), .val (.int 2)] [(.int 16), (.ref a0_)])) (fun target kt => ?_) ?_
  · refine XS.aloadN X62.here hx rfl (hb hby d1_36) rfl rfl ?_
    refine XS.bipush X62.here hx rfl (hb hby d1_37) ?_
    exact kt
  obtain ⟨T66, h66, k66, X66, e66, E66, A66, B66, st66⟩ := newPE (aty := .boolean) X62 hx hZ (hw _ tw20) e62 (g := (mkF m 39 #[.val (.ref a0_), .val (.int 2)] [(.int 16), (.ref a0_)])) rfl (hb hby d1_39) rfl (by decide) (cap := 16) (by decide) (by decide) (by decide) (by decide) (ad := "[Z") (by decide)
  obtain ⟨b66, g66⟩ : ∃ z, z = h62.size := ⟨_, rfl⟩
  rw [← g66] at A66 B66 st66
  have lb67 : h62.size ≤ b66 := Nat.le_of_eq g66.symm
  have sz68 : h0.size ≤ b66 := Nat.le_trans K64.1 lb67
  have g69 : n0 ≤ b66 := Nat.le_trans Z0 sz68
  have K70 := K64.ext E66
  have O71 := O65.ext E66
  have V72 : Arv Z h66 b66 k66 .boolean (16 : Int32) [(.int 0), (.int 0), (.int 0), (.int 0)] (.int 0) := (Arv.new A66 (by decide)).pad (pad_rep [] (.int 0) 4)
  refine Go.st st66 ?_
  have c73 := ((((((((F_windows.ext E11).other W20 (Or.inr (slot_ne (Or.inl (hw _ tw22)) (Or.inl (hw _ tw13)) (by decide) (t := (.array .boolean)) (t' := (.array .int)) (by decide) (by decide)))).ext E24).other W34 (Or.inr (slot_ne (Or.inl (hw _ tw22)) (Or.inl (hw _ tw15)) (by decide) (t := (.array .boolean)) (t' := (.array .int)) (by decide) (by decide)))).ext E38).other W48 (Or.inr (slot_ne (Or.inl (hw _ tw22)) (Or.inl (hw _ tw17)) (by decide) (t := (.array .boolean)) (t' := (.array .int)) (by decide) (by decide)))).ext E52).other W62 (Or.inr (slot_ne (Or.inl (hw _ tw22)) (Or.inl (hw _ tw19)) (by decide) (t := (.array .boolean)) (t' := (.array .double)) (by decide) (by decide)))).ext E66
  have S_74 : Keep h52 h66 [a0_] := (((Keep.refl h52 [a0_]).wr W62 (Or.inl mI0)).ext E66)
  have c75 := c61.keep S_74
  obtain ⟨T76, h76, X76, e76, W76, st76⟩ := putF X66 hx hZ hown (host := "") (Or.inl (hw _ tw21)) Via.refl e66 c73 c75 (Or.inl (hw _ tw22)) (hw _ tw4) (ty := (.array .boolean)) (by decide) rfl rfl (g := (mkF m 41 #[.val (.ref a0_), .val (.int 2)] [(.ref b66), (.ref a0_)])) rfl rfl (hb hby d1_41)
  have F77 : Fld Z h76 a0_ sq0 "windows" "[Z" (.ref b66) := c73.same W76
  have K78 := K70.wr W76 (Or.inl mI0)
  have O79 := O71.wr W76 g_a0
  have N76 := Fr.snoc X76 N62 g_a0
  refine Go.st st76 ?_
  refine Go.st (t' := T76.setTop (mkF m 47 #[.val (.ref a0_), .val (.int 2)] [(.int 16), (.ref a0_)])) (fun target kt => ?_) ?_
  · refine XS.aloadN X76.here hx rfl (hb hby d1_44) rfl rfl ?_
    refine XS.bipush X76.here hx rfl (hb hby d1_45) ?_
    exact kt
  obtain ⟨T80, h80, k80, X80, e80, E80, A80, B80, st80⟩ := newPE (aty := .int) X76 hx hZ (hw _ tw0) e76 (g := (mkF m 47 #[.val (.ref a0_), .val (.int 2)] [(.int 16), (.ref a0_)])) rfl (hb hby d1_47) rfl (by decide) (cap := 16) (by decide) (by decide) (by decide) (by decide) (ad := "[I") (by decide)
  obtain ⟨b80, g80⟩ : ∃ z, z = h76.size := ⟨_, rfl⟩
  rw [← g80] at A80 B80 st80
  have lb81 : h76.size ≤ b80 := Nat.le_of_eq g80.symm
  have sz82 : h0.size ≤ b80 := Nat.le_trans K78.1 lb81
  have g83 : n0 ≤ b80 := Nat.le_trans Z0 sz82
  have K84 := K78.ext E80
  have O85 := O79.ext E80
  have V86 : Arv Z h80 b80 k80 .int (16 : Int32) [(.int 0), (.int 0), (.int 0), (.int 0)] (.int 0) := (Arv.new A80 (by decide)).pad (pad_rep [] (.int 0) 4)
  refine Go.st st80 ?_
  have c87 := ((((((((((F_heap.ext E11).other W20 (Or.inr (slot_ne (Or.inl (hw _ tw24)) (Or.inl (hw _ tw13)) (by decide) (t := (.array .int)) (t' := (.array .int)) (by decide) (by decide)))).ext E24).other W34 (Or.inr (slot_ne (Or.inl (hw _ tw24)) (Or.inl (hw _ tw15)) (by decide) (t := (.array .int)) (t' := (.array .int)) (by decide) (by decide)))).ext E38).other W48 (Or.inr (slot_ne (Or.inl (hw _ tw24)) (Or.inl (hw _ tw17)) (by decide) (t := (.array .int)) (t' := (.array .int)) (by decide) (by decide)))).ext E52).other W62 (Or.inr (slot_ne (Or.inl (hw _ tw24)) (Or.inl (hw _ tw19)) (by decide) (t := (.array .int)) (t' := (.array .double)) (by decide) (by decide)))).ext E66).other W76 (Or.inr (slot_ne (Or.inl (hw _ tw24)) (Or.inl (hw _ tw22)) (by decide) (t := (.array .int)) (t' := (.array .boolean)) (by decide) (by decide)))).ext E80
  have S_88 : Keep h66 h80 [a0_] := (((Keep.refl h66 [a0_]).wr W76 (Or.inl mI0)).ext E80)
  have c89 := c75.keep S_88
  obtain ⟨T90, h90, X90, e90, W90, st90⟩ := putF X80 hx hZ hown (host := "") (Or.inl (hw _ tw23)) Via.refl e80 c87 c89 (Or.inl (hw _ tw24)) (hw _ tw4) (ty := (.array .int)) (by decide) rfl rfl (g := (mkF m 49 #[.val (.ref a0_), .val (.int 2)] [(.ref b80), (.ref a0_)])) rfl rfl (hb hby d1_49)
  have F91 : Fld Z h90 a0_ sq0 "heap" "[I" (.ref b80) := c87.same W90
  have K92 := K84.wr W90 (Or.inl mI0)
  have O93 := O85.wr W90 g_a0
  have N90 := Fr.snoc X90 N76 g_a0
  refine Go.st st90 ?_
  refine Go.st (t' := T90.setTop (mkF m 55 #[.val (.ref a0_), .val (.int 2)] [(.int 16), (.ref a0_)])) (fun target kt => ?_) ?_
  · refine XS.aloadN X90.here hx rfl (hb hby d1_52) rfl rfl ?_
    refine XS.bipush X90.here hx rfl (hb hby d1_53) ?_
    exact kt
  obtain ⟨T94, h94, k94, X94, e94, E94, A94, B94, st94⟩ := newPE (aty := .double) X90 hx hZ (hw _ tw1) e90 (g := (mkF m 55 #[.val (.ref a0_), .val (.int 2)] [(.int 16), (.ref a0_)])) rfl (hb hby d1_55) rfl (by decide) (cap := 16) (by decide) (by decide) (by decide) (by decide) (ad := "[D") (by decide)
  obtain ⟨b94, g94⟩ : ∃ z, z = h90.size := ⟨_, rfl⟩
  rw [← g94] at A94 B94 st94
  have lb95 : h90.size ≤ b94 := Nat.le_of_eq g94.symm
  have sz96 : h0.size ≤ b94 := Nat.le_trans K92.1 lb95
  have g97 : n0 ≤ b94 := Nat.le_trans Z0 sz96
  have K98 := K92.ext E94
  have O99 := O93.ext E94
  have V100 : Arv Z h94 b94 k94 .double (16 : Int32) [(.double (FP.l2d 0)), (.double (FP.l2d 0)), (.double (FP.l2d 0)), (.double (FP.l2d 0))] (.double (FP.l2d 0)) := (Arv.newD A94 (by decide)).pad (pad_rep [] (.double (FP.l2d 0)) 4)
  refine Go.st st94 ?_
  have c101 := ((((((((((((F_heapBounds.ext E11).other W20 (Or.inr (slot_ne (Or.inl (hw _ tw26)) (Or.inl (hw _ tw13)) (by decide) (t := (.array .double)) (t' := (.array .int)) (by decide) (by decide)))).ext E24).other W34 (Or.inr (slot_ne (Or.inl (hw _ tw26)) (Or.inl (hw _ tw15)) (by decide) (t := (.array .double)) (t' := (.array .int)) (by decide) (by decide)))).ext E38).other W48 (Or.inr (slot_ne (Or.inl (hw _ tw26)) (Or.inl (hw _ tw17)) (by decide) (t := (.array .double)) (t' := (.array .int)) (by decide) (by decide)))).ext E52).other W62 (Or.inr (slot_ne (Or.inl (hw _ tw26)) (Or.inl (hw _ tw19)) (by decide) (t := (.array .double)) (t' := (.array .double)) (by decide) (by decide)))).ext E66).other W76 (Or.inr (slot_ne (Or.inl (hw _ tw26)) (Or.inl (hw _ tw22)) (by decide) (t := (.array .double)) (t' := (.array .boolean)) (by decide) (by decide)))).ext E80).other W90 (Or.inr (slot_ne (Or.inl (hw _ tw26)) (Or.inl (hw _ tw24)) (by decide) (t := (.array .double)) (t' := (.array .int)) (by decide) (by decide)))).ext E94
  have S_102 : Keep h80 h94 [a0_] := (((Keep.refl h80 [a0_]).wr W90 (Or.inl mI0)).ext E94)
  have c103 := c89.keep S_102
  obtain ⟨T104, h104, X104, e104, W104, st104⟩ := putF X94 hx hZ hown (host := "") (Or.inl (hw _ tw25)) Via.refl e94 c101 c103 (Or.inl (hw _ tw26)) (hw _ tw4) (ty := (.array .double)) (by decide) rfl rfl (g := (mkF m 57 #[.val (.ref a0_), .val (.int 2)] [(.ref b94), (.ref a0_)])) rfl rfl (hb hby d1_57)
  have F105 : Fld Z h104 a0_ sq0 "heapBounds" "[D" (.ref b94) := c101.same W104
  have K106 := K98.wr W104 (Or.inl mI0)
  have O107 := O99.wr W104 g_a0
  have N104 := Fr.snoc X104 N90 g_a0
  refine Go.st st104 ?_
  refine Go.st (t' := T104.setTop (mkF m 63 #[.val (.ref a0_), .val (.int 2)] [(.int 16), (.ref a0_)])) (fun target kt => ?_) ?_
  · refine XS.aloadN X104.here hx rfl (hb hby d1_60) rfl rfl ?_
    refine XS.bipush X104.here hx rfl (hb hby d1_61) ?_
    exact kt
  obtain ⟨T108, h108, k108, X108, e108, E108, A108, B108, st108⟩ := newPE (aty := .int) X104 hx hZ (hw _ tw0) e104 (g := (mkF m 63 #[.val (.ref a0_), .val (.int 2)] [(.int 16), (.ref a0_)])) rfl (hb hby d1_63) rfl (by decide) (cap := 16) (by decide) (by decide) (by decide) (by decide) (ad := "[I") (by decide)
  obtain ⟨b108, g108⟩ : ∃ z, z = h104.size := ⟨_, rfl⟩
  rw [← g108] at A108 B108 st108
  have lb109 : h104.size ≤ b108 := Nat.le_of_eq g108.symm
  have sz110 : h0.size ≤ b108 := Nat.le_trans K106.1 lb109
  have g111 : n0 ≤ b108 := Nat.le_trans Z0 sz110
  have K112 := K106.ext E108
  have O113 := O107.ext E108
  have V114 : Arv Z h108 b108 k108 .int (16 : Int32) [(.int 0), (.int 0), (.int 0), (.int 0)] (.int 0) := (Arv.new A108 (by decide)).pad (pad_rep [] (.int 0) 4)
  refine Go.st st108 ?_
  have c115 := ((((((((((((((F_heapStarts.ext E11).other W20 (Or.inr (slot_ne (Or.inl (hw _ tw28)) (Or.inl (hw _ tw13)) (by decide) (t := (.array .int)) (t' := (.array .int)) (by decide) (by decide)))).ext E24).other W34 (Or.inr (slot_ne (Or.inl (hw _ tw28)) (Or.inl (hw _ tw15)) (by decide) (t := (.array .int)) (t' := (.array .int)) (by decide) (by decide)))).ext E38).other W48 (Or.inr (slot_ne (Or.inl (hw _ tw28)) (Or.inl (hw _ tw17)) (by decide) (t := (.array .int)) (t' := (.array .int)) (by decide) (by decide)))).ext E52).other W62 (Or.inr (slot_ne (Or.inl (hw _ tw28)) (Or.inl (hw _ tw19)) (by decide) (t := (.array .int)) (t' := (.array .double)) (by decide) (by decide)))).ext E66).other W76 (Or.inr (slot_ne (Or.inl (hw _ tw28)) (Or.inl (hw _ tw22)) (by decide) (t := (.array .int)) (t' := (.array .boolean)) (by decide) (by decide)))).ext E80).other W90 (Or.inr (slot_ne (Or.inl (hw _ tw28)) (Or.inl (hw _ tw24)) (by decide) (t := (.array .int)) (t' := (.array .int)) (by decide) (by decide)))).ext E94).other W104 (Or.inr (slot_ne (Or.inl (hw _ tw28)) (Or.inl (hw _ tw26)) (by decide) (t := (.array .int)) (t' := (.array .double)) (by decide) (by decide)))).ext E108
  have S_116 : Keep h94 h108 [a0_] := (((Keep.refl h94 [a0_]).wr W104 (Or.inl mI0)).ext E108)
  have c117 := c103.keep S_116
  obtain ⟨T118, h118, X118, e118, W118, st118⟩ := putF X108 hx hZ hown (host := "") (Or.inl (hw _ tw27)) Via.refl e108 c115 c117 (Or.inl (hw _ tw28)) (hw _ tw4) (ty := (.array .int)) (by decide) rfl rfl (g := (mkF m 65 #[.val (.ref a0_), .val (.int 2)] [(.ref b108), (.ref a0_)])) rfl rfl (hb hby d1_65)
  have F119 : Fld Z h118 a0_ sq0 "heapStarts" "[I" (.ref b108) := c115.same W118
  have K120 := K112.wr W118 (Or.inl mI0)
  have O121 := O113.wr W118 g_a0
  have N118 := Fr.snoc X118 N104 g_a0
  refine Go.st st118 ?_
  refine Go.st (t' := T118.setTop (mkF m 70 #[.val (.ref a0_), .val (.int 2)] [(.int 2), (.ref a0_)])) (fun target kt => ?_) ?_
  · refine XS.aloadN X118.here hx rfl (hb hby d1_68) rfl rfl ?_
    refine XS.iloadN X118.here hx rfl (hb hby d1_69) rfl ?_
    exact kt
  have c122 := (((((((((((((((F_count.ext E11).other W20 (Or.inr (slot_ne (Or.inr (hw _ tw30)) (Or.inl (hw _ tw13)) (by decide) (t := .int) (t' := (.array .int)) (by decide) (by decide)))).ext E24).other W34 (Or.inr (slot_ne (Or.inr (hw _ tw30)) (Or.inl (hw _ tw15)) (by decide) (t := .int) (t' := (.array .int)) (by decide) (by decide)))).ext E38).other W48 (Or.inr (slot_ne (Or.inr (hw _ tw30)) (Or.inl (hw _ tw17)) (by decide) (t := .int) (t' := (.array .int)) (by decide) (by decide)))).ext E52).other W62 (Or.inr (slot_ne (Or.inr (hw _ tw30)) (Or.inl (hw _ tw19)) (by decide) (t := .int) (t' := (.array .double)) (by decide) (by decide)))).ext E66).other W76 (Or.inr (slot_ne (Or.inr (hw _ tw30)) (Or.inl (hw _ tw22)) (by decide) (t := .int) (t' := (.array .boolean)) (by decide) (by decide)))).ext E80).other W90 (Or.inr (slot_ne (Or.inr (hw _ tw30)) (Or.inl (hw _ tw24)) (by decide) (t := .int) (t' := (.array .int)) (by decide) (by decide)))).ext E94).other W104 (Or.inr (slot_ne (Or.inr (hw _ tw30)) (Or.inl (hw _ tw26)) (by decide) (t := .int) (t' := (.array .double)) (by decide) (by decide)))).ext E108).other W118 (Or.inr (slot_ne (Or.inr (hw _ tw30)) (Or.inl (hw _ tw28)) (by decide) (t := .int) (t' := (.array .int)) (by decide) (by decide)))
  have c123 := c117.wr W118
  obtain ⟨T124, h124, X124, e124, W124, st124⟩ := putF X118 hx hZ hown (host := "") (Or.inl (hw _ tw29)) Via.refl e118 c122 c123 (Or.inr ⟨(hw _ tw30), rfl, hnm⟩) (hw _ tw4) (ty := .int) (by decide) rfl rfl (g := (mkF m 70 #[.val (.ref a0_), .val (.int 2)] [(.int 2), (.ref a0_)])) rfl rfl (hb hby d1_70)
  have F125 : Fld Z h124 a0_ sq0 "count" "I" (.int 2) := c122.same W124
  have K126 := K120.wr W124 (Or.inl mI0)
  have O127 := O121.wr W124 g_a0
  have N124 := Fr.snoc X124 N118 g_a0
  refine Go.st st124 ?_
  refine Go.st (t' := T124.setTop (mkF m 78 #[.val (.ref a0_), .val (.int 2)] [(.int 32), (.ref a0_)])) (fun target kt => ?_) ?_
  · refine XS.aloadN X124.here hx rfl (hb hby d1_73) rfl rfl ?_
    refine XS.bipush X124.here hx rfl (hb hby d1_74) ?_
    refine XS.iloadN X124.here hx rfl (hb hby d1_76) rfl ?_
    refine XS.imul X124.here hx rfl (hb hby d1_77) rfl ?_
    exact kt
  obtain ⟨T128, h128, k128, X128, e128, E128, A128, B128, st128⟩ := newPE (aty := .int) X124 hx hZ (hw _ tw0) e124 (g := (mkF m 78 #[.val (.ref a0_), .val (.int 2)] [(.int 32), (.ref a0_)])) rfl (hb hby d1_78) rfl (by decide) (cap := 32) (by decide) (by decide) (by decide) (by decide) (ad := "[I") (by decide)
  obtain ⟨b128, g128⟩ : ∃ z, z = h124.size := ⟨_, rfl⟩
  rw [← g128] at A128 B128 st128
  have lb129 : h124.size ≤ b128 := Nat.le_of_eq g128.symm
  have sz130 : h0.size ≤ b128 := Nat.le_trans K126.1 lb129
  have g131 : n0 ≤ b128 := Nat.le_trans Z0 sz130
  have K132 := K126.ext E128
  have O133 := O127.ext E128
  have V134 : Arv Z h128 b128 k128 .int (32 : Int32) [(.int 0), (.int 0), (.int 0), (.int 0)] (.int 0) := (Arv.new A128 (by decide)).pad (pad_rep [] (.int 0) 4)
  refine Go.st st128 ?_
  have c135 := (((((((((((((((((F_entries.ext E11).other W20 (Or.inr (slot_ne (Or.inl (hw _ tw32)) (Or.inl (hw _ tw13)) (by decide) (t := (.array .int)) (t' := (.array .int)) (by decide) (by decide)))).ext E24).other W34 (Or.inr (slot_ne (Or.inl (hw _ tw32)) (Or.inl (hw _ tw15)) (by decide) (t := (.array .int)) (t' := (.array .int)) (by decide) (by decide)))).ext E38).other W48 (Or.inr (slot_ne (Or.inl (hw _ tw32)) (Or.inl (hw _ tw17)) (by decide) (t := (.array .int)) (t' := (.array .int)) (by decide) (by decide)))).ext E52).other W62 (Or.inr (slot_ne (Or.inl (hw _ tw32)) (Or.inl (hw _ tw19)) (by decide) (t := (.array .int)) (t' := (.array .double)) (by decide) (by decide)))).ext E66).other W76 (Or.inr (slot_ne (Or.inl (hw _ tw32)) (Or.inl (hw _ tw22)) (by decide) (t := (.array .int)) (t' := (.array .boolean)) (by decide) (by decide)))).ext E80).other W90 (Or.inr (slot_ne (Or.inl (hw _ tw32)) (Or.inl (hw _ tw24)) (by decide) (t := (.array .int)) (t' := (.array .int)) (by decide) (by decide)))).ext E94).other W104 (Or.inr (slot_ne (Or.inl (hw _ tw32)) (Or.inl (hw _ tw26)) (by decide) (t := (.array .int)) (t' := (.array .double)) (by decide) (by decide)))).ext E108).other W118 (Or.inr (slot_ne (Or.inl (hw _ tw32)) (Or.inl (hw _ tw28)) (by decide) (t := (.array .int)) (t' := (.array .int)) (by decide) (by decide)))).other W124 (Or.inr (slot_ne (Or.inl (hw _ tw32)) (Or.inr (hw _ tw30)) (by decide) (t := (.array .int)) (t' := .int) (by decide) (by decide)))).ext E128
  have S_136 : Keep h118 h128 [a0_] := (((Keep.refl h118 [a0_]).wr W124 (Or.inl mI0)).ext E128)
  have c137 := c123.keep S_136
  obtain ⟨T138, h138, X138, e138, W138, st138⟩ := putF X128 hx hZ hown (host := "") (Or.inl (hw _ tw31)) Via.refl e128 c135 c137 (Or.inl (hw _ tw32)) (hw _ tw4) (ty := (.array .int)) (by decide) rfl rfl (g := (mkF m 80 #[.val (.ref a0_), .val (.int 2)] [(.ref b128), (.ref a0_)])) rfl rfl (hb hby d1_80)
  have F139 : Fld Z h138 a0_ sq0 "entries" "[I" (.ref b128) := c135.same W138
  have K140 := K132.wr W138 (Or.inl mI0)
  have O141 := O133.wr W138 g_a0
  have N138 := Fr.snoc X138 N124 g_a0
  refine Go.st st138 ?_
  refine Go.st (t' := T138.setTop (mkF m 88 #[.val (.ref a0_), .val (.int 2)] [(.int 32), (.ref a0_)])) (fun target kt => ?_) ?_
  · refine XS.aloadN X138.here hx rfl (hb hby d1_83) rfl rfl ?_
    refine XS.bipush X138.here hx rfl (hb hby d1_84) ?_
    refine XS.iloadN X138.here hx rfl (hb hby d1_86) rfl ?_
    refine XS.imul X138.here hx rfl (hb hby d1_87) rfl ?_
    exact kt
  obtain ⟨T142, h142, k142, X142, e142, E142, A142, B142, st142⟩ := newPE (aty := .int) X138 hx hZ (hw _ tw0) e138 (g := (mkF m 88 #[.val (.ref a0_), .val (.int 2)] [(.int 32), (.ref a0_)])) rfl (hb hby d1_88) rfl (by decide) (cap := 32) (by decide) (by decide) (by decide) (by decide) (ad := "[I") (by decide)
  obtain ⟨b142, g142⟩ : ∃ z, z = h138.size := ⟨_, rfl⟩
  rw [← g142] at A142 B142 st142
  have lb143 : h138.size ≤ b142 := Nat.le_of_eq g142.symm
  have sz144 : h0.size ≤ b142 := Nat.le_trans K140.1 lb143
  have g145 : n0 ≤ b142 := Nat.le_trans Z0 sz144
  have K146 := K140.ext E142
  have O147 := O141.ext E142
  have V148 : Arv Z h142 b142 k142 .int (32 : Int32) [(.int 0), (.int 0), (.int 0), (.int 0)] (.int 0) := (Arv.new A142 (by decide)).pad (pad_rep [] (.int 0) 4)
  refine Go.st st142 ?_
  have c149 := (((((((((((((((((((F_blocks.ext E11).other W20 (Or.inr (slot_ne (Or.inl (hw _ tw34)) (Or.inl (hw _ tw13)) (by decide) (t := (.array .int)) (t' := (.array .int)) (by decide) (by decide)))).ext E24).other W34 (Or.inr (slot_ne (Or.inl (hw _ tw34)) (Or.inl (hw _ tw15)) (by decide) (t := (.array .int)) (t' := (.array .int)) (by decide) (by decide)))).ext E38).other W48 (Or.inr (slot_ne (Or.inl (hw _ tw34)) (Or.inl (hw _ tw17)) (by decide) (t := (.array .int)) (t' := (.array .int)) (by decide) (by decide)))).ext E52).other W62 (Or.inr (slot_ne (Or.inl (hw _ tw34)) (Or.inl (hw _ tw19)) (by decide) (t := (.array .int)) (t' := (.array .double)) (by decide) (by decide)))).ext E66).other W76 (Or.inr (slot_ne (Or.inl (hw _ tw34)) (Or.inl (hw _ tw22)) (by decide) (t := (.array .int)) (t' := (.array .boolean)) (by decide) (by decide)))).ext E80).other W90 (Or.inr (slot_ne (Or.inl (hw _ tw34)) (Or.inl (hw _ tw24)) (by decide) (t := (.array .int)) (t' := (.array .int)) (by decide) (by decide)))).ext E94).other W104 (Or.inr (slot_ne (Or.inl (hw _ tw34)) (Or.inl (hw _ tw26)) (by decide) (t := (.array .int)) (t' := (.array .double)) (by decide) (by decide)))).ext E108).other W118 (Or.inr (slot_ne (Or.inl (hw _ tw34)) (Or.inl (hw _ tw28)) (by decide) (t := (.array .int)) (t' := (.array .int)) (by decide) (by decide)))).other W124 (Or.inr (slot_ne (Or.inl (hw _ tw34)) (Or.inr (hw _ tw30)) (by decide) (t := (.array .int)) (t' := .int) (by decide) (by decide)))).ext E128).other W138 (Or.inr (slot_ne (Or.inl (hw _ tw34)) (Or.inl (hw _ tw32)) (by decide) (t := (.array .int)) (t' := (.array .int)) (by decide) (by decide)))).ext E142
  have S_150 : Keep h128 h142 [a0_] := (((Keep.refl h128 [a0_]).wr W138 (Or.inl mI0)).ext E142)
  have c151 := c137.keep S_150
  obtain ⟨T152, h152, X152, e152, W152, st152⟩ := putF X142 hx hZ hown (host := "") (Or.inl (hw _ tw33)) Via.refl e142 c149 c151 (Or.inl (hw _ tw34)) (hw _ tw4) (ty := (.array .int)) (by decide) rfl rfl (g := (mkF m 90 #[.val (.ref a0_), .val (.int 2)] [(.ref b142), (.ref a0_)])) rfl rfl (hb hby d1_90)
  have F153 : Fld Z h152 a0_ sq0 "blocks" "[I" (.ref b142) := c149.same W152
  have K154 := K146.wr W152 (Or.inl mI0)
  have O155 := O147.wr W152 g_a0
  have N152 := Fr.snoc X152 N138 g_a0
  refine Go.st st152 ?_
  refine Go.st (t' := T152.setTop (mkF m 98 #[.val (.ref a0_), .val (.int 2)] [(.int 32), (.ref a0_)])) (fun target kt => ?_) ?_
  · refine XS.aloadN X152.here hx rfl (hb hby d1_93) rfl rfl ?_
    refine XS.bipush X152.here hx rfl (hb hby d1_94) ?_
    refine XS.iloadN X152.here hx rfl (hb hby d1_96) rfl ?_
    refine XS.imul X152.here hx rfl (hb hby d1_97) rfl ?_
    exact kt
  obtain ⟨T156, h156, k156, X156, e156, E156, A156, B156, st156⟩ := newPE (aty := .double) X152 hx hZ (hw _ tw1) e152 (g := (mkF m 98 #[.val (.ref a0_), .val (.int 2)] [(.int 32), (.ref a0_)])) rfl (hb hby d1_98) rfl (by decide) (cap := 32) (by decide) (by decide) (by decide) (by decide) (ad := "[D") (by decide)
  obtain ⟨b156, g156⟩ : ∃ z, z = h152.size := ⟨_, rfl⟩
  rw [← g156] at A156 B156 st156
  have lb157 : h152.size ≤ b156 := Nat.le_of_eq g156.symm
  have sz158 : h0.size ≤ b156 := Nat.le_trans K154.1 lb157
  have g159 : n0 ≤ b156 := Nat.le_trans Z0 sz158
  have K160 := K154.ext E156
  have O161 := O155.ext E156
  have V162 : Arv Z h156 b156 k156 .double (32 : Int32) [(.double (FP.l2d 0)), (.double (FP.l2d 0)), (.double (FP.l2d 0)), (.double (FP.l2d 0))] (.double (FP.l2d 0)) := (Arv.newD A156 (by decide)).pad (pad_rep [] (.double (FP.l2d 0)) 4)
  refine Go.st st156 ?_
  have c163 := (((((((((((((((((((((F_parts.ext E11).other W20 (Or.inr (slot_ne (Or.inl (hw _ tw36)) (Or.inl (hw _ tw13)) (by decide) (t := (.array .double)) (t' := (.array .int)) (by decide) (by decide)))).ext E24).other W34 (Or.inr (slot_ne (Or.inl (hw _ tw36)) (Or.inl (hw _ tw15)) (by decide) (t := (.array .double)) (t' := (.array .int)) (by decide) (by decide)))).ext E38).other W48 (Or.inr (slot_ne (Or.inl (hw _ tw36)) (Or.inl (hw _ tw17)) (by decide) (t := (.array .double)) (t' := (.array .int)) (by decide) (by decide)))).ext E52).other W62 (Or.inr (slot_ne (Or.inl (hw _ tw36)) (Or.inl (hw _ tw19)) (by decide) (t := (.array .double)) (t' := (.array .double)) (by decide) (by decide)))).ext E66).other W76 (Or.inr (slot_ne (Or.inl (hw _ tw36)) (Or.inl (hw _ tw22)) (by decide) (t := (.array .double)) (t' := (.array .boolean)) (by decide) (by decide)))).ext E80).other W90 (Or.inr (slot_ne (Or.inl (hw _ tw36)) (Or.inl (hw _ tw24)) (by decide) (t := (.array .double)) (t' := (.array .int)) (by decide) (by decide)))).ext E94).other W104 (Or.inr (slot_ne (Or.inl (hw _ tw36)) (Or.inl (hw _ tw26)) (by decide) (t := (.array .double)) (t' := (.array .double)) (by decide) (by decide)))).ext E108).other W118 (Or.inr (slot_ne (Or.inl (hw _ tw36)) (Or.inl (hw _ tw28)) (by decide) (t := (.array .double)) (t' := (.array .int)) (by decide) (by decide)))).other W124 (Or.inr (slot_ne (Or.inl (hw _ tw36)) (Or.inr (hw _ tw30)) (by decide) (t := (.array .double)) (t' := .int) (by decide) (by decide)))).ext E128).other W138 (Or.inr (slot_ne (Or.inl (hw _ tw36)) (Or.inl (hw _ tw32)) (by decide) (t := (.array .double)) (t' := (.array .int)) (by decide) (by decide)))).ext E142).other W152 (Or.inr (slot_ne (Or.inl (hw _ tw36)) (Or.inl (hw _ tw34)) (by decide) (t := (.array .double)) (t' := (.array .int)) (by decide) (by decide)))).ext E156
  have S_164 : Keep h142 h156 [a0_] := (((Keep.refl h142 [a0_]).wr W152 (Or.inl mI0)).ext E156)
  have c165 := c151.keep S_164
  obtain ⟨T166, h166, X166, e166, W166, st166⟩ := putF X156 hx hZ hown (host := "") (Or.inl (hw _ tw35)) Via.refl e156 c163 c165 (Or.inl (hw _ tw36)) (hw _ tw4) (ty := (.array .double)) (by decide) rfl rfl (g := (mkF m 100 #[.val (.ref a0_), .val (.int 2)] [(.ref b156), (.ref a0_)])) rfl rfl (hb hby d1_100)
  have F167 : Fld Z h166 a0_ sq0 "parts" "[D" (.ref b156) := c163.same W166
  have K168 := K160.wr W166 (Or.inl mI0)
  have O169 := O161.wr W166 g_a0
  have N166 := Fr.snoc X166 N152 g_a0
  refine Go.st st166 ?_
  have o170 : b11 < b24 := Nat.lt_of_lt_of_le V17.lt (Nat.le_trans (Keep.of_wr W20).1 lb25)
  have o171 : b24 < b38 := Nat.lt_of_lt_of_le V30.lt (Nat.le_trans (Keep.of_wr W34).1 lb39)
  have o172 : b38 < b52 := Nat.lt_of_lt_of_le V44.lt (Nat.le_trans (Keep.of_wr W48).1 lb53)
  have o173 : b52 < b66 := Nat.lt_of_lt_of_le V58.lt (Nat.le_trans (Keep.of_wr W62).1 lb67)
  have o174 : b66 < b80 := Nat.lt_of_lt_of_le V72.lt (Nat.le_trans (Keep.of_wr W76).1 lb81)
  have o175 : b80 < b94 := Nat.lt_of_lt_of_le V86.lt (Nat.le_trans (Keep.of_wr W90).1 lb95)
  have o176 : b94 < b108 := Nat.lt_of_lt_of_le V100.lt (Nat.le_trans (Keep.of_wr W104).1 lb109)
  have o177 : b108 < b128 := Nat.lt_of_lt_of_le V114.lt (Nat.le_trans (Nat.le_trans (Keep.of_wr W118).1 (Keep.of_wr W124).1) lb129)
  have o178 : b128 < b142 := Nat.lt_of_lt_of_le V134.lt (Nat.le_trans (Keep.of_wr W138).1 lb143)
  have o179 : b142 < b156 := Nat.lt_of_lt_of_le V148.lt (Nat.le_trans (Keep.of_wr W152).1 lb157)
  have c180 := c165.wr W166
  have S_181 : Keep h124 h166 [a0_] := (((((((Keep.refl h124 [a0_]).ext E128).wr W138 (Or.inl mI0)).ext E142).wr W152 (Or.inl mI0)).ext E156).wr W166 (Or.inl mI0))
  have c182 := (((((F125.ext E128).other W138 (Or.inr (slot_ne (Or.inr (hw _ tw30)) (Or.inl (hw _ tw32)) (by decide) (t := .int) (t' := (.array .int)) (by decide) (by decide)))).ext E142).other W152 (Or.inr (slot_ne (Or.inr (hw _ tw30)) (Or.inl (hw _ tw34)) (by decide) (t := .int) (t' := (.array .int)) (by decide) (by decide)))).ext E156).other W166 (Or.inr (slot_ne (Or.inr (hw _ tw30)) (Or.inl (hw _ tw36)) (by decide) (t := .int) (t' := (.array .double)) (by decide) (by decide)))
  have c183 := ((((((((((((((((((((((F_added.ext E11).other W20 (Or.inr (slot_ne (Or.inl (hw _ tw43)) (Or.inl (hw _ tw13)) (by decide) (t := .int) (t' := (.array .int)) (by decide) (by decide)))).ext E24).other W34 (Or.inr (slot_ne (Or.inl (hw _ tw43)) (Or.inl (hw _ tw15)) (by decide) (t := .int) (t' := (.array .int)) (by decide) (by decide)))).ext E38).other W48 (Or.inr (slot_ne (Or.inl (hw _ tw43)) (Or.inl (hw _ tw17)) (by decide) (t := .int) (t' := (.array .int)) (by decide) (by decide)))).ext E52).other W62 (Or.inr (slot_ne (Or.inl (hw _ tw43)) (Or.inl (hw _ tw19)) (by decide) (t := .int) (t' := (.array .double)) (by decide) (by decide)))).ext E66).other W76 (Or.inr (slot_ne (Or.inl (hw _ tw43)) (Or.inl (hw _ tw22)) (by decide) (t := .int) (t' := (.array .boolean)) (by decide) (by decide)))).ext E80).other W90 (Or.inr (slot_ne (Or.inl (hw _ tw43)) (Or.inl (hw _ tw24)) (by decide) (t := .int) (t' := (.array .int)) (by decide) (by decide)))).ext E94).other W104 (Or.inr (slot_ne (Or.inl (hw _ tw43)) (Or.inl (hw _ tw26)) (by decide) (t := .int) (t' := (.array .double)) (by decide) (by decide)))).ext E108).other W118 (Or.inr (slot_ne (Or.inl (hw _ tw43)) (Or.inl (hw _ tw28)) (by decide) (t := .int) (t' := (.array .int)) (by decide) (by decide)))).other W124 (Or.inr (slot_ne (Or.inl (hw _ tw43)) (Or.inr (hw _ tw30)) (by decide) (t := .int) (t' := .int) (by decide) (by decide)))).ext E128).other W138 (Or.inr (slot_ne (Or.inl (hw _ tw43)) (Or.inl (hw _ tw32)) (by decide) (t := .int) (t' := (.array .int)) (by decide) (by decide)))).ext E142).other W152 (Or.inr (slot_ne (Or.inl (hw _ tw43)) (Or.inl (hw _ tw34)) (by decide) (t := .int) (t' := (.array .int)) (by decide) (by decide)))).ext E156).other W166 (Or.inr (slot_ne (Or.inl (hw _ tw43)) (Or.inl (hw _ tw36)) (by decide) (t := .int) (t' := (.array .double)) (by decide) (by decide)))
  have c184 := ((((((((((((((((((((((F_size.ext E11).other W20 (Or.inr (slot_ne (Or.inl (hw _ tw49)) (Or.inl (hw _ tw13)) (by decide) (t := .int) (t' := (.array .int)) (by decide) (by decide)))).ext E24).other W34 (Or.inr (slot_ne (Or.inl (hw _ tw49)) (Or.inl (hw _ tw15)) (by decide) (t := .int) (t' := (.array .int)) (by decide) (by decide)))).ext E38).other W48 (Or.inr (slot_ne (Or.inl (hw _ tw49)) (Or.inl (hw _ tw17)) (by decide) (t := .int) (t' := (.array .int)) (by decide) (by decide)))).ext E52).other W62 (Or.inr (slot_ne (Or.inl (hw _ tw49)) (Or.inl (hw _ tw19)) (by decide) (t := .int) (t' := (.array .double)) (by decide) (by decide)))).ext E66).other W76 (Or.inr (slot_ne (Or.inl (hw _ tw49)) (Or.inl (hw _ tw22)) (by decide) (t := .int) (t' := (.array .boolean)) (by decide) (by decide)))).ext E80).other W90 (Or.inr (slot_ne (Or.inl (hw _ tw49)) (Or.inl (hw _ tw24)) (by decide) (t := .int) (t' := (.array .int)) (by decide) (by decide)))).ext E94).other W104 (Or.inr (slot_ne (Or.inl (hw _ tw49)) (Or.inl (hw _ tw26)) (by decide) (t := .int) (t' := (.array .double)) (by decide) (by decide)))).ext E108).other W118 (Or.inr (slot_ne (Or.inl (hw _ tw49)) (Or.inl (hw _ tw28)) (by decide) (t := .int) (t' := (.array .int)) (by decide) (by decide)))).other W124 (Or.inr (slot_ne (Or.inl (hw _ tw49)) (Or.inr (hw _ tw30)) (by decide) (t := .int) (t' := .int) (by decide) (by decide)))).ext E128).other W138 (Or.inr (slot_ne (Or.inl (hw _ tw49)) (Or.inl (hw _ tw32)) (by decide) (t := .int) (t' := (.array .int)) (by decide) (by decide)))).ext E142).other W152 (Or.inr (slot_ne (Or.inl (hw _ tw49)) (Or.inl (hw _ tw34)) (by decide) (t := .int) (t' := (.array .int)) (by decide) (by decide)))).ext E156).other W166 (Or.inr (slot_ne (Or.inl (hw _ tw49)) (Or.inl (hw _ tw36)) (by decide) (t := .int) (t' := (.array .double)) (by decide) (by decide)))
  have S_185 := (((((((((((((((Keep.refl h20 [a0_]).ext E24).wr W34 (Or.inl mI0)).ext E38).wr W48 (Or.inl mI0)).ext E52).wr W62 (Or.inl mI0)).ext E66).wr W76 (Or.inl mI0)).ext E80).wr W90 (Or.inl mI0)).ext E94).wr W104 (Or.inl mI0)).ext E108).wr W118 (Or.inl mI0)).wr W124 (Or.inl mI0)
  have S_186 : Keep h20 h166 [a0_] := (S_185.trans S_181 (allS (Or.inl mI0) all0))
  have c187 := ((((((((((((((((((((F21.ext E24).other W34 (Or.inr (slot_ne (Or.inl (hw _ tw13)) (Or.inl (hw _ tw15)) (by decide) (t := (.array .int)) (t' := (.array .int)) (by decide) (by decide)))).ext E38).other W48 (Or.inr (slot_ne (Or.inl (hw _ tw13)) (Or.inl (hw _ tw17)) (by decide) (t := (.array .int)) (t' := (.array .int)) (by decide) (by decide)))).ext E52).other W62 (Or.inr (slot_ne (Or.inl (hw _ tw13)) (Or.inl (hw _ tw19)) (by decide) (t := (.array .int)) (t' := (.array .double)) (by decide) (by decide)))).ext E66).other W76 (Or.inr (slot_ne (Or.inl (hw _ tw13)) (Or.inl (hw _ tw22)) (by decide) (t := (.array .int)) (t' := (.array .boolean)) (by decide) (by decide)))).ext E80).other W90 (Or.inr (slot_ne (Or.inl (hw _ tw13)) (Or.inl (hw _ tw24)) (by decide) (t := (.array .int)) (t' := (.array .int)) (by decide) (by decide)))).ext E94).other W104 (Or.inr (slot_ne (Or.inl (hw _ tw13)) (Or.inl (hw _ tw26)) (by decide) (t := (.array .int)) (t' := (.array .double)) (by decide) (by decide)))).ext E108).other W118 (Or.inr (slot_ne (Or.inl (hw _ tw13)) (Or.inl (hw _ tw28)) (by decide) (t := (.array .int)) (t' := (.array .int)) (by decide) (by decide)))).other W124 (Or.inr (slot_ne (Or.inl (hw _ tw13)) (Or.inr (hw _ tw30)) (by decide) (t := (.array .int)) (t' := .int) (by decide) (by decide)))).ext E128).other W138 (Or.inr (slot_ne (Or.inl (hw _ tw13)) (Or.inl (hw _ tw32)) (by decide) (t := (.array .int)) (t' := (.array .int)) (by decide) (by decide)))).ext E142).other W152 (Or.inr (slot_ne (Or.inl (hw _ tw13)) (Or.inl (hw _ tw34)) (by decide) (t := (.array .int)) (t' := (.array .int)) (by decide) (by decide)))).ext E156).other W166 (Or.inr (slot_ne (Or.inl (hw _ tw13)) (Or.inl (hw _ tw36)) (by decide) (t := (.array .int)) (t' := (.array .double)) (by decide) (by decide)))
  have S_188 := (Keep.refl h11 [a0_]).wr W20 (Or.inl mI0)
  have S_189 : Keep h11 h166 [a0_] := (S_188.trans S_186 (allS (Or.inl mI0) all0))
  have o190 : a0_ < b11 := Nat.lt_of_lt_of_le E0.lt lb12
  have ne191 : a0_ ≠ b11 := Nat.ne_of_lt o190
  have c192 := V17.keep S_189 (ninS (Ne.symm ne191) nin0)
  have S_193 := (((((((((((((Keep.refl h34 [a0_]).ext E38).wr W48 (Or.inl mI0)).ext E52).wr W62 (Or.inl mI0)).ext E66).wr W76 (Or.inl mI0)).ext E80).wr W90 (Or.inl mI0)).ext E94).wr W104 (Or.inl mI0)).ext E108).wr W118 (Or.inl mI0)).wr W124 (Or.inl mI0)
  have S_194 : Keep h34 h166 [a0_] := (S_193.trans S_181 (allS (Or.inl mI0) all0))
  have c195 := ((((((((((((((((((F35.ext E38).other W48 (Or.inr (slot_ne (Or.inl (hw _ tw15)) (Or.inl (hw _ tw17)) (by decide) (t := (.array .int)) (t' := (.array .int)) (by decide) (by decide)))).ext E52).other W62 (Or.inr (slot_ne (Or.inl (hw _ tw15)) (Or.inl (hw _ tw19)) (by decide) (t := (.array .int)) (t' := (.array .double)) (by decide) (by decide)))).ext E66).other W76 (Or.inr (slot_ne (Or.inl (hw _ tw15)) (Or.inl (hw _ tw22)) (by decide) (t := (.array .int)) (t' := (.array .boolean)) (by decide) (by decide)))).ext E80).other W90 (Or.inr (slot_ne (Or.inl (hw _ tw15)) (Or.inl (hw _ tw24)) (by decide) (t := (.array .int)) (t' := (.array .int)) (by decide) (by decide)))).ext E94).other W104 (Or.inr (slot_ne (Or.inl (hw _ tw15)) (Or.inl (hw _ tw26)) (by decide) (t := (.array .int)) (t' := (.array .double)) (by decide) (by decide)))).ext E108).other W118 (Or.inr (slot_ne (Or.inl (hw _ tw15)) (Or.inl (hw _ tw28)) (by decide) (t := (.array .int)) (t' := (.array .int)) (by decide) (by decide)))).other W124 (Or.inr (slot_ne (Or.inl (hw _ tw15)) (Or.inr (hw _ tw30)) (by decide) (t := (.array .int)) (t' := .int) (by decide) (by decide)))).ext E128).other W138 (Or.inr (slot_ne (Or.inl (hw _ tw15)) (Or.inl (hw _ tw32)) (by decide) (t := (.array .int)) (t' := (.array .int)) (by decide) (by decide)))).ext E142).other W152 (Or.inr (slot_ne (Or.inl (hw _ tw15)) (Or.inl (hw _ tw34)) (by decide) (t := (.array .int)) (t' := (.array .int)) (by decide) (by decide)))).ext E156).other W166 (Or.inr (slot_ne (Or.inl (hw _ tw15)) (Or.inl (hw _ tw36)) (by decide) (t := (.array .int)) (t' := (.array .double)) (by decide) (by decide)))
  have S_196 := (Keep.refl h24 [a0_]).wr W34 (Or.inl mI0)
  have S_197 : Keep h24 h166 [a0_] := (S_196.trans S_194 (allS (Or.inl mI0) all0))
  have o198 : a0_ < b24 := Nat.lt_trans o190 o170
  have ne199 : a0_ ≠ b24 := Nat.ne_of_lt o198
  have c200 := V30.keep S_197 (ninS (Ne.symm ne199) nin0)
  have S_201 := (((((((((((Keep.refl h48 [a0_]).ext E52).wr W62 (Or.inl mI0)).ext E66).wr W76 (Or.inl mI0)).ext E80).wr W90 (Or.inl mI0)).ext E94).wr W104 (Or.inl mI0)).ext E108).wr W118 (Or.inl mI0)).wr W124 (Or.inl mI0)
  have S_202 : Keep h48 h166 [a0_] := (S_201.trans S_181 (allS (Or.inl mI0) all0))
  have c203 := ((((((((((((((((F49.ext E52).other W62 (Or.inr (slot_ne (Or.inl (hw _ tw17)) (Or.inl (hw _ tw19)) (by decide) (t := (.array .int)) (t' := (.array .double)) (by decide) (by decide)))).ext E66).other W76 (Or.inr (slot_ne (Or.inl (hw _ tw17)) (Or.inl (hw _ tw22)) (by decide) (t := (.array .int)) (t' := (.array .boolean)) (by decide) (by decide)))).ext E80).other W90 (Or.inr (slot_ne (Or.inl (hw _ tw17)) (Or.inl (hw _ tw24)) (by decide) (t := (.array .int)) (t' := (.array .int)) (by decide) (by decide)))).ext E94).other W104 (Or.inr (slot_ne (Or.inl (hw _ tw17)) (Or.inl (hw _ tw26)) (by decide) (t := (.array .int)) (t' := (.array .double)) (by decide) (by decide)))).ext E108).other W118 (Or.inr (slot_ne (Or.inl (hw _ tw17)) (Or.inl (hw _ tw28)) (by decide) (t := (.array .int)) (t' := (.array .int)) (by decide) (by decide)))).other W124 (Or.inr (slot_ne (Or.inl (hw _ tw17)) (Or.inr (hw _ tw30)) (by decide) (t := (.array .int)) (t' := .int) (by decide) (by decide)))).ext E128).other W138 (Or.inr (slot_ne (Or.inl (hw _ tw17)) (Or.inl (hw _ tw32)) (by decide) (t := (.array .int)) (t' := (.array .int)) (by decide) (by decide)))).ext E142).other W152 (Or.inr (slot_ne (Or.inl (hw _ tw17)) (Or.inl (hw _ tw34)) (by decide) (t := (.array .int)) (t' := (.array .int)) (by decide) (by decide)))).ext E156).other W166 (Or.inr (slot_ne (Or.inl (hw _ tw17)) (Or.inl (hw _ tw36)) (by decide) (t := (.array .int)) (t' := (.array .double)) (by decide) (by decide)))
  have S_204 := (Keep.refl h38 [a0_]).wr W48 (Or.inl mI0)
  have S_205 : Keep h38 h166 [a0_] := (S_204.trans S_202 (allS (Or.inl mI0) all0))
  have o206 : a0_ < b38 := Nat.lt_trans o198 o171
  have ne207 : a0_ ≠ b38 := Nat.ne_of_lt o206
  have c208 := V44.keep S_205 (ninS (Ne.symm ne207) nin0)
  have S_209 := (((((((((Keep.refl h62 [a0_]).ext E66).wr W76 (Or.inl mI0)).ext E80).wr W90 (Or.inl mI0)).ext E94).wr W104 (Or.inl mI0)).ext E108).wr W118 (Or.inl mI0)).wr W124 (Or.inl mI0)
  have S_210 : Keep h62 h166 [a0_] := (S_209.trans S_181 (allS (Or.inl mI0) all0))
  have c211 := ((((((((((((((F63.ext E66).other W76 (Or.inr (slot_ne (Or.inl (hw _ tw19)) (Or.inl (hw _ tw22)) (by decide) (t := (.array .double)) (t' := (.array .boolean)) (by decide) (by decide)))).ext E80).other W90 (Or.inr (slot_ne (Or.inl (hw _ tw19)) (Or.inl (hw _ tw24)) (by decide) (t := (.array .double)) (t' := (.array .int)) (by decide) (by decide)))).ext E94).other W104 (Or.inr (slot_ne (Or.inl (hw _ tw19)) (Or.inl (hw _ tw26)) (by decide) (t := (.array .double)) (t' := (.array .double)) (by decide) (by decide)))).ext E108).other W118 (Or.inr (slot_ne (Or.inl (hw _ tw19)) (Or.inl (hw _ tw28)) (by decide) (t := (.array .double)) (t' := (.array .int)) (by decide) (by decide)))).other W124 (Or.inr (slot_ne (Or.inl (hw _ tw19)) (Or.inr (hw _ tw30)) (by decide) (t := (.array .double)) (t' := .int) (by decide) (by decide)))).ext E128).other W138 (Or.inr (slot_ne (Or.inl (hw _ tw19)) (Or.inl (hw _ tw32)) (by decide) (t := (.array .double)) (t' := (.array .int)) (by decide) (by decide)))).ext E142).other W152 (Or.inr (slot_ne (Or.inl (hw _ tw19)) (Or.inl (hw _ tw34)) (by decide) (t := (.array .double)) (t' := (.array .int)) (by decide) (by decide)))).ext E156).other W166 (Or.inr (slot_ne (Or.inl (hw _ tw19)) (Or.inl (hw _ tw36)) (by decide) (t := (.array .double)) (t' := (.array .double)) (by decide) (by decide)))
  have S_212 := (Keep.refl h52 [a0_]).wr W62 (Or.inl mI0)
  have S_213 : Keep h52 h166 [a0_] := (S_212.trans S_210 (allS (Or.inl mI0) all0))
  have o214 : a0_ < b52 := Nat.lt_trans o206 o172
  have ne215 : a0_ ≠ b52 := Nat.ne_of_lt o214
  have c216 := V58.keep S_213 (ninS (Ne.symm ne215) nin0)
  have S_217 := (((((((Keep.refl h76 [a0_]).ext E80).wr W90 (Or.inl mI0)).ext E94).wr W104 (Or.inl mI0)).ext E108).wr W118 (Or.inl mI0)).wr W124 (Or.inl mI0)
  have S_218 : Keep h76 h166 [a0_] := (S_217.trans S_181 (allS (Or.inl mI0) all0))
  have c219 := ((((((((((((F77.ext E80).other W90 (Or.inr (slot_ne (Or.inl (hw _ tw22)) (Or.inl (hw _ tw24)) (by decide) (t := (.array .boolean)) (t' := (.array .int)) (by decide) (by decide)))).ext E94).other W104 (Or.inr (slot_ne (Or.inl (hw _ tw22)) (Or.inl (hw _ tw26)) (by decide) (t := (.array .boolean)) (t' := (.array .double)) (by decide) (by decide)))).ext E108).other W118 (Or.inr (slot_ne (Or.inl (hw _ tw22)) (Or.inl (hw _ tw28)) (by decide) (t := (.array .boolean)) (t' := (.array .int)) (by decide) (by decide)))).other W124 (Or.inr (slot_ne (Or.inl (hw _ tw22)) (Or.inr (hw _ tw30)) (by decide) (t := (.array .boolean)) (t' := .int) (by decide) (by decide)))).ext E128).other W138 (Or.inr (slot_ne (Or.inl (hw _ tw22)) (Or.inl (hw _ tw32)) (by decide) (t := (.array .boolean)) (t' := (.array .int)) (by decide) (by decide)))).ext E142).other W152 (Or.inr (slot_ne (Or.inl (hw _ tw22)) (Or.inl (hw _ tw34)) (by decide) (t := (.array .boolean)) (t' := (.array .int)) (by decide) (by decide)))).ext E156).other W166 (Or.inr (slot_ne (Or.inl (hw _ tw22)) (Or.inl (hw _ tw36)) (by decide) (t := (.array .boolean)) (t' := (.array .double)) (by decide) (by decide)))
  have S_220 := (Keep.refl h66 [a0_]).wr W76 (Or.inl mI0)
  have S_221 : Keep h66 h166 [a0_] := (S_220.trans S_218 (allS (Or.inl mI0) all0))
  have o222 : a0_ < b66 := Nat.lt_trans o214 o173
  have ne223 : a0_ ≠ b66 := Nat.ne_of_lt o222
  have c224 := V72.keep S_221 (ninS (Ne.symm ne223) nin0)
  have S_225 := (((((Keep.refl h90 [a0_]).ext E94).wr W104 (Or.inl mI0)).ext E108).wr W118 (Or.inl mI0)).wr W124 (Or.inl mI0)
  have S_226 : Keep h90 h166 [a0_] := (S_225.trans S_181 (allS (Or.inl mI0) all0))
  have c227 := ((((((((((F91.ext E94).other W104 (Or.inr (slot_ne (Or.inl (hw _ tw24)) (Or.inl (hw _ tw26)) (by decide) (t := (.array .int)) (t' := (.array .double)) (by decide) (by decide)))).ext E108).other W118 (Or.inr (slot_ne (Or.inl (hw _ tw24)) (Or.inl (hw _ tw28)) (by decide) (t := (.array .int)) (t' := (.array .int)) (by decide) (by decide)))).other W124 (Or.inr (slot_ne (Or.inl (hw _ tw24)) (Or.inr (hw _ tw30)) (by decide) (t := (.array .int)) (t' := .int) (by decide) (by decide)))).ext E128).other W138 (Or.inr (slot_ne (Or.inl (hw _ tw24)) (Or.inl (hw _ tw32)) (by decide) (t := (.array .int)) (t' := (.array .int)) (by decide) (by decide)))).ext E142).other W152 (Or.inr (slot_ne (Or.inl (hw _ tw24)) (Or.inl (hw _ tw34)) (by decide) (t := (.array .int)) (t' := (.array .int)) (by decide) (by decide)))).ext E156).other W166 (Or.inr (slot_ne (Or.inl (hw _ tw24)) (Or.inl (hw _ tw36)) (by decide) (t := (.array .int)) (t' := (.array .double)) (by decide) (by decide)))
  have S_228 := (Keep.refl h80 [a0_]).wr W90 (Or.inl mI0)
  have S_229 : Keep h80 h166 [a0_] := (S_228.trans S_226 (allS (Or.inl mI0) all0))
  have o230 : a0_ < b80 := Nat.lt_trans o222 o174
  have ne231 : a0_ ≠ b80 := Nat.ne_of_lt o230
  have c232 := V86.keep S_229 (ninS (Ne.symm ne231) nin0)
  have S_233 := (((Keep.refl h104 [a0_]).ext E108).wr W118 (Or.inl mI0)).wr W124 (Or.inl mI0)
  have S_234 : Keep h104 h166 [a0_] := (S_233.trans S_181 (allS (Or.inl mI0) all0))
  have c235 := ((((((((F105.ext E108).other W118 (Or.inr (slot_ne (Or.inl (hw _ tw26)) (Or.inl (hw _ tw28)) (by decide) (t := (.array .double)) (t' := (.array .int)) (by decide) (by decide)))).other W124 (Or.inr (slot_ne (Or.inl (hw _ tw26)) (Or.inr (hw _ tw30)) (by decide) (t := (.array .double)) (t' := .int) (by decide) (by decide)))).ext E128).other W138 (Or.inr (slot_ne (Or.inl (hw _ tw26)) (Or.inl (hw _ tw32)) (by decide) (t := (.array .double)) (t' := (.array .int)) (by decide) (by decide)))).ext E142).other W152 (Or.inr (slot_ne (Or.inl (hw _ tw26)) (Or.inl (hw _ tw34)) (by decide) (t := (.array .double)) (t' := (.array .int)) (by decide) (by decide)))).ext E156).other W166 (Or.inr (slot_ne (Or.inl (hw _ tw26)) (Or.inl (hw _ tw36)) (by decide) (t := (.array .double)) (t' := (.array .double)) (by decide) (by decide)))
  have S_236 := (Keep.refl h94 [a0_]).wr W104 (Or.inl mI0)
  have S_237 : Keep h94 h166 [a0_] := (S_236.trans S_234 (allS (Or.inl mI0) all0))
  have o238 : a0_ < b94 := Nat.lt_trans o230 o175
  have ne239 : a0_ ≠ b94 := Nat.ne_of_lt o238
  have c240 := V100.keep S_237 (ninS (Ne.symm ne239) nin0)
  have S_241 := (Keep.refl h118 [a0_]).wr W124 (Or.inl mI0)
  have S_242 : Keep h118 h166 [a0_] := (S_241.trans S_181 (allS (Or.inl mI0) all0))
  have c243 := ((((((F119.other W124 (Or.inr (slot_ne (Or.inl (hw _ tw28)) (Or.inr (hw _ tw30)) (by decide) (t := (.array .int)) (t' := .int) (by decide) (by decide)))).ext E128).other W138 (Or.inr (slot_ne (Or.inl (hw _ tw28)) (Or.inl (hw _ tw32)) (by decide) (t := (.array .int)) (t' := (.array .int)) (by decide) (by decide)))).ext E142).other W152 (Or.inr (slot_ne (Or.inl (hw _ tw28)) (Or.inl (hw _ tw34)) (by decide) (t := (.array .int)) (t' := (.array .int)) (by decide) (by decide)))).ext E156).other W166 (Or.inr (slot_ne (Or.inl (hw _ tw28)) (Or.inl (hw _ tw36)) (by decide) (t := (.array .int)) (t' := (.array .double)) (by decide) (by decide)))
  have S_244 := (Keep.refl h108 [a0_]).wr W118 (Or.inl mI0)
  have S_245 : Keep h108 h166 [a0_] := (S_244.trans S_242 (allS (Or.inl mI0) all0))
  have o246 : a0_ < b108 := Nat.lt_trans o238 o176
  have ne247 : a0_ ≠ b108 := Nat.ne_of_lt o246
  have c248 := V114.keep S_245 (ninS (Ne.symm ne247) nin0)
  have S_249 : Keep h138 h166 [a0_] := (((((Keep.refl h138 [a0_]).ext E142).wr W152 (Or.inl mI0)).ext E156).wr W166 (Or.inl mI0))
  have c250 := (((F139.ext E142).other W152 (Or.inr (slot_ne (Or.inl (hw _ tw32)) (Or.inl (hw _ tw34)) (by decide) (t := (.array .int)) (t' := (.array .int)) (by decide) (by decide)))).ext E156).other W166 (Or.inr (slot_ne (Or.inl (hw _ tw32)) (Or.inl (hw _ tw36)) (by decide) (t := (.array .int)) (t' := (.array .double)) (by decide) (by decide)))
  have S_251 := (Keep.refl h128 [a0_]).wr W138 (Or.inl mI0)
  have S_252 : Keep h128 h166 [a0_] := (S_251.trans S_249 (allS (Or.inl mI0) all0))
  have o253 : a0_ < b128 := Nat.lt_trans o246 o177
  have ne254 : a0_ ≠ b128 := Nat.ne_of_lt o253
  have c255 := V134.keep S_252 (ninS (Ne.symm ne254) nin0)
  have S_256 : Keep h152 h166 [a0_] := (((Keep.refl h152 [a0_]).ext E156).wr W166 (Or.inl mI0))
  have c257 := (F153.ext E156).other W166 (Or.inr (slot_ne (Or.inl (hw _ tw34)) (Or.inl (hw _ tw36)) (by decide) (t := (.array .int)) (t' := (.array .double)) (by decide) (by decide)))
  have S_258 := (Keep.refl h142 [a0_]).wr W152 (Or.inl mI0)
  have S_259 : Keep h142 h166 [a0_] := (S_258.trans S_256 (allS (Or.inl mI0) all0))
  have o260 : a0_ < b142 := Nat.lt_trans o253 o178
  have ne261 : a0_ ≠ b142 := Nat.ne_of_lt o260
  have c262 := V148.keep S_259 (ninS (Ne.symm ne261) nin0)
  have o263 : a0_ < b156 := Nat.lt_trans o260 o179
  have ne264 : a0_ ≠ b156 := Nat.ne_of_lt o263
  have c265 := V162.other W166 (Ne.symm ne264)
  refine Go.ret X166 (v := none) (fun _ => rfl) hlk (fun fs hr => X166.returnOut hx hret (hb hby d1_103) hr) ?_ (by decide) (by decide)
  show Q1_2 Z a0_ h0 n0 _ T166.heap _
  rw [e166]
  exact ⟨b11, b24, b38, b52, b66, b80, b94, b108, b128, b142, b156, k11, k24, k38, k52, k66, k80, k94, k108, k128, k142, k156, rfl, N166, K168, sz13, sz26, sz40, sz54, sz68, sz82, sz96, sz110, sz130, sz144, sz158, o170, o171, o172, o173, o174, o175, o176, o177, o178, o179, c180, c182, c183, c184, c187, c192, c195, c200, c203, c208, c211, c216, c219, c224, c227, c232, c235, c240, c243, c248, c250, c255, c257, c262, F167, c265⟩
theorem d5_0 : decode prog_63_method_15_code 0 = .ok (.aload_n 0, 1) := by decide +kernel
theorem d5_1 : decode prog_63_method_15_code 1 = .ok (.getfield 27, 3) := by decide +kernel
theorem d5_4 : decode prog_63_method_15_code 4 = .ok (.iload 5, 2) := by decide +kernel
theorem d5_6 : decode prog_63_method_15_code 6 = .ok (.iload_n 1, 1) := by decide +kernel
theorem d5_7 : decode prog_63_method_15_code 7 = .ok (.iastore, 1) := by decide +kernel
theorem d5_8 : decode prog_63_method_15_code 8 = .ok (.aload_n 0, 1) := by decide +kernel
theorem d5_9 : decode prog_63_method_15_code 9 = .ok (.getfield 30, 3) := by decide +kernel
theorem d5_12 : decode prog_63_method_15_code 12 = .ok (.iload 5, 2) := by decide +kernel
theorem d5_14 : decode prog_63_method_15_code 14 = .ok (.dload_n 2, 1) := by decide +kernel
theorem d5_15 : decode prog_63_method_15_code 15 = .ok (.dastore, 1) := by decide +kernel
theorem d5_16 : decode prog_63_method_15_code 16 = .ok (.aload_n 0, 1) := by decide +kernel
theorem d5_17 : decode prog_63_method_15_code 17 = .ok (.getfield 33, 3) := by decide +kernel
theorem d5_20 : decode prog_63_method_15_code 20 = .ok (.iload 5, 2) := by decide +kernel
theorem d5_22 : decode prog_63_method_15_code 22 = .ok (.iload 4, 2) := by decide +kernel
theorem d5_24 : decode prog_63_method_15_code 24 = .ok (.iastore, 1) := by decide +kernel
theorem d5_25 : decode prog_63_method_15_code 25 = .ok (.return_, 1) := by decide +kernel
theorem ef5_0 (m : MethodId) (x0 : Addr) : entryFrame m #[(.ref x0), (.int 0), (.double (FP.l2d (1 : Int64))), (.int 0), (.int 0)] 6 = mkF m 0 #[.val (.ref x0), .val (.int 0), .val (.double (FP.l2d (1 : Int64))), .second, .val (.int 0), .val (.int 0)] [] := by first | (simp [entryFrame, mkF, argsToLocals, Value.category]; done) | rfl
def Q5_0 (Z : State) (a0_ : Addr) (x_heap : Addr) (x_heapBounds : Addr) (x_heapStarts : Addr) (k_heap : ClassId) (k_heapBounds : ClassId) (k_heapStarts : ClassId) (h0 : Heap) (n0 : Nat) (v : Option Value) (h : Heap) (L : List Loc) : Prop := v = none ∧ Fr n0 L ∧ Keep h0 h [x_heap, x_heapBounds, x_heapStarts] ∧ Arv Z h x_heap k_heap .int (16 : Int32) [(.int 0), (.int 0), (.int 0), (.int 0)] (.int 0) ∧ Arv Z h x_heapBounds k_heapBounds .double (16 : Int32) [(.double (FP.l2d (1 : Int64))), (.double (FP.l2d 0)), (.double (FP.l2d 0)), (.double (FP.l2d 0))] (.double (FP.l2d 0)) ∧ Arv Z h x_heapStarts k_heapStarts .int (16 : Int32) [(.int 0), (.int 0), (.int 0), (.int 0)] (.int 0)
theorem rm5_0 (l : Launch) (Z : State) (a0 : Array Value) (hw : ∀ d ∈ tables_1, d.before a0 Z = true) (ws : List Jvm.Cond) (a0_ : Addr) (x_heap : Addr) (x_heapBounds : Addr) (x_heapStarts : Addr) (k_heap : ClassId) (k_heapBounds : ClassId) (k_heapStarts : ClassId) (h0 : Heap) (n0 : Nat) (Z0 : n0 ≤ h0.size) (O0 : Old Z n0 h0) (E0 : Exa Z h0 a0_ sq0) (F_heap : Fld Z h0 a0_ sq0 "heap" "[I" (.ref x_heap)) (F_heapBounds : Fld Z h0 a0_ sq0 "heapBounds" "[D" (.ref x_heapBounds)) (F_heapStarts : Fld Z h0 a0_ sq0 "heapStarts" "[I" (.ref x_heapStarts)) (V_heap : Arv Z h0 x_heap k_heap .int (16 : Int32) [(.int 0), (.int 0), (.int 0), (.int 0)] (.int 0)) (V_heapBounds : Arv Z h0 x_heapBounds k_heapBounds .double (16 : Int32) [(.double (FP.l2d 0)), (.double (FP.l2d 0)), (.double (FP.l2d 0)), (.double (FP.l2d 0))] (.double (FP.l2d 0))) (V_heapStarts : Arv Z h0 x_heapStarts k_heapStarts .int (16 : Int32) [(.int 0), (.int 0), (.int 0), (.int 0)] (.int 0)) (g_heap : n0 ≤ x_heap) (g_heapBounds : n0 ≤ x_heapBounds) (g_heapStarts : n0 ≤ x_heapStarts) (o_a0__x_heap : a0_ < x_heap) (o_x_heap_x_heapBounds : x_heap < x_heapBounds) (o_x_heapBounds_x_heapStarts : x_heapBounds < x_heapStarts) :
    Met l Z ws (⟨sq0, "put", "(IDII)V"⟩ : MethodName) prog_63_method_15_code 6 none (Rm 0 0 0 0) #[(.ref a0_), (.int 0), (.double (FP.l2d (1 : Int64))), (.int 0), (.int 0)] h0 (Q5_0 Z a0_ x_heap x_heapBounds x_heapStarts k_heap k_heapBounds k_heapStarts h0 n0) := by
  refine Met.enter (L0 := #[.val (.ref a0_), .val (.int 0), .val (.double (FP.l2d (1 : Int64))), .second, .val (.int 0), .val (.int 0)]) (plainFor_of_name pn56) (fun m => ef5_0 m a0_) ?_
  intro p e s m below meth c s₁ hx hby hml hown hnm hret hlk hZ X0 e0
  have N0 := Fr.nil n0
  have K0 : Keep h0 h0 [x_heap, x_heapBounds, x_heapStarts] := Keep.refl h0 _
  refine Go.st (t' := s₁.setTop (mkF m 1 #[.val (.ref a0_), .val (.int 0), .val (.double (FP.l2d (1 : Int64))), .second, .val (.int 0), .val (.int 0)] [(.ref a0_)])) (fun target kt => ?_) ?_
  · refine XS.aloadN X0.here hx rfl (hb hby d5_0) rfl rfl ?_
    exact kt
  obtain ⟨T10, X10, e10, st10⟩ := getF X0 hx hZ hown (host := "") (Or.inl (hw _ tw23)) Via.refl e0 F_heap (g := (mkF m 1 #[.val (.ref a0_), .val (.int 0), .val (.double (FP.l2d (1 : Int64))), .second, .val (.int 0), .val (.int 0)] [(.ref a0_)])) rfl rfl (hb hby d5_1)
  refine Go.st st10 ?_
  refine Go.st (t' := T10.setTop (mkF m 7 #[.val (.ref a0_), .val (.int 0), .val (.double (FP.l2d (1 : Int64))), .second, .val (.int 0), .val (.int 0)] [(.int 0), (.int 0), (.ref x_heap)])) (fun target kt => ?_) ?_
  · refine XS.iload X10.here hx rfl (hb hby d5_4) rfl ?_
    refine XS.iloadN X10.here hx rfl (hb hby d5_6) rfl ?_
    exact kt
  obtain ⟨cl11, Ar11, q11, S11, M11, H11, G11⟩ := id V_heap
  have hin11 : ¬ ((0 : Int32) < 0 ∨ cl11.slots.size ≤ ((0 : Int32)).toNatClampNeg) := inb_of S11 ⟨by decide, by decide⟩
  obtain ⟨T11, h11, X11, e11, W11, st11⟩ := stI X10 hx hZ e10 Ar11 (j := (0 : Int32)) hin11 (g := (mkF m 7 #[.val (.ref a0_), .val (.int 0), .val (.double (FP.l2d (1 : Int64))), .second, .val (.int 0), .val (.int 0)] [(.int 0), (.int 0), (.ref x_heap)])) rfl rfl (hb hby d5_7)
  have V12 : Arv Z h11 x_heap k_heap .int (16 : Int32) [(.int 0), (.int 0), (.int 0), (.int 0)] (.int 0) := Arv.set Ar11 q11 S11 M11 H11 G11 rfl W11 0 rfl (Nat.le_of_ble_eq_true rfl)
  have K13 := K0.wr W11 (Or.inl mI0)
  have O14 := O0.wr W11 g_heap
  have N11 := Fr.snoc X11 N0 g_heap
  refine Go.st st11 ?_
  refine Go.st (t' := T11.setTop (mkF m 9 #[.val (.ref a0_), .val (.int 0), .val (.double (FP.l2d (1 : Int64))), .second, .val (.int 0), .val (.int 0)] [(.ref a0_)])) (fun target kt => ?_) ?_
  · refine XS.aloadN X11.here hx rfl (hb hby d5_8) rfl rfl ?_
    exact kt
  have ne15 : a0_ ≠ x_heapStarts := Nat.ne_of_lt (Nat.lt_trans (Nat.lt_trans o_a0__x_heap o_x_heap_x_heapBounds) o_x_heapBounds_x_heapStarts)
  have ne16 : a0_ ≠ x_heapBounds := Nat.ne_of_lt (Nat.lt_trans o_a0__x_heap o_x_heap_x_heapBounds)
  have ne17 : a0_ ≠ x_heap := Nat.ne_of_lt o_a0__x_heap
  have c18 := F_heapBounds.keep K13 (ninS ne17 (ninS ne16 (ninS ne15 nin0)))
  obtain ⟨T19, X19, e19, st19⟩ := getF X11 hx hZ hown (host := "") (Or.inl (hw _ tw25)) Via.refl e11 c18 (g := (mkF m 9 #[.val (.ref a0_), .val (.int 0), .val (.double (FP.l2d (1 : Int64))), .second, .val (.int 0), .val (.int 0)] [(.ref a0_)])) rfl rfl (hb hby d5_9)
  refine Go.st st19 ?_
  refine Go.st (t' := T19.setTop (mkF m 15 #[.val (.ref a0_), .val (.int 0), .val (.double (FP.l2d (1 : Int64))), .second, .val (.int 0), .val (.int 0)] [(.double (FP.l2d (1 : Int64))), (.int 0), (.ref x_heapBounds)])) (fun target kt => ?_) ?_
  · refine XS.iload X19.here hx rfl (hb hby d5_12) rfl ?_
    refine XS.dloadN X19.here hx rfl (hb hby d5_14) rfl ?_
    exact kt
  have ne20 : x_heap ≠ x_heapBounds := Nat.ne_of_lt o_x_heap_x_heapBounds
  have c21 := V_heapBounds.other W11 (Ne.symm ne20)
  obtain ⟨cl22, Ar22, q22, S22, M22, H22, G22⟩ := id c21
  have hin22 : ¬ ((0 : Int32) < 0 ∨ cl22.slots.size ≤ ((0 : Int32)).toNatClampNeg) := inb_of S22 ⟨by decide, by decide⟩
  obtain ⟨T22, h22, X22, e22, W22, st22⟩ := stD X19 hx hZ e19 Ar22 (j := (0 : Int32)) hin22 (g := (mkF m 15 #[.val (.ref a0_), .val (.int 0), .val (.double (FP.l2d (1 : Int64))), .second, .val (.int 0), .val (.int 0)] [(.double (FP.l2d (1 : Int64))), (.int 0), (.ref x_heapBounds)])) rfl rfl (hb hby d5_15)
  have V23 : Arv Z h22 x_heapBounds k_heapBounds .double (16 : Int32) [(.double (FP.l2d (1 : Int64))), (.double (FP.l2d 0)), (.double (FP.l2d 0)), (.double (FP.l2d 0))] (.double (FP.l2d 0)) := Arv.set Ar22 q22 S22 M22 H22 G22 rfl W22 0 rfl (Nat.le_of_ble_eq_true rfl)
  have K24 := K13.wr W22 (Or.inl mI1)
  have O25 := O14.wr W22 g_heapBounds
  have N22 := Fr.snoc X22 N11 g_heapBounds
  refine Go.st st22 ?_
  refine Go.st (t' := T22.setTop (mkF m 17 #[.val (.ref a0_), .val (.int 0), .val (.double (FP.l2d (1 : Int64))), .second, .val (.int 0), .val (.int 0)] [(.ref a0_)])) (fun target kt => ?_) ?_
  · refine XS.aloadN X22.here hx rfl (hb hby d5_16) rfl rfl ?_
    exact kt
  have c26 := F_heapStarts.keep K24 (ninS ne17 (ninS ne16 (ninS ne15 nin0)))
  obtain ⟨T27, X27, e27, st27⟩ := getF X22 hx hZ hown (host := "") (Or.inl (hw _ tw27)) Via.refl e22 c26 (g := (mkF m 17 #[.val (.ref a0_), .val (.int 0), .val (.double (FP.l2d (1 : Int64))), .second, .val (.int 0), .val (.int 0)] [(.ref a0_)])) rfl rfl (hb hby d5_17)
  refine Go.st st27 ?_
  refine Go.st (t' := T27.setTop (mkF m 24 #[.val (.ref a0_), .val (.int 0), .val (.double (FP.l2d (1 : Int64))), .second, .val (.int 0), .val (.int 0)] [(.int 0), (.int 0), (.ref x_heapStarts)])) (fun target kt => ?_) ?_
  · refine XS.iload X27.here hx rfl (hb hby d5_20) rfl ?_
    refine XS.iload X27.here hx rfl (hb hby d5_22) rfl ?_
    exact kt
  have ne28 : x_heap ≠ x_heapStarts := Nat.ne_of_lt (Nat.lt_trans o_x_heap_x_heapBounds o_x_heapBounds_x_heapStarts)
  have ne29 : x_heapBounds ≠ x_heapStarts := Nat.ne_of_lt o_x_heapBounds_x_heapStarts
  have c30 := (V_heapStarts.other W11 (Ne.symm ne28)).other W22 (Ne.symm ne29)
  obtain ⟨cl31, Ar31, q31, S31, M31, H31, G31⟩ := id c30
  have hin31 : ¬ ((0 : Int32) < 0 ∨ cl31.slots.size ≤ ((0 : Int32)).toNatClampNeg) := inb_of S31 ⟨by decide, by decide⟩
  obtain ⟨T31, h31, X31, e31, W31, st31⟩ := stI X27 hx hZ e27 Ar31 (j := (0 : Int32)) hin31 (g := (mkF m 24 #[.val (.ref a0_), .val (.int 0), .val (.double (FP.l2d (1 : Int64))), .second, .val (.int 0), .val (.int 0)] [(.int 0), (.int 0), (.ref x_heapStarts)])) rfl rfl (hb hby d5_24)
  have V32 : Arv Z h31 x_heapStarts k_heapStarts .int (16 : Int32) [(.int 0), (.int 0), (.int 0), (.int 0)] (.int 0) := Arv.set Ar31 q31 S31 M31 H31 G31 rfl W31 0 rfl (Nat.le_of_ble_eq_true rfl)
  have K33 := K24.wr W31 (Or.inl mI2)
  have O34 := O25.wr W31 g_heapStarts
  have N31 := Fr.snoc X31 N22 g_heapStarts
  refine Go.st st31 ?_
  have S_35 : Keep h11 h31 [x_heapBounds, x_heapStarts] := (((Keep.refl h11 [x_heapBounds, x_heapStarts]).wr W22 (Or.inl mI0)).wr W31 (Or.inl mI1))
  have c36 := V12.keep S_35 (ninS ne20 (ninS ne28 nin0))
  have c37 := V23.other W31 ne29
  refine Go.ret X31 (v := none) (fun _ => rfl) hlk (fun fs hr => X31.returnOut hx hret (hb hby d5_25) hr) ?_ (by decide) (by decide)
  show Q5_0 Z a0_ x_heap x_heapBounds x_heapStarts k_heap k_heapBounds k_heapStarts h0 n0 _ T31.heap _
  rw [e31]
  exact ⟨rfl, N31, K33, c36, c37, V32⟩
theorem d4_0 : decode prog_63_method_12_code 0 = .ok (.aload_n 0, 1) := by decide +kernel
theorem d4_1 : decode prog_63_method_12_code 1 = .ok (.getfield 49, 3) := by decide +kernel
theorem tw48 : (Jvm.Cond.fieldLink "com/example/docstride/docstride/search/topk/StretchQueue" (49 : Nat) "com/example/docstride/docstride/search/topk/StretchQueue" "size" "I") ∈ tables_1 := List.mem_of_getElem? (i := 48) rfl
theorem d4_4 : decode prog_63_method_12_code 4 = .ok (.aload_n 0, 1) := by decide +kernel
theorem d4_5 : decode prog_63_method_12_code 5 = .ok (.getfield 27, 3) := by decide +kernel
theorem d4_8 : decode prog_63_method_12_code 8 = .ok (.arraylength, 1) := by decide +kernel
theorem d4_9 : decode prog_63_method_12_code 9 = .ok (.if_icmp .ne 54, 3) := by decide +kernel
theorem d4_63 : decode prog_63_method_12_code 63 = .ok (.aload_n 0, 1) := by decide +kernel
theorem d4_64 : decode prog_63_method_12_code 64 = .ok (.getfield 19, 3) := by decide +kernel
theorem d4_67 : decode prog_63_method_12_code 67 = .ok (.iload_n 1, 1) := by decide +kernel
theorem d4_68 : decode prog_63_method_12_code 68 = .ok (.daload, 1) := by decide +kernel
theorem d4_69 : decode prog_63_method_12_code 69 = .ok (.dstore_n 2, 1) := by decide +kernel
theorem d4_70 : decode prog_63_method_12_code 70 = .ok (.aload_n 0, 1) := by decide +kernel
theorem d4_71 : decode prog_63_method_12_code 71 = .ok (.getfield 9, 3) := by decide +kernel
theorem d4_74 : decode prog_63_method_12_code 74 = .ok (.iload_n 1, 1) := by decide +kernel
theorem d4_75 : decode prog_63_method_12_code 75 = .ok (.iaload, 1) := by decide +kernel
theorem d4_76 : decode prog_63_method_12_code 76 = .ok (.istore 4, 2) := by decide +kernel
theorem d4_78 : decode prog_63_method_12_code 78 = .ok (.aload_n 0, 1) := by decide +kernel
theorem d4_79 : decode prog_63_method_12_code 79 = .ok (.dup, 1) := by decide +kernel
theorem d4_80 : decode prog_63_method_12_code 80 = .ok (.getfield 49, 3) := by decide +kernel
theorem d4_83 : decode prog_63_method_12_code 83 = .ok (.dup_x1, 1) := by decide +kernel
theorem d4_84 : decode prog_63_method_12_code 84 = .ok (.iconst 1, 1) := by decide +kernel
theorem d4_85 : decode prog_63_method_12_code 85 = .ok (.iadd, 1) := by decide +kernel
theorem d4_86 : decode prog_63_method_12_code 86 = .ok (.putfield 49, 3) := by decide +kernel
theorem d4_89 : decode prog_63_method_12_code 89 = .ok (.istore 5, 2) := by decide +kernel
theorem d4_91 : decode prog_63_method_12_code 91 = .ok (.iload 5, 2) := by decide +kernel
theorem d4_93 : decode prog_63_method_12_code 93 = .ok (.ifCond .le 52, 3) := by decide +kernel
theorem d4_145 : decode prog_63_method_12_code 145 = .ok (.aload_n 0, 1) := by decide +kernel
theorem d4_146 : decode prog_63_method_12_code 146 = .ok (.iload_n 1, 1) := by decide +kernel
theorem d4_147 : decode prog_63_method_12_code 147 = .ok (.dload_n 2, 1) := by decide +kernel
theorem d4_148 : decode prog_63_method_12_code 148 = .ok (.iload 4, 2) := by decide +kernel
theorem d4_150 : decode prog_63_method_12_code 150 = .ok (.iload 5, 2) := by decide +kernel
theorem d4_152 : decode prog_63_method_12_code 152 = .ok (.invokevirtual 79, 3) := by decide +kernel
theorem tw50 : (Jvm.Cond.methodLink "com/example/docstride/docstride/search/topk/StretchQueue" (79 : Nat) ({ cls := "com/example/docstride/docstride/search/topk/StretchQueue", name := "put", desc := "(IDII)V" } : Jvm.MethodName)) ∈ tables_1 := List.mem_of_getElem? (i := 50) rfl
theorem tw53 : (Jvm.Cond.code ({ cls := "com/example/docstride/docstride/search/topk/StretchQueue", name := "put", desc := "(IDII)V" } : Jvm.MethodName) prog_63_method_15_code (6 : Nat) (Option.none : Option Jvm.ClassFile.FieldType)) ∈ tables_1 := List.mem_of_getElem? (i := 53) rfl
theorem tw5 : (Jvm.Cond.initialized "com/example/docstride/docstride/search/topk/StretchQueue") ∈ tables_1 := List.mem_of_getElem? (i := 5) rfl
theorem pd0 : parseMethodDescriptor "(IDII)V" = some ⟨[.int, .double, .int, .int], none⟩ := by decide +kernel
theorem tw51 : (Jvm.Cond.instanceMethod ({ cls := "com/example/docstride/docstride/search/topk/StretchQueue", name := "put", desc := "(IDII)V" } : Jvm.MethodName)) ∈ tables_1 := List.mem_of_getElem? (i := 51) rfl
theorem tw52 : (Jvm.Cond.privateMethod ({ cls := "com/example/docstride/docstride/search/topk/StretchQueue", name := "put", desc := "(IDII)V" } : Jvm.MethodName)) ∈ tables_1 := List.mem_of_getElem? (i := 52) rfl
theorem d4_155 : decode prog_63_method_12_code 155 = .ok (.return_, 1) := by decide +kernel
theorem ef4_0 (m : MethodId) (x0 : Addr) : entryFrame m #[(.ref x0), (.int 0)] 7 = mkF m 0 #[.val (.ref x0), .val (.int 0), .unset, .unset, .unset, .unset, .unset] [] := by first | (simp [entryFrame, mkF, argsToLocals, Value.category]; done) | rfl
def Q4_0 (Z : State) (a0_ : Addr) (x_starts : Addr) (x_nexts : Addr) (x_ends : Addr) (x_bounds : Addr) (x_windows : Addr) (x_heap : Addr) (x_heapBounds : Addr) (x_heapStarts : Addr) (x_entries : Addr) (x_blocks : Addr) (x_parts : Addr) (k_heap : ClassId) (k_heapBounds : ClassId) (k_heapStarts : ClassId) (k_starts : ClassId) (k_bounds : ClassId) (pc_ : Int32) (pa_ : Int32) (h0 : Heap) (n0 : Nat) (v : Option Value) (h : Heap) (L : List Loc) : Prop := v = none ∧ Fr n0 L ∧ Keep h0 h [a0_, x_heap, x_heapBounds, x_heapStarts] ∧ Exa Z h a0_ sq0 ∧ Fld Z h a0_ sq0 "starts" "[I" (.ref x_starts) ∧ Fld Z h a0_ sq0 "nexts" "[I" (.ref x_nexts) ∧ Fld Z h a0_ sq0 "ends" "[I" (.ref x_ends) ∧ Fld Z h a0_ sq0 "bounds" "[D" (.ref x_bounds) ∧ Fld Z h a0_ sq0 "windows" "[Z" (.ref x_windows) ∧ Fld Z h a0_ sq0 "heap" "[I" (.ref x_heap) ∧ Fld Z h a0_ sq0 "heapBounds" "[D" (.ref x_heapBounds) ∧ Fld Z h a0_ sq0 "heapStarts" "[I" (.ref x_heapStarts) ∧ Fld Z h a0_ sq0 "entries" "[I" (.ref x_entries) ∧ Fld Z h a0_ sq0 "blocks" "[I" (.ref x_blocks) ∧ Fld Z h a0_ sq0 "parts" "[D" (.ref x_parts) ∧ Fld Z h a0_ sq0 "count" "I" (.int pc_) ∧ Fld Z h a0_ sq0 "added" "I" (.int pa_) ∧ Fld Z h a0_ sq0 "size" "I" (.int 1) ∧ Arv Z h x_heap k_heap .int (16 : Int32) [(.int 0), (.int 0), (.int 0), (.int 0)] (.int 0) ∧ Arv Z h x_heapBounds k_heapBounds .double (16 : Int32) [(.double (FP.l2d (1 : Int64))), (.double (FP.l2d 0)), (.double (FP.l2d 0)), (.double (FP.l2d 0))] (.double (FP.l2d 0)) ∧ Arv Z h x_heapStarts k_heapStarts .int (16 : Int32) [(.int 0), (.int 0), (.int 0), (.int 0)] (.int 0)
theorem rm4_0 (l : Launch) (Z : State) (a0 : Array Value) (hw : ∀ d ∈ tables_1, d.before a0 Z = true) (ws : List Jvm.Cond) (a0_ : Addr) (x_starts : Addr) (x_nexts : Addr) (x_ends : Addr) (x_bounds : Addr) (x_windows : Addr) (x_heap : Addr) (x_heapBounds : Addr) (x_heapStarts : Addr) (x_entries : Addr) (x_blocks : Addr) (x_parts : Addr) (k_heap : ClassId) (k_heapBounds : ClassId) (k_heapStarts : ClassId) (k_starts : ClassId) (k_bounds : ClassId) (pc_ : Int32) (pa_ : Int32) (h0 : Heap) (n0 : Nat) (Z0 : n0 ≤ h0.size) (O0 : Old Z n0 h0) (E0 : Exa Z h0 a0_ sq0) (F_starts : Fld Z h0 a0_ sq0 "starts" "[I" (.ref x_starts)) (F_nexts : Fld Z h0 a0_ sq0 "nexts" "[I" (.ref x_nexts)) (F_ends : Fld Z h0 a0_ sq0 "ends" "[I" (.ref x_ends)) (F_bounds : Fld Z h0 a0_ sq0 "bounds" "[D" (.ref x_bounds)) (F_windows : Fld Z h0 a0_ sq0 "windows" "[Z" (.ref x_windows)) (F_heap : Fld Z h0 a0_ sq0 "heap" "[I" (.ref x_heap)) (F_heapBounds : Fld Z h0 a0_ sq0 "heapBounds" "[D" (.ref x_heapBounds)) (F_heapStarts : Fld Z h0 a0_ sq0 "heapStarts" "[I" (.ref x_heapStarts)) (F_entries : Fld Z h0 a0_ sq0 "entries" "[I" (.ref x_entries)) (F_blocks : Fld Z h0 a0_ sq0 "blocks" "[I" (.ref x_blocks)) (F_parts : Fld Z h0 a0_ sq0 "parts" "[D" (.ref x_parts)) (F_count : Fld Z h0 a0_ sq0 "count" "I" (.int pc_)) (F_added : Fld Z h0 a0_ sq0 "added" "I" (.int pa_)) (F_size : Fld Z h0 a0_ sq0 "size" "I" (.int 0)) (V_heap : Arv Z h0 x_heap k_heap .int (16 : Int32) [(.int 0), (.int 0), (.int 0), (.int 0)] (.int 0)) (V_heapBounds : Arv Z h0 x_heapBounds k_heapBounds .double (16 : Int32) [(.double (FP.l2d 0)), (.double (FP.l2d 0)), (.double (FP.l2d 0)), (.double (FP.l2d 0))] (.double (FP.l2d 0))) (V_heapStarts : Arv Z h0 x_heapStarts k_heapStarts .int (16 : Int32) [(.int 0), (.int 0), (.int 0), (.int 0)] (.int 0)) (V_starts : Arv Z h0 x_starts k_starts .int (16 : Int32) [(.int 0), (.int 0), (.int 0), (.int 0)] (.int 0)) (V_bounds : Arv Z h0 x_bounds k_bounds .double (16 : Int32) [(.double (FP.l2d (1 : Int64))), (.double (FP.l2d 0)), (.double (FP.l2d 0)), (.double (FP.l2d 0))] (.double (FP.l2d 0))) (g_a0 : n0 ≤ a0_) (g_heap : n0 ≤ x_heap) (g_heapBounds : n0 ≤ x_heapBounds) (g_heapStarts : n0 ≤ x_heapStarts) (o_a0__x_starts : a0_ < x_starts) (o_x_starts_x_bounds : x_starts < x_bounds) (o_x_bounds_x_heap : x_bounds < x_heap) (o_x_heap_x_heapBounds : x_heap < x_heapBounds) (o_x_heapBounds_x_heapStarts : x_heapBounds < x_heapStarts) :
    Met l Z ws (⟨sq0, "push", "(I)V"⟩ : MethodName) prog_63_method_12_code 7 none (Rm 1 0 0 17) #[(.ref a0_), (.int 0)] h0 (Q4_0 Z a0_ x_starts x_nexts x_ends x_bounds x_windows x_heap x_heapBounds x_heapStarts x_entries x_blocks x_parts k_heap k_heapBounds k_heapStarts k_starts k_bounds pc_ pa_ h0 n0) := by
  refine Met.enter (L0 := #[.val (.ref a0_), .val (.int 0), .unset, .unset, .unset, .unset, .unset]) (plainFor_of_name pn56) (fun m => ef4_0 m a0_) ?_
  intro p e s m below meth c s₁ hx hby hml hown hnm hret hlk hZ X0 e0
  have N0 := Fr.nil n0
  have K0 : Keep h0 h0 [a0_, x_heap, x_heapBounds, x_heapStarts] := Keep.refl h0 _
  refine Go.st (t' := s₁.setTop (mkF m 1 #[.val (.ref a0_), .val (.int 0), .unset, .unset, .unset, .unset, .unset] [(.ref a0_)])) (fun target kt => ?_) ?_
  · refine XS.aloadN X0.here hx rfl (hb hby d4_0) rfl rfl ?_
    exact kt
  obtain ⟨T10, X10, e10, st10⟩ := getF X0 hx hZ hown (host := "") (Or.inl (hw _ tw48)) Via.refl e0 F_size (g := (mkF m 1 #[.val (.ref a0_), .val (.int 0), .unset, .unset, .unset, .unset, .unset] [(.ref a0_)])) rfl rfl (hb hby d4_1)
  refine Go.st st10 ?_
  refine Go.st (t' := T10.setTop (mkF m 5 #[.val (.ref a0_), .val (.int 0), .unset, .unset, .unset, .unset, .unset] [(.ref a0_), (.int 0)])) (fun target kt => ?_) ?_
  · refine XS.aloadN X10.here hx rfl (hb hby d4_4) rfl rfl ?_
    exact kt
  obtain ⟨T11, X11, e11, st11⟩ := getF X10 hx hZ hown (host := "") (Or.inl (hw _ tw23)) Via.refl e10 F_heap (g := (mkF m 5 #[.val (.ref a0_), .val (.int 0), .unset, .unset, .unset, .unset, .unset] [(.ref a0_), (.int 0)])) rfl rfl (hb hby d4_5)
  refine Go.st st11 ?_
  obtain ⟨cl12, Ar12, -, S12, M12, -, -⟩ := id V_heap
  refine Go.st (t' := T11.setTop (mkF m 64 #[.val (.ref a0_), .val (.int 0), .unset, .unset, .unset, .unset, .unset] [(.ref a0_)])) (fun target kt => ?_) ?_
  · refine X11.arraylength hx (by rw [e11]; exact Ar12.1) (State.isArrayOf_alike hZ.alike Ar12.2.1) (g := (mkF m 8 #[.val (.ref a0_), .val (.int 0), .unset, .unset, .unset, .unset, .unset] [(.ref x_heap), (.int 0)])) rfl rfl (hb hby d4_8) _ ?_
    rw [len_of S12 M12]
    refine XS.icmpYes X11.here hx rfl (pc0 := 9) (pc' := 63) rfl (hb hby d4_9) rfl (feq (by decide : ¬ ((0 : Int32) = (16 : Int32)))).2 (by decide) (by decide) ?_
    refine XS.aloadN X11.here hx rfl (hb hby d4_63) rfl rfl ?_
    exact kt
  obtain ⟨T13, X13, e13, st13⟩ := getF X11 hx hZ hown (host := "") (Or.inl (hw _ tw18)) Via.refl e11 F_bounds (g := (mkF m 64 #[.val (.ref a0_), .val (.int 0), .unset, .unset, .unset, .unset, .unset] [(.ref a0_)])) rfl rfl (hb hby d4_64)
  refine Go.st st13 ?_
  obtain ⟨cl14, Ar14, -, S14, M14, H14, -⟩ := id V_bounds
  have hin14 : ¬ ((0 : Int32) < 0 ∨ cl14.slots.size ≤ ((0 : Int32)).toNatClampNeg) := inb_of S14 ⟨by decide, by decide⟩
  have hat14 : cl14.slots[((0 : Int32)).toNatClampNeg]? = some (.double (FP.l2d (1 : Int64))) := H14.at hin14 rfl
  refine Go.st (t' := T13.setTop (mkF m 71 #[.val (.ref a0_), .val (.int 0), .val (.double (FP.l2d (1 : Int64))), .second, .unset, .unset, .unset] [(.ref a0_)])) (fun target kt => ?_) ?_
  · refine XS.iloadN X13.here hx rfl (hb hby d4_67) rfl ?_
    refine X13.daload hx (j := (0 : Int32)) (v := (.double (FP.l2d (1 : Int64)))) (by rw [e13]; exact Ar14.1) (State.isArrayOf_alike hZ.alike Ar14.2.1) Ar14.2.2 hin14 hat14 (g := (mkF m 68 #[.val (.ref a0_), .val (.int 0), .unset, .unset, .unset, .unset, .unset] [(.int 0), (.ref x_bounds)])) rfl rfl (hb hby d4_68) _ ?_
    refine XS.dstoreN X13.here hx rfl (hb hby d4_69) rfl (l' := #[.val (.ref a0_), .val (.int 0), .val (.double (FP.l2d (1 : Int64))), .second, .unset, .unset, .unset]) rfl ?_
    refine XS.aloadN X13.here hx rfl (hb hby d4_70) rfl rfl ?_
    exact kt
  obtain ⟨T15, X15, e15, st15⟩ := getF X13 hx hZ hown (host := "") (Or.inl (hw _ tw12)) Via.refl e13 F_starts (g := (mkF m 71 #[.val (.ref a0_), .val (.int 0), .val (.double (FP.l2d (1 : Int64))), .second, .unset, .unset, .unset] [(.ref a0_)])) rfl rfl (hb hby d4_71)
  refine Go.st st15 ?_
  obtain ⟨cl16, Ar16, -, S16, M16, H16, -⟩ := id V_starts
  have hin16 : ¬ ((0 : Int32) < 0 ∨ cl16.slots.size ≤ ((0 : Int32)).toNatClampNeg) := inb_of S16 ⟨by decide, by decide⟩
  have hat16 : cl16.slots[((0 : Int32)).toNatClampNeg]? = some (.int 0) := H16.at hin16 rfl
  refine Go.st (t' := T15.setTop (mkF m 80 #[.val (.ref a0_), .val (.int 0), .val (.double (FP.l2d (1 : Int64))), .second, .val (.int 0), .unset, .unset] [(.ref a0_), (.ref a0_)])) (fun target kt => ?_) ?_
  · refine XS.iloadN X15.here hx rfl (hb hby d4_74) rfl ?_
    refine X15.iaload hx (j := (0 : Int32)) (v := (.int 0)) (by rw [e15]; exact Ar16.1) (State.isArrayOf_alike hZ.alike Ar16.2.1) Ar16.2.2 hin16 hat16 (g := (mkF m 75 #[.val (.ref a0_), .val (.int 0), .val (.double (FP.l2d (1 : Int64))), .second, .unset, .unset, .unset] [(.int 0), (.ref x_starts)])) rfl rfl (hb hby d4_75) _ ?_
    refine XS.istore X15.here hx rfl (hb hby d4_76) rfl (l' := #[.val (.ref a0_), .val (.int 0), .val (.double (FP.l2d (1 : Int64))), .second, .val (.int 0), .unset, .unset]) rfl ?_
    refine XS.aloadN X15.here hx rfl (hb hby d4_78) rfl rfl ?_
    refine XS.dup X15.here hx rfl (hb hby d4_79) rfl rfl ?_
    exact kt
  obtain ⟨T17, X17, e17, st17⟩ := getF X15 hx hZ hown (host := "") (Or.inl (hw _ tw48)) Via.refl e15 F_size (g := (mkF m 80 #[.val (.ref a0_), .val (.int 0), .val (.double (FP.l2d (1 : Int64))), .second, .val (.int 0), .unset, .unset] [(.ref a0_), (.ref a0_)])) rfl rfl (hb hby d4_80)
  refine Go.st st17 ?_
  refine Go.st (t' := T17.setTop (mkF m 86 #[.val (.ref a0_), .val (.int 0), .val (.double (FP.l2d (1 : Int64))), .second, .val (.int 0), .unset, .unset] [(.int 1), (.ref a0_), (.int 0)])) (fun target kt => ?_) ?_
  · refine XS.dupX1 X17.here hx rfl (hb hby d4_83) rfl rfl rfl ?_
    refine XS.iconst X17.here hx rfl (hb hby d4_84) ?_
    refine XS.iadd X17.here hx rfl (hb hby d4_85) rfl ?_
    exact kt
  obtain ⟨T18, h18, X18, e18, W18, st18⟩ := putF X17 hx hZ hown (host := "") (Or.inl (hw _ tw48)) Via.refl e17 F_size E0 (Or.inl (hw _ tw49)) (hw _ tw4) (ty := .int) (by decide) rfl rfl (g := (mkF m 86 #[.val (.ref a0_), .val (.int 0), .val (.double (FP.l2d (1 : Int64))), .second, .val (.int 0), .unset, .unset] [(.int 1), (.ref a0_), (.int 0)])) rfl rfl (hb hby d4_86)
  have F19 : Fld Z h18 a0_ sq0 "size" "I" (.int 1) := F_size.same W18
  have K20 := K0.wr W18 (Or.inl mI0)
  have O21 := O0.wr W18 g_a0
  have N18 := Fr.snoc X18 N0 g_a0
  refine Go.st st18 ?_
  refine Go.st (t' := T18.setTop (mkF m 152 #[.val (.ref a0_), .val (.int 0), .val (.double (FP.l2d (1 : Int64))), .second, .val (.int 0), .val (.int 0), .unset] [(.int 0), (.int 0), (.double (FP.l2d (1 : Int64))), (.int 0), (.ref a0_)])) (fun target kt => ?_) ?_
  · refine XS.istore X18.here hx rfl (hb hby d4_89) rfl (l' := #[.val (.ref a0_), .val (.int 0), .val (.double (FP.l2d (1 : Int64))), .second, .val (.int 0), .val (.int 0), .unset]) rfl ?_
    refine XS.iload X18.here hx rfl (hb hby d4_91) rfl ?_
    refine XS.ifYes X18.here hx rfl (pc0 := 93) (pc' := 145) rfl (hb hby d4_93) rfl ((if0 _ _).trans (flt (by decide : ¬ ((0 : Int32) < (0 : Int32)))).2.2.2) (by decide) (by decide) ?_
    refine XS.aloadN X18.here hx rfl (hb hby d4_145) rfl rfl ?_
    refine XS.iloadN X18.here hx rfl (hb hby d4_146) rfl ?_
    refine XS.dloadN X18.here hx rfl (hb hby d4_147) rfl ?_
    refine XS.iload X18.here hx rfl (hb hby d4_148) rfl ?_
    refine XS.iload X18.here hx rfl (hb hby d4_150) rfl ?_
    exact kt
  have c22 := E0.keep K20
  have c23 := F_heap.other W18 (Or.inr (slot_ne (Or.inl (hw _ tw24)) (Or.inl (hw _ tw49)) (by decide) (t := (.array .int)) (t' := .int) (by decide) (by decide)))
  have c24 := F_heapBounds.other W18 (Or.inr (slot_ne (Or.inl (hw _ tw26)) (Or.inl (hw _ tw49)) (by decide) (t := (.array .double)) (t' := .int) (by decide) (by decide)))
  have c25 := F_heapStarts.other W18 (Or.inr (slot_ne (Or.inl (hw _ tw28)) (Or.inl (hw _ tw49)) (by decide) (t := (.array .int)) (t' := .int) (by decide) (by decide)))
  have ne26 : a0_ ≠ x_heap := Nat.ne_of_lt (Nat.lt_trans (Nat.lt_trans o_a0__x_starts o_x_starts_x_bounds) o_x_bounds_x_heap)
  have c27 := V_heap.other W18 (Ne.symm ne26)
  have ne28 : a0_ ≠ x_heapBounds := Nat.ne_of_lt (Nat.lt_trans (Nat.lt_trans (Nat.lt_trans o_a0__x_starts o_x_starts_x_bounds) o_x_bounds_x_heap) o_x_heap_x_heapBounds)
  have c29 := V_heapBounds.other W18 (Ne.symm ne28)
  have ne30 : a0_ ≠ x_heapStarts := Nat.ne_of_lt (Nat.lt_trans (Nat.lt_trans (Nat.lt_trans (Nat.lt_trans o_a0__x_starts o_x_starts_x_bounds) o_x_bounds_x_heap) o_x_heap_x_heapBounds) o_x_heapBounds_x_heapStarts)
  have c31 := V_heapStarts.other W18 (Ne.symm ne30)
  refine Go.cps (own_cp (W := 0) (b := a0_) (argsL := [(.int 0), (.double (FP.l2d (1 : Int64))), (.int 0), (.int 0)]) (rest := []) X18 hx hZ hown (hw _ tw50) (hw _ tw51) (own_selp (y := (⟨sq0, "put", "(IDII)V"⟩ : MethodName)) (hw _ tw4) (hw _ tw52) (hw _ tw51) (by decide)) (hw _ tw52) (hw _ tw53) (hw _ tw5) (by decide) e18 c22 (rm5_0 l Z a0 hw [] a0_ x_heap x_heapBounds x_heapStarts k_heap k_heapBounds k_heapStarts h18 n0 (Nat.le_trans Z0 K20.1) O21  c22 c23 c24 c25 c27 c29 c31 g_heap g_heapBounds g_heapStarts (Nat.lt_trans (Nat.lt_trans o_a0__x_starts o_x_starts_x_bounds) o_x_bounds_x_heap) o_x_heap_x_heapBounds o_x_heapBounds_x_heapStarts) rfl (by rw [hml]; rfl) (lenOf pd0 rfl) rfl (Nat.le_of_eq rfl) (hb hby d4_152) rfl (by decide) (by decide) (by decide) (by decide)) ?_
  rintro T32 _ L32 X32 ⟨rfl, Nq32, Kq32, q33, q34, q35⟩
  have N32 := Fr.app N18 Nq32
  have K36 := K20.trans Kq32 (allS (Or.inl mI1) (allS (Or.inl mI2) (allS (Or.inl mI3) all0)))
  have O37 := O21.keep Kq32 (allS g_heap (allS g_heapBounds (allS g_heapStarts all0)))
  have c38 := c22.keep Kq32
  have c39 := (F_starts.other W18 (Or.inr (slot_ne (Or.inl (hw _ tw13)) (Or.inl (hw _ tw49)) (by decide) (t := (.array .int)) (t' := .int) (by decide) (by decide)))).keep Kq32 (ninS ne26 (ninS ne28 (ninS ne30 nin0)))
  have c40 := (F_nexts.other W18 (Or.inr (slot_ne (Or.inl (hw _ tw15)) (Or.inl (hw _ tw49)) (by decide) (t := (.array .int)) (t' := .int) (by decide) (by decide)))).keep Kq32 (ninS ne26 (ninS ne28 (ninS ne30 nin0)))
  have c41 := (F_ends.other W18 (Or.inr (slot_ne (Or.inl (hw _ tw17)) (Or.inl (hw _ tw49)) (by decide) (t := (.array .int)) (t' := .int) (by decide) (by decide)))).keep Kq32 (ninS ne26 (ninS ne28 (ninS ne30 nin0)))
  have c42 := (F_bounds.other W18 (Or.inr (slot_ne (Or.inl (hw _ tw19)) (Or.inl (hw _ tw49)) (by decide) (t := (.array .double)) (t' := .int) (by decide) (by decide)))).keep Kq32 (ninS ne26 (ninS ne28 (ninS ne30 nin0)))
  have c43 := (F_windows.other W18 (Or.inr (slot_ne (Or.inl (hw _ tw22)) (Or.inl (hw _ tw49)) (by decide) (t := (.array .boolean)) (t' := .int) (by decide) (by decide)))).keep Kq32 (ninS ne26 (ninS ne28 (ninS ne30 nin0)))
  have c44 := c23.keep Kq32 (ninS ne26 (ninS ne28 (ninS ne30 nin0)))
  have c45 := c24.keep Kq32 (ninS ne26 (ninS ne28 (ninS ne30 nin0)))
  have c46 := c25.keep Kq32 (ninS ne26 (ninS ne28 (ninS ne30 nin0)))
  have c47 := (F_entries.other W18 (Or.inr (slot_ne (Or.inl (hw _ tw32)) (Or.inl (hw _ tw49)) (by decide) (t := (.array .int)) (t' := .int) (by decide) (by decide)))).keep Kq32 (ninS ne26 (ninS ne28 (ninS ne30 nin0)))
  have c48 := (F_blocks.other W18 (Or.inr (slot_ne (Or.inl (hw _ tw34)) (Or.inl (hw _ tw49)) (by decide) (t := (.array .int)) (t' := .int) (by decide) (by decide)))).keep Kq32 (ninS ne26 (ninS ne28 (ninS ne30 nin0)))
  have c49 := (F_parts.other W18 (Or.inr (slot_ne (Or.inl (hw _ tw36)) (Or.inl (hw _ tw49)) (by decide) (t := (.array .double)) (t' := .int) (by decide) (by decide)))).keep Kq32 (ninS ne26 (ninS ne28 (ninS ne30 nin0)))
  have c50 := (F_count.other W18 (Or.inr (slot_ne (Or.inr (hw _ tw30)) (Or.inl (hw _ tw49)) (by decide) (t := .int) (t' := .int) (by decide) (by decide)))).keep Kq32 (ninS ne26 (ninS ne28 (ninS ne30 nin0)))
  have c51 := (F_added.other W18 (Or.inr (slot_ne (Or.inl (hw _ tw43)) (Or.inl (hw _ tw49)) (by decide) (t := .int) (t' := .int) (by decide) (by decide)))).keep Kq32 (ninS ne26 (ninS ne28 (ninS ne30 nin0)))
  have c52 := F19.keep Kq32 (ninS ne26 (ninS ne28 (ninS ne30 nin0)))
  refine Go.ret X32 (v := none) (fun _ => rfl) hlk (fun fs hr => X32.returnOut hx hret (hb hby d4_155) hr) ?_ (by decide) (by decide)
  show Q4_0 Z a0_ x_starts x_nexts x_ends x_bounds x_windows x_heap x_heapBounds x_heapStarts x_entries x_blocks x_parts k_heap k_heapBounds k_heapStarts k_starts k_bounds pc_ pa_ h0 n0 _ T32.heap _
  exact ⟨rfl, N32, K36, c38, c39, c40, c41, c42, c43, c44, c45, c46, c47, c48, c49, c50, c51, c52, q33, q34, q35⟩
theorem ef5_1 (m : MethodId) (x0 : Addr) : entryFrame m #[(.ref x0), (.int 1), (.double (FP.l2d (1 : Int64))), (.int 0), (.int 1)] 6 = mkF m 0 #[.val (.ref x0), .val (.int 1), .val (.double (FP.l2d (1 : Int64))), .second, .val (.int 0), .val (.int 1)] [] := by first | (simp [entryFrame, mkF, argsToLocals, Value.category]; done) | rfl
def Q5_1 (Z : State) (a0_ : Addr) (x_heap : Addr) (x_heapBounds : Addr) (x_heapStarts : Addr) (k_heap : ClassId) (k_heapBounds : ClassId) (k_heapStarts : ClassId) (h0 : Heap) (n0 : Nat) (v : Option Value) (h : Heap) (L : List Loc) : Prop := v = none ∧ Fr n0 L ∧ Keep h0 h [x_heap, x_heapBounds, x_heapStarts] ∧ Arv Z h x_heap k_heap .int (16 : Int32) [(.int 0), (.int 1), (.int 0), (.int 0)] (.int 0) ∧ Arv Z h x_heapBounds k_heapBounds .double (16 : Int32) [(.double (FP.l2d (1 : Int64))), (.double (FP.l2d (1 : Int64))), (.double (FP.l2d 0)), (.double (FP.l2d 0))] (.double (FP.l2d 0)) ∧ Arv Z h x_heapStarts k_heapStarts .int (16 : Int32) [(.int 0), (.int 0), (.int 0), (.int 0)] (.int 0)
theorem rm5_1 (l : Launch) (Z : State) (a0 : Array Value) (hw : ∀ d ∈ tables_1, d.before a0 Z = true) (ws : List Jvm.Cond) (a0_ : Addr) (x_heap : Addr) (x_heapBounds : Addr) (x_heapStarts : Addr) (k_heap : ClassId) (k_heapBounds : ClassId) (k_heapStarts : ClassId) (h0 : Heap) (n0 : Nat) (Z0 : n0 ≤ h0.size) (O0 : Old Z n0 h0) (E0 : Exa Z h0 a0_ sq0) (F_heap : Fld Z h0 a0_ sq0 "heap" "[I" (.ref x_heap)) (F_heapBounds : Fld Z h0 a0_ sq0 "heapBounds" "[D" (.ref x_heapBounds)) (F_heapStarts : Fld Z h0 a0_ sq0 "heapStarts" "[I" (.ref x_heapStarts)) (V_heap : Arv Z h0 x_heap k_heap .int (16 : Int32) [(.int 0), (.int 0), (.int 0), (.int 0)] (.int 0)) (V_heapBounds : Arv Z h0 x_heapBounds k_heapBounds .double (16 : Int32) [(.double (FP.l2d (1 : Int64))), (.double (FP.l2d 0)), (.double (FP.l2d 0)), (.double (FP.l2d 0))] (.double (FP.l2d 0))) (V_heapStarts : Arv Z h0 x_heapStarts k_heapStarts .int (16 : Int32) [(.int 0), (.int 0), (.int 0), (.int 0)] (.int 0)) (g_heap : n0 ≤ x_heap) (g_heapBounds : n0 ≤ x_heapBounds) (g_heapStarts : n0 ≤ x_heapStarts) (o_a0__x_heap : a0_ < x_heap) (o_x_heap_x_heapBounds : x_heap < x_heapBounds) (o_x_heapBounds_x_heapStarts : x_heapBounds < x_heapStarts) :
    Met l Z ws (⟨sq0, "put", "(IDII)V"⟩ : MethodName) prog_63_method_15_code 6 none (Rm 0 0 0 0) #[(.ref a0_), (.int 1), (.double (FP.l2d (1 : Int64))), (.int 0), (.int 1)] h0 (Q5_1 Z a0_ x_heap x_heapBounds x_heapStarts k_heap k_heapBounds k_heapStarts h0 n0) := by
  refine Met.enter (L0 := #[.val (.ref a0_), .val (.int 1), .val (.double (FP.l2d (1 : Int64))), .second, .val (.int 0), .val (.int 1)]) (plainFor_of_name pn56) (fun m => ef5_1 m a0_) ?_
  intro p e s m below meth c s₁ hx hby hml hown hnm hret hlk hZ X0 e0
  have N0 := Fr.nil n0
  have K0 : Keep h0 h0 [x_heap, x_heapBounds, x_heapStarts] := Keep.refl h0 _
  refine Go.st (t' := s₁.setTop (mkF m 1 #[.val (.ref a0_), .val (.int 1), .val (.double (FP.l2d (1 : Int64))), .second, .val (.int 0), .val (.int 1)] [(.ref a0_)])) (fun target kt => ?_) ?_
  · refine XS.aloadN X0.here hx rfl (hb hby d5_0) rfl rfl ?_
    exact kt
  obtain ⟨T10, X10, e10, st10⟩ := getF X0 hx hZ hown (host := "") (Or.inl (hw _ tw23)) Via.refl e0 F_heap (g := (mkF m 1 #[.val (.ref a0_), .val (.int 1), .val (.double (FP.l2d (1 : Int64))), .second, .val (.int 0), .val (.int 1)] [(.ref a0_)])) rfl rfl (hb hby d5_1)
  refine Go.st st10 ?_
  refine Go.st (t' := T10.setTop (mkF m 7 #[.val (.ref a0_), .val (.int 1), .val (.double (FP.l2d (1 : Int64))), .second, .val (.int 0), .val (.int 1)] [(.int 1), (.int 1), (.ref x_heap)])) (fun target kt => ?_) ?_
  · refine XS.iload X10.here hx rfl (hb hby d5_4) rfl ?_
    refine XS.iloadN X10.here hx rfl (hb hby d5_6) rfl ?_
    exact kt
  obtain ⟨cl11, Ar11, q11, S11, M11, H11, G11⟩ := id V_heap
  have hin11 : ¬ ((1 : Int32) < 0 ∨ cl11.slots.size ≤ ((1 : Int32)).toNatClampNeg) := inb_of S11 ⟨by decide, by decide⟩
  obtain ⟨T11, h11, X11, e11, W11, st11⟩ := stI X10 hx hZ e10 Ar11 (j := (1 : Int32)) hin11 (g := (mkF m 7 #[.val (.ref a0_), .val (.int 1), .val (.double (FP.l2d (1 : Int64))), .second, .val (.int 0), .val (.int 1)] [(.int 1), (.int 1), (.ref x_heap)])) rfl rfl (hb hby d5_7)
  have V12 : Arv Z h11 x_heap k_heap .int (16 : Int32) [(.int 0), (.int 1), (.int 0), (.int 0)] (.int 0) := Arv.set Ar11 q11 S11 M11 H11 G11 rfl W11 1 rfl (Nat.le_of_ble_eq_true rfl)
  have K13 := K0.wr W11 (Or.inl mI0)
  have O14 := O0.wr W11 g_heap
  have N11 := Fr.snoc X11 N0 g_heap
  refine Go.st st11 ?_
  refine Go.st (t' := T11.setTop (mkF m 9 #[.val (.ref a0_), .val (.int 1), .val (.double (FP.l2d (1 : Int64))), .second, .val (.int 0), .val (.int 1)] [(.ref a0_)])) (fun target kt => ?_) ?_
  · refine XS.aloadN X11.here hx rfl (hb hby d5_8) rfl rfl ?_
    exact kt
  have ne15 : a0_ ≠ x_heapStarts := Nat.ne_of_lt (Nat.lt_trans (Nat.lt_trans o_a0__x_heap o_x_heap_x_heapBounds) o_x_heapBounds_x_heapStarts)
  have ne16 : a0_ ≠ x_heapBounds := Nat.ne_of_lt (Nat.lt_trans o_a0__x_heap o_x_heap_x_heapBounds)
  have ne17 : a0_ ≠ x_heap := Nat.ne_of_lt o_a0__x_heap
  have c18 := F_heapBounds.keep K13 (ninS ne17 (ninS ne16 (ninS ne15 nin0)))
  obtain ⟨T19, X19, e19, st19⟩ := getF X11 hx hZ hown (host := "") (Or.inl (hw _ tw25)) Via.refl e11 c18 (g := (mkF m 9 #[.val (.ref a0_), .val (.int 1), .val (.double (FP.l2d (1 : Int64))), .second, .val (.int 0), .val (.int 1)] [(.ref a0_)])) rfl rfl (hb hby d5_9)
  refine Go.st st19 ?_
  refine Go.st (t' := T19.setTop (mkF m 15 #[.val (.ref a0_), .val (.int 1), .val (.double (FP.l2d (1 : Int64))), .second, .val (.int 0), .val (.int 1)] [(.double (FP.l2d (1 : Int64))), (.int 1), (.ref x_heapBounds)])) (fun target kt => ?_) ?_
  · refine XS.iload X19.here hx rfl (hb hby d5_12) rfl ?_
    refine XS.dloadN X19.here hx rfl (hb hby d5_14) rfl ?_
    exact kt
  have ne20 : x_heap ≠ x_heapBounds := Nat.ne_of_lt o_x_heap_x_heapBounds
  have c21 := V_heapBounds.other W11 (Ne.symm ne20)
  obtain ⟨cl22, Ar22, q22, S22, M22, H22, G22⟩ := id c21
  have hin22 : ¬ ((1 : Int32) < 0 ∨ cl22.slots.size ≤ ((1 : Int32)).toNatClampNeg) := inb_of S22 ⟨by decide, by decide⟩
  obtain ⟨T22, h22, X22, e22, W22, st22⟩ := stD X19 hx hZ e19 Ar22 (j := (1 : Int32)) hin22 (g := (mkF m 15 #[.val (.ref a0_), .val (.int 1), .val (.double (FP.l2d (1 : Int64))), .second, .val (.int 0), .val (.int 1)] [(.double (FP.l2d (1 : Int64))), (.int 1), (.ref x_heapBounds)])) rfl rfl (hb hby d5_15)
  have V23 : Arv Z h22 x_heapBounds k_heapBounds .double (16 : Int32) [(.double (FP.l2d (1 : Int64))), (.double (FP.l2d (1 : Int64))), (.double (FP.l2d 0)), (.double (FP.l2d 0))] (.double (FP.l2d 0)) := Arv.set Ar22 q22 S22 M22 H22 G22 rfl W22 1 rfl (Nat.le_of_ble_eq_true rfl)
  have K24 := K13.wr W22 (Or.inl mI1)
  have O25 := O14.wr W22 g_heapBounds
  have N22 := Fr.snoc X22 N11 g_heapBounds
  refine Go.st st22 ?_
  refine Go.st (t' := T22.setTop (mkF m 17 #[.val (.ref a0_), .val (.int 1), .val (.double (FP.l2d (1 : Int64))), .second, .val (.int 0), .val (.int 1)] [(.ref a0_)])) (fun target kt => ?_) ?_
  · refine XS.aloadN X22.here hx rfl (hb hby d5_16) rfl rfl ?_
    exact kt
  have c26 := F_heapStarts.keep K24 (ninS ne17 (ninS ne16 (ninS ne15 nin0)))
  obtain ⟨T27, X27, e27, st27⟩ := getF X22 hx hZ hown (host := "") (Or.inl (hw _ tw27)) Via.refl e22 c26 (g := (mkF m 17 #[.val (.ref a0_), .val (.int 1), .val (.double (FP.l2d (1 : Int64))), .second, .val (.int 0), .val (.int 1)] [(.ref a0_)])) rfl rfl (hb hby d5_17)
  refine Go.st st27 ?_
  refine Go.st (t' := T27.setTop (mkF m 24 #[.val (.ref a0_), .val (.int 1), .val (.double (FP.l2d (1 : Int64))), .second, .val (.int 0), .val (.int 1)] [(.int 0), (.int 1), (.ref x_heapStarts)])) (fun target kt => ?_) ?_
  · refine XS.iload X27.here hx rfl (hb hby d5_20) rfl ?_
    refine XS.iload X27.here hx rfl (hb hby d5_22) rfl ?_
    exact kt
  have ne28 : x_heap ≠ x_heapStarts := Nat.ne_of_lt (Nat.lt_trans o_x_heap_x_heapBounds o_x_heapBounds_x_heapStarts)
  have ne29 : x_heapBounds ≠ x_heapStarts := Nat.ne_of_lt o_x_heapBounds_x_heapStarts
  have c30 := (V_heapStarts.other W11 (Ne.symm ne28)).other W22 (Ne.symm ne29)
  obtain ⟨cl31, Ar31, q31, S31, M31, H31, G31⟩ := id c30
  have hin31 : ¬ ((1 : Int32) < 0 ∨ cl31.slots.size ≤ ((1 : Int32)).toNatClampNeg) := inb_of S31 ⟨by decide, by decide⟩
  obtain ⟨T31, h31, X31, e31, W31, st31⟩ := stI X27 hx hZ e27 Ar31 (j := (1 : Int32)) hin31 (g := (mkF m 24 #[.val (.ref a0_), .val (.int 1), .val (.double (FP.l2d (1 : Int64))), .second, .val (.int 0), .val (.int 1)] [(.int 0), (.int 1), (.ref x_heapStarts)])) rfl rfl (hb hby d5_24)
  have V32 : Arv Z h31 x_heapStarts k_heapStarts .int (16 : Int32) [(.int 0), (.int 0), (.int 0), (.int 0)] (.int 0) := Arv.set Ar31 q31 S31 M31 H31 G31 rfl W31 1 rfl (Nat.le_of_ble_eq_true rfl)
  have K33 := K24.wr W31 (Or.inl mI2)
  have O34 := O25.wr W31 g_heapStarts
  have N31 := Fr.snoc X31 N22 g_heapStarts
  refine Go.st st31 ?_
  have S_35 : Keep h11 h31 [x_heapBounds, x_heapStarts] := (((Keep.refl h11 [x_heapBounds, x_heapStarts]).wr W22 (Or.inl mI0)).wr W31 (Or.inl mI1))
  have c36 := V12.keep S_35 (ninS ne20 (ninS ne28 nin0))
  have c37 := V23.other W31 ne29
  refine Go.ret X31 (v := none) (fun _ => rfl) hlk (fun fs hr => X31.returnOut hx hret (hb hby d5_25) hr) ?_ (by decide) (by decide)
  show Q5_1 Z a0_ x_heap x_heapBounds x_heapStarts k_heap k_heapBounds k_heapStarts h0 n0 _ T31.heap _
  rw [e31]
  exact ⟨rfl, N31, K33, c36, c37, V32⟩
theorem d4_96 : decode prog_63_method_12_code 96 = .ok (.iload 5, 2) := by decide +kernel
theorem d4_98 : decode prog_63_method_12_code 98 = .ok (.iconst 1, 1) := by decide +kernel
theorem d4_99 : decode prog_63_method_12_code 99 = .ok (.isub, 1) := by decide +kernel
theorem d4_100 : decode prog_63_method_12_code 100 = .ok (.iconst 2, 1) := by decide +kernel
theorem d4_101 : decode prog_63_method_12_code 101 = .ok (.idiv, 1) := by decide +kernel
theorem d4_102 : decode prog_63_method_12_code 102 = .ok (.istore 6, 2) := by decide +kernel
theorem d4_104 : decode prog_63_method_12_code 104 = .ok (.dload_n 2, 1) := by decide +kernel
theorem d4_105 : decode prog_63_method_12_code 105 = .ok (.iload 4, 2) := by decide +kernel
theorem d4_107 : decode prog_63_method_12_code 107 = .ok (.aload_n 0, 1) := by decide +kernel
theorem d4_108 : decode prog_63_method_12_code 108 = .ok (.getfield 30, 3) := by decide +kernel
theorem d4_111 : decode prog_63_method_12_code 111 = .ok (.iload 6, 2) := by decide +kernel
theorem d4_113 : decode prog_63_method_12_code 113 = .ok (.daload, 1) := by decide +kernel
theorem d4_114 : decode prog_63_method_12_code 114 = .ok (.aload_n 0, 1) := by decide +kernel
theorem d4_115 : decode prog_63_method_12_code 115 = .ok (.getfield 33, 3) := by decide +kernel
theorem d4_118 : decode prog_63_method_12_code 118 = .ok (.iload 6, 2) := by decide +kernel
theorem d4_120 : decode prog_63_method_12_code 120 = .ok (.iaload, 1) := by decide +kernel
theorem d4_121 : decode prog_63_method_12_code 121 = .ok (.invokestatic 52, 3) := by decide +kernel
theorem tw54 : (Jvm.Cond.methodLink "com/example/docstride/docstride/search/topk/StretchQueue" (52 : Nat) ({ cls := "com/example/docstride/docstride/search/topk/StretchQueue", name := "isBefore", desc := "(DIDI)Z" } : Jvm.MethodName)) ∈ tables_1 := List.mem_of_getElem? (i := 54) rfl
theorem tw56 : (Jvm.Cond.code ({ cls := "com/example/docstride/docstride/search/topk/StretchQueue", name := "isBefore", desc := "(DIDI)Z" } : Jvm.MethodName) prog_63_method_13_code (6 : Nat) (Option.some Jvm.ClassFile.FieldType.boolean)) ∈ tables_1 := List.mem_of_getElem? (i := 56) rfl
theorem pd1 : parseMethodDescriptor "(DIDI)Z" = some ⟨[.double, .int, .double, .int], some .boolean⟩ := by decide +kernel
theorem tw55 : (Jvm.Cond.static ({ cls := "com/example/docstride/docstride/search/topk/StretchQueue", name := "isBefore", desc := "(DIDI)Z" } : Jvm.MethodName)) ∈ tables_1 := List.mem_of_getElem? (i := 55) rfl
theorem d4_124 : decode prog_63_method_12_code 124 = .ok (.ifCond .ne 6, 3) := by decide +kernel
theorem d4_127 : decode prog_63_method_12_code 127 = .ok (.goto 18, 3) := by decide +kernel
theorem ef4_1 (m : MethodId) (x0 : Addr) : entryFrame m #[(.ref x0), (.int 1)] 7 = mkF m 0 #[.val (.ref x0), .val (.int 1), .unset, .unset, .unset, .unset, .unset] [] := by first | (simp [entryFrame, mkF, argsToLocals, Value.category]; done) | rfl
def Q4_1 (Z : State) (a0_ : Addr) (x_starts : Addr) (x_nexts : Addr) (x_ends : Addr) (x_bounds : Addr) (x_windows : Addr) (x_heap : Addr) (x_heapBounds : Addr) (x_heapStarts : Addr) (x_entries : Addr) (x_blocks : Addr) (x_parts : Addr) (k_heap : ClassId) (k_heapBounds : ClassId) (k_heapStarts : ClassId) (k_starts : ClassId) (k_bounds : ClassId) (pc_ : Int32) (pa_ : Int32) (h0 : Heap) (n0 : Nat) (v : Option Value) (h : Heap) (L : List Loc) : Prop := v = none ∧ Fr n0 L ∧ Keep h0 h [a0_, x_heap, x_heapBounds, x_heapStarts] ∧ Exa Z h a0_ sq0 ∧ Fld Z h a0_ sq0 "starts" "[I" (.ref x_starts) ∧ Fld Z h a0_ sq0 "nexts" "[I" (.ref x_nexts) ∧ Fld Z h a0_ sq0 "ends" "[I" (.ref x_ends) ∧ Fld Z h a0_ sq0 "bounds" "[D" (.ref x_bounds) ∧ Fld Z h a0_ sq0 "windows" "[Z" (.ref x_windows) ∧ Fld Z h a0_ sq0 "heap" "[I" (.ref x_heap) ∧ Fld Z h a0_ sq0 "heapBounds" "[D" (.ref x_heapBounds) ∧ Fld Z h a0_ sq0 "heapStarts" "[I" (.ref x_heapStarts) ∧ Fld Z h a0_ sq0 "entries" "[I" (.ref x_entries) ∧ Fld Z h a0_ sq0 "blocks" "[I" (.ref x_blocks) ∧ Fld Z h a0_ sq0 "parts" "[D" (.ref x_parts) ∧ Fld Z h a0_ sq0 "count" "I" (.int pc_) ∧ Fld Z h a0_ sq0 "added" "I" (.int pa_) ∧ Fld Z h a0_ sq0 "size" "I" (.int 2) ∧ Arv Z h x_heap k_heap .int (16 : Int32) [(.int 0), (.int 1), (.int 0), (.int 0)] (.int 0) ∧ Arv Z h x_heapBounds k_heapBounds .double (16 : Int32) [(.double (FP.l2d (1 : Int64))), (.double (FP.l2d (1 : Int64))), (.double (FP.l2d 0)), (.double (FP.l2d 0))] (.double (FP.l2d 0)) ∧ Arv Z h x_heapStarts k_heapStarts .int (16 : Int32) [(.int 0), (.int 0), (.int 0), (.int 0)] (.int 0)
theorem rm4_1 (l : Launch) (Z : State) (a0 : Array Value) (hw : ∀ d ∈ tables_1, d.before a0 Z = true) (ws : List Jvm.Cond) (a0_ : Addr) (x_starts : Addr) (x_nexts : Addr) (x_ends : Addr) (x_bounds : Addr) (x_windows : Addr) (x_heap : Addr) (x_heapBounds : Addr) (x_heapStarts : Addr) (x_entries : Addr) (x_blocks : Addr) (x_parts : Addr) (k_heap : ClassId) (k_heapBounds : ClassId) (k_heapStarts : ClassId) (k_starts : ClassId) (k_bounds : ClassId) (pc_ : Int32) (pa_ : Int32) (h0 : Heap) (n0 : Nat) (Z0 : n0 ≤ h0.size) (O0 : Old Z n0 h0) (E0 : Exa Z h0 a0_ sq0) (F_starts : Fld Z h0 a0_ sq0 "starts" "[I" (.ref x_starts)) (F_nexts : Fld Z h0 a0_ sq0 "nexts" "[I" (.ref x_nexts)) (F_ends : Fld Z h0 a0_ sq0 "ends" "[I" (.ref x_ends)) (F_bounds : Fld Z h0 a0_ sq0 "bounds" "[D" (.ref x_bounds)) (F_windows : Fld Z h0 a0_ sq0 "windows" "[Z" (.ref x_windows)) (F_heap : Fld Z h0 a0_ sq0 "heap" "[I" (.ref x_heap)) (F_heapBounds : Fld Z h0 a0_ sq0 "heapBounds" "[D" (.ref x_heapBounds)) (F_heapStarts : Fld Z h0 a0_ sq0 "heapStarts" "[I" (.ref x_heapStarts)) (F_entries : Fld Z h0 a0_ sq0 "entries" "[I" (.ref x_entries)) (F_blocks : Fld Z h0 a0_ sq0 "blocks" "[I" (.ref x_blocks)) (F_parts : Fld Z h0 a0_ sq0 "parts" "[D" (.ref x_parts)) (F_count : Fld Z h0 a0_ sq0 "count" "I" (.int pc_)) (F_added : Fld Z h0 a0_ sq0 "added" "I" (.int pa_)) (F_size : Fld Z h0 a0_ sq0 "size" "I" (.int 1)) (V_heap : Arv Z h0 x_heap k_heap .int (16 : Int32) [(.int 0), (.int 0), (.int 0), (.int 0)] (.int 0)) (V_heapBounds : Arv Z h0 x_heapBounds k_heapBounds .double (16 : Int32) [(.double (FP.l2d (1 : Int64))), (.double (FP.l2d 0)), (.double (FP.l2d 0)), (.double (FP.l2d 0))] (.double (FP.l2d 0))) (V_heapStarts : Arv Z h0 x_heapStarts k_heapStarts .int (16 : Int32) [(.int 0), (.int 0), (.int 0), (.int 0)] (.int 0)) (V_starts : Arv Z h0 x_starts k_starts .int (16 : Int32) [(.int 0), (.int 0), (.int 0), (.int 0)] (.int 0)) (V_bounds : Arv Z h0 x_bounds k_bounds .double (16 : Int32) [(.double (FP.l2d (1 : Int64))), (.double (FP.l2d (1 : Int64))), (.double (FP.l2d 0)), (.double (FP.l2d 0))] (.double (FP.l2d 0))) (g_a0 : n0 ≤ a0_) (g_heap : n0 ≤ x_heap) (g_heapBounds : n0 ≤ x_heapBounds) (g_heapStarts : n0 ≤ x_heapStarts) (o_a0__x_starts : a0_ < x_starts) (o_x_starts_x_bounds : x_starts < x_bounds) (o_x_bounds_x_heap : x_bounds < x_heap) (o_x_heap_x_heapBounds : x_heap < x_heapBounds) (o_x_heapBounds_x_heapStarts : x_heapBounds < x_heapStarts) :
    Met l Z ws (⟨sq0, "push", "(I)V"⟩ : MethodName) prog_63_method_12_code 7 none (Rm 1 0 0 17) #[(.ref a0_), (.int 1)] h0 (Q4_1 Z a0_ x_starts x_nexts x_ends x_bounds x_windows x_heap x_heapBounds x_heapStarts x_entries x_blocks x_parts k_heap k_heapBounds k_heapStarts k_starts k_bounds pc_ pa_ h0 n0) := by
  refine Met.enter (L0 := #[.val (.ref a0_), .val (.int 1), .unset, .unset, .unset, .unset, .unset]) (plainFor_of_name pn56) (fun m => ef4_1 m a0_) ?_
  intro p e s m below meth c s₁ hx hby hml hown hnm hret hlk hZ X0 e0
  have N0 := Fr.nil n0
  have K0 : Keep h0 h0 [a0_, x_heap, x_heapBounds, x_heapStarts] := Keep.refl h0 _
  refine Go.st (t' := s₁.setTop (mkF m 1 #[.val (.ref a0_), .val (.int 1), .unset, .unset, .unset, .unset, .unset] [(.ref a0_)])) (fun target kt => ?_) ?_
  · refine XS.aloadN X0.here hx rfl (hb hby d4_0) rfl rfl ?_
    exact kt
  obtain ⟨T10, X10, e10, st10⟩ := getF X0 hx hZ hown (host := "") (Or.inl (hw _ tw48)) Via.refl e0 F_size (g := (mkF m 1 #[.val (.ref a0_), .val (.int 1), .unset, .unset, .unset, .unset, .unset] [(.ref a0_)])) rfl rfl (hb hby d4_1)
  refine Go.st st10 ?_
  refine Go.st (t' := T10.setTop (mkF m 5 #[.val (.ref a0_), .val (.int 1), .unset, .unset, .unset, .unset, .unset] [(.ref a0_), (.int 1)])) (fun target kt => ?_) ?_
  · refine XS.aloadN X10.here hx rfl (hb hby d4_4) rfl rfl ?_
    exact kt
  obtain ⟨T11, X11, e11, st11⟩ := getF X10 hx hZ hown (host := "") (Or.inl (hw _ tw23)) Via.refl e10 F_heap (g := (mkF m 5 #[.val (.ref a0_), .val (.int 1), .unset, .unset, .unset, .unset, .unset] [(.ref a0_), (.int 1)])) rfl rfl (hb hby d4_5)
  refine Go.st st11 ?_
  obtain ⟨cl12, Ar12, -, S12, M12, -, -⟩ := id V_heap
  refine Go.st (t' := T11.setTop (mkF m 64 #[.val (.ref a0_), .val (.int 1), .unset, .unset, .unset, .unset, .unset] [(.ref a0_)])) (fun target kt => ?_) ?_
  · refine X11.arraylength hx (by rw [e11]; exact Ar12.1) (State.isArrayOf_alike hZ.alike Ar12.2.1) (g := (mkF m 8 #[.val (.ref a0_), .val (.int 1), .unset, .unset, .unset, .unset, .unset] [(.ref x_heap), (.int 1)])) rfl rfl (hb hby d4_8) _ ?_
    rw [len_of S12 M12]
    refine XS.icmpYes X11.here hx rfl (pc0 := 9) (pc' := 63) rfl (hb hby d4_9) rfl (feq (by decide : ¬ ((1 : Int32) = (16 : Int32)))).2 (by decide) (by decide) ?_
    refine XS.aloadN X11.here hx rfl (hb hby d4_63) rfl rfl ?_
    exact kt
  obtain ⟨T13, X13, e13, st13⟩ := getF X11 hx hZ hown (host := "") (Or.inl (hw _ tw18)) Via.refl e11 F_bounds (g := (mkF m 64 #[.val (.ref a0_), .val (.int 1), .unset, .unset, .unset, .unset, .unset] [(.ref a0_)])) rfl rfl (hb hby d4_64)
  refine Go.st st13 ?_
  obtain ⟨cl14, Ar14, -, S14, M14, H14, -⟩ := id V_bounds
  have hin14 : ¬ ((1 : Int32) < 0 ∨ cl14.slots.size ≤ ((1 : Int32)).toNatClampNeg) := inb_of S14 ⟨by decide, by decide⟩
  have hat14 : cl14.slots[((1 : Int32)).toNatClampNeg]? = some (.double (FP.l2d (1 : Int64))) := H14.at hin14 rfl
  refine Go.st (t' := T13.setTop (mkF m 71 #[.val (.ref a0_), .val (.int 1), .val (.double (FP.l2d (1 : Int64))), .second, .unset, .unset, .unset] [(.ref a0_)])) (fun target kt => ?_) ?_
  · refine XS.iloadN X13.here hx rfl (hb hby d4_67) rfl ?_
    refine X13.daload hx (j := (1 : Int32)) (v := (.double (FP.l2d (1 : Int64)))) (by rw [e13]; exact Ar14.1) (State.isArrayOf_alike hZ.alike Ar14.2.1) Ar14.2.2 hin14 hat14 (g := (mkF m 68 #[.val (.ref a0_), .val (.int 1), .unset, .unset, .unset, .unset, .unset] [(.int 1), (.ref x_bounds)])) rfl rfl (hb hby d4_68) _ ?_
    refine XS.dstoreN X13.here hx rfl (hb hby d4_69) rfl (l' := #[.val (.ref a0_), .val (.int 1), .val (.double (FP.l2d (1 : Int64))), .second, .unset, .unset, .unset]) rfl ?_
    refine XS.aloadN X13.here hx rfl (hb hby d4_70) rfl rfl ?_
    exact kt
  obtain ⟨T15, X15, e15, st15⟩ := getF X13 hx hZ hown (host := "") (Or.inl (hw _ tw12)) Via.refl e13 F_starts (g := (mkF m 71 #[.val (.ref a0_), .val (.int 1), .val (.double (FP.l2d (1 : Int64))), .second, .unset, .unset, .unset] [(.ref a0_)])) rfl rfl (hb hby d4_71)
  refine Go.st st15 ?_
  obtain ⟨cl16, Ar16, -, S16, M16, H16, -⟩ := id V_starts
  have hin16 : ¬ ((1 : Int32) < 0 ∨ cl16.slots.size ≤ ((1 : Int32)).toNatClampNeg) := inb_of S16 ⟨by decide, by decide⟩
  have hat16 : cl16.slots[((1 : Int32)).toNatClampNeg]? = some (.int 0) := H16.at hin16 rfl
  refine Go.st (t' := T15.setTop (mkF m 80 #[.val (.ref a0_), .val (.int 1), .val (.double (FP.l2d (1 : Int64))), .second, .val (.int 0), .unset, .unset] [(.ref a0_), (.ref a0_)])) (fun target kt => ?_) ?_
  · refine XS.iloadN X15.here hx rfl (hb hby d4_74) rfl ?_
    refine X15.iaload hx (j := (1 : Int32)) (v := (.int 0)) (by rw [e15]; exact Ar16.1) (State.isArrayOf_alike hZ.alike Ar16.2.1) Ar16.2.2 hin16 hat16 (g := (mkF m 75 #[.val (.ref a0_), .val (.int 1), .val (.double (FP.l2d (1 : Int64))), .second, .unset, .unset, .unset] [(.int 1), (.ref x_starts)])) rfl rfl (hb hby d4_75) _ ?_
    refine XS.istore X15.here hx rfl (hb hby d4_76) rfl (l' := #[.val (.ref a0_), .val (.int 1), .val (.double (FP.l2d (1 : Int64))), .second, .val (.int 0), .unset, .unset]) rfl ?_
    refine XS.aloadN X15.here hx rfl (hb hby d4_78) rfl rfl ?_
    refine XS.dup X15.here hx rfl (hb hby d4_79) rfl rfl ?_
    exact kt
  obtain ⟨T17, X17, e17, st17⟩ := getF X15 hx hZ hown (host := "") (Or.inl (hw _ tw48)) Via.refl e15 F_size (g := (mkF m 80 #[.val (.ref a0_), .val (.int 1), .val (.double (FP.l2d (1 : Int64))), .second, .val (.int 0), .unset, .unset] [(.ref a0_), (.ref a0_)])) rfl rfl (hb hby d4_80)
  refine Go.st st17 ?_
  refine Go.st (t' := T17.setTop (mkF m 86 #[.val (.ref a0_), .val (.int 1), .val (.double (FP.l2d (1 : Int64))), .second, .val (.int 0), .unset, .unset] [(.int 2), (.ref a0_), (.int 1)])) (fun target kt => ?_) ?_
  · refine XS.dupX1 X17.here hx rfl (hb hby d4_83) rfl rfl rfl ?_
    refine XS.iconst X17.here hx rfl (hb hby d4_84) ?_
    refine XS.iadd X17.here hx rfl (hb hby d4_85) rfl ?_
    exact kt
  obtain ⟨T18, h18, X18, e18, W18, st18⟩ := putF X17 hx hZ hown (host := "") (Or.inl (hw _ tw48)) Via.refl e17 F_size E0 (Or.inl (hw _ tw49)) (hw _ tw4) (ty := .int) (by decide) rfl rfl (g := (mkF m 86 #[.val (.ref a0_), .val (.int 1), .val (.double (FP.l2d (1 : Int64))), .second, .val (.int 0), .unset, .unset] [(.int 2), (.ref a0_), (.int 1)])) rfl rfl (hb hby d4_86)
  have F19 : Fld Z h18 a0_ sq0 "size" "I" (.int 2) := F_size.same W18
  have K20 := K0.wr W18 (Or.inl mI0)
  have O21 := O0.wr W18 g_a0
  have N18 := Fr.snoc X18 N0 g_a0
  refine Go.st st18 ?_
  refine Go.st (t' := T18.setTop (mkF m 108 #[.val (.ref a0_), .val (.int 1), .val (.double (FP.l2d (1 : Int64))), .second, .val (.int 0), .val (.int 1), .val (.int 0)] [(.ref a0_), (.int 0), (.double (FP.l2d (1 : Int64)))])) (fun target kt => ?_) ?_
  · refine XS.istore X18.here hx rfl (hb hby d4_89) rfl (l' := #[.val (.ref a0_), .val (.int 1), .val (.double (FP.l2d (1 : Int64))), .second, .val (.int 0), .val (.int 1), .unset]) rfl ?_
    refine XS.iload X18.here hx rfl (hb hby d4_91) rfl ?_
    refine XS.ifNo X18.here hx rfl (hb hby d4_93) rfl ((if0 _ _).trans (tlt (by decide : (0 : Int32) < (1 : Int32))).2.2.2) ?_
    refine XS.iload X18.here hx rfl (hb hby d4_96) rfl ?_
    refine XS.iconst X18.here hx rfl (hb hby d4_98) ?_
    refine XS.isub X18.here hx rfl (hb hby d4_99) rfl ?_
    refine XS.iconst X18.here hx rfl (hb hby d4_100) ?_
    refine XS.idiv X18.here hx rfl (hb hby d4_101) rfl (by decide) ?_
    refine XS.istore X18.here hx rfl (hb hby d4_102) rfl (l' := #[.val (.ref a0_), .val (.int 1), .val (.double (FP.l2d (1 : Int64))), .second, .val (.int 0), .val (.int 1), .val (.int 0)]) rfl ?_
    refine XS.dloadN X18.here hx rfl (hb hby d4_104) rfl ?_
    refine XS.iload X18.here hx rfl (hb hby d4_105) rfl ?_
    refine XS.aloadN X18.here hx rfl (hb hby d4_107) rfl rfl ?_
    exact kt
  have c22 := F_heapBounds.other W18 (Or.inr (slot_ne (Or.inl (hw _ tw26)) (Or.inl (hw _ tw49)) (by decide) (t := (.array .double)) (t' := .int) (by decide) (by decide)))
  obtain ⟨T23, X23, e23, st23⟩ := getF X18 hx hZ hown (host := "") (Or.inl (hw _ tw25)) Via.refl e18 c22 (g := (mkF m 108 #[.val (.ref a0_), .val (.int 1), .val (.double (FP.l2d (1 : Int64))), .second, .val (.int 0), .val (.int 1), .val (.int 0)] [(.ref a0_), (.int 0), (.double (FP.l2d (1 : Int64)))])) rfl rfl (hb hby d4_108)
  refine Go.st st23 ?_
  have ne24 : a0_ ≠ x_heapBounds := Nat.ne_of_lt (Nat.lt_trans (Nat.lt_trans (Nat.lt_trans o_a0__x_starts o_x_starts_x_bounds) o_x_bounds_x_heap) o_x_heap_x_heapBounds)
  have c25 := V_heapBounds.other W18 (Ne.symm ne24)
  obtain ⟨cl26, Ar26, -, S26, M26, H26, -⟩ := id c25
  have hin26 : ¬ ((0 : Int32) < 0 ∨ cl26.slots.size ≤ ((0 : Int32)).toNatClampNeg) := inb_of S26 ⟨by decide, by decide⟩
  have hat26 : cl26.slots[((0 : Int32)).toNatClampNeg]? = some (.double (FP.l2d (1 : Int64))) := H26.at hin26 rfl
  refine Go.st (t' := T23.setTop (mkF m 115 #[.val (.ref a0_), .val (.int 1), .val (.double (FP.l2d (1 : Int64))), .second, .val (.int 0), .val (.int 1), .val (.int 0)] [(.ref a0_), (.double (FP.l2d (1 : Int64))), (.int 0), (.double (FP.l2d (1 : Int64)))])) (fun target kt => ?_) ?_
  · refine XS.iload X23.here hx rfl (hb hby d4_111) rfl ?_
    refine X23.daload hx (j := (0 : Int32)) (v := (.double (FP.l2d (1 : Int64)))) (by rw [e23]; exact Ar26.1) (State.isArrayOf_alike hZ.alike Ar26.2.1) Ar26.2.2 hin26 hat26 (g := (mkF m 113 #[.val (.ref a0_), .val (.int 1), .val (.double (FP.l2d (1 : Int64))), .second, .val (.int 0), .val (.int 1), .val (.int 0)] [(.int 0), (.ref x_heapBounds), (.int 0), (.double (FP.l2d (1 : Int64)))])) rfl rfl (hb hby d4_113) _ ?_
    refine XS.aloadN X23.here hx rfl (hb hby d4_114) rfl rfl ?_
    exact kt
  have c27 := F_heapStarts.other W18 (Or.inr (slot_ne (Or.inl (hw _ tw28)) (Or.inl (hw _ tw49)) (by decide) (t := (.array .int)) (t' := .int) (by decide) (by decide)))
  obtain ⟨T28, X28, e28, st28⟩ := getF X23 hx hZ hown (host := "") (Or.inl (hw _ tw27)) Via.refl e23 c27 (g := (mkF m 115 #[.val (.ref a0_), .val (.int 1), .val (.double (FP.l2d (1 : Int64))), .second, .val (.int 0), .val (.int 1), .val (.int 0)] [(.ref a0_), (.double (FP.l2d (1 : Int64))), (.int 0), (.double (FP.l2d (1 : Int64)))])) rfl rfl (hb hby d4_115)
  refine Go.st st28 ?_
  have ne29 : a0_ ≠ x_heapStarts := Nat.ne_of_lt (Nat.lt_trans (Nat.lt_trans (Nat.lt_trans (Nat.lt_trans o_a0__x_starts o_x_starts_x_bounds) o_x_bounds_x_heap) o_x_heap_x_heapBounds) o_x_heapBounds_x_heapStarts)
  have c30 := V_heapStarts.other W18 (Ne.symm ne29)
  obtain ⟨cl31, Ar31, -, S31, M31, H31, -⟩ := id c30
  have hin31 : ¬ ((0 : Int32) < 0 ∨ cl31.slots.size ≤ ((0 : Int32)).toNatClampNeg) := inb_of S31 ⟨by decide, by decide⟩
  have hat31 : cl31.slots[((0 : Int32)).toNatClampNeg]? = some (.int 0) := H31.at hin31 rfl
  refine Go.st (t' := T28.setTop (mkF m 121 #[.val (.ref a0_), .val (.int 1), .val (.double (FP.l2d (1 : Int64))), .second, .val (.int 0), .val (.int 1), .val (.int 0)] [(.int 0), (.double (FP.l2d (1 : Int64))), (.int 0), (.double (FP.l2d (1 : Int64)))])) (fun target kt => ?_) ?_
  · refine XS.iload X28.here hx rfl (hb hby d4_118) rfl ?_
    refine X28.iaload hx (j := (0 : Int32)) (v := (.int 0)) (by rw [e28]; exact Ar31.1) (State.isArrayOf_alike hZ.alike Ar31.2.1) Ar31.2.2 hin31 hat31 (g := (mkF m 120 #[.val (.ref a0_), .val (.int 1), .val (.double (FP.l2d (1 : Int64))), .second, .val (.int 0), .val (.int 1), .val (.int 0)] [(.int 0), (.ref x_heapStarts), (.double (FP.l2d (1 : Int64))), (.int 0), (.double (FP.l2d (1 : Int64)))])) rfl rfl (hb hby d4_120) _ ?_
    exact kt
  refine Go.cps (own_cs (W := 0) (argsL := [(.double (FP.l2d (1 : Int64))), (.int 0), (.double (FP.l2d (1 : Int64))), (.int 0)]) (rest := []) X28 hx hZ hown (hw _ tw54) (hw _ tw55) (hw _ tw56) (hw _ tw5) (by decide) e28 (rm6 l Z a0 hw []  h18 n0 (Nat.le_trans Z0 K20.1) O21  ) rfl (by rw [hml]; rfl) (lenOf pd1 rfl) rfl (Nat.le_of_eq rfl) (hb hby d4_121) rfl (by decide) (by decide) (by decide) (by decide)) ?_
  rintro T32 _ L32 X32 ⟨rfl, Nq32, eq32⟩
  have N32 := Fr.app N18 Nq32
  refine Go.st (t' := T32.setTop (mkF m 152 #[.val (.ref a0_), .val (.int 1), .val (.double (FP.l2d (1 : Int64))), .second, .val (.int 0), .val (.int 1), .val (.int 0)] [(.int 1), (.int 0), (.double (FP.l2d (1 : Int64))), (.int 1), (.ref a0_)])) (fun target kt => ?_) ?_
  · refine XS.ifNo X32.here hx rfl (hb hby d4_124) rfl ((if0 _ _).trans (teq (by decide : (0 : Int32) = (0 : Int32))).2) ?_
    refine XS.goto X32.here hx rfl (pc0 := 127) (pc' := 145) rfl (hb hby d4_127) (by decide) (by decide) ?_
    refine XS.aloadN X32.here hx rfl (hb hby d4_145) rfl rfl ?_
    refine XS.iloadN X32.here hx rfl (hb hby d4_146) rfl ?_
    refine XS.dloadN X32.here hx rfl (hb hby d4_147) rfl ?_
    refine XS.iload X32.here hx rfl (hb hby d4_148) rfl ?_
    refine XS.iload X32.here hx rfl (hb hby d4_150) rfl ?_
    exact kt
  have c33 := E0.keep K20
  have c34 := F_heap.other W18 (Or.inr (slot_ne (Or.inl (hw _ tw24)) (Or.inl (hw _ tw49)) (by decide) (t := (.array .int)) (t' := .int) (by decide) (by decide)))
  have ne35 : a0_ ≠ x_heap := Nat.ne_of_lt (Nat.lt_trans (Nat.lt_trans o_a0__x_starts o_x_starts_x_bounds) o_x_bounds_x_heap)
  have c36 := V_heap.other W18 (Ne.symm ne35)
  refine Go.cps (own_cp (W := 0) (b := a0_) (argsL := [(.int 1), (.double (FP.l2d (1 : Int64))), (.int 0), (.int 1)]) (rest := []) X32 hx hZ hown (hw _ tw50) (hw _ tw51) (own_selp (y := (⟨sq0, "put", "(IDII)V"⟩ : MethodName)) (hw _ tw4) (hw _ tw52) (hw _ tw51) (by decide)) (hw _ tw52) (hw _ tw53) (hw _ tw5) (by decide) eq32 c33 (rm5_1 l Z a0 hw [] a0_ x_heap x_heapBounds x_heapStarts k_heap k_heapBounds k_heapStarts h18 n0 (Nat.le_trans Z0 K20.1) O21  c33 c34 c22 c27 c36 c25 c30 g_heap g_heapBounds g_heapStarts (Nat.lt_trans (Nat.lt_trans o_a0__x_starts o_x_starts_x_bounds) o_x_bounds_x_heap) o_x_heap_x_heapBounds o_x_heapBounds_x_heapStarts) rfl (by rw [hml]; rfl) (lenOf pd0 rfl) rfl (Nat.le_of_eq rfl) (hb hby d4_152) rfl (by decide) (by decide) (by decide) (by decide)) ?_
  rintro T37 _ L37 X37 ⟨rfl, Nq37, Kq37, q38, q39, q40⟩
  have N37 := Fr.app N32 Nq37
  have K41 := K20.trans Kq37 (allS (Or.inl mI1) (allS (Or.inl mI2) (allS (Or.inl mI3) all0)))
  have O42 := O21.keep Kq37 (allS g_heap (allS g_heapBounds (allS g_heapStarts all0)))
  have c43 := c33.keep Kq37
  have c44 := (F_starts.other W18 (Or.inr (slot_ne (Or.inl (hw _ tw13)) (Or.inl (hw _ tw49)) (by decide) (t := (.array .int)) (t' := .int) (by decide) (by decide)))).keep Kq37 (ninS ne35 (ninS ne24 (ninS ne29 nin0)))
  have c45 := (F_nexts.other W18 (Or.inr (slot_ne (Or.inl (hw _ tw15)) (Or.inl (hw _ tw49)) (by decide) (t := (.array .int)) (t' := .int) (by decide) (by decide)))).keep Kq37 (ninS ne35 (ninS ne24 (ninS ne29 nin0)))
  have c46 := (F_ends.other W18 (Or.inr (slot_ne (Or.inl (hw _ tw17)) (Or.inl (hw _ tw49)) (by decide) (t := (.array .int)) (t' := .int) (by decide) (by decide)))).keep Kq37 (ninS ne35 (ninS ne24 (ninS ne29 nin0)))
  have c47 := (F_bounds.other W18 (Or.inr (slot_ne (Or.inl (hw _ tw19)) (Or.inl (hw _ tw49)) (by decide) (t := (.array .double)) (t' := .int) (by decide) (by decide)))).keep Kq37 (ninS ne35 (ninS ne24 (ninS ne29 nin0)))
  have c48 := (F_windows.other W18 (Or.inr (slot_ne (Or.inl (hw _ tw22)) (Or.inl (hw _ tw49)) (by decide) (t := (.array .boolean)) (t' := .int) (by decide) (by decide)))).keep Kq37 (ninS ne35 (ninS ne24 (ninS ne29 nin0)))
  have c49 := c34.keep Kq37 (ninS ne35 (ninS ne24 (ninS ne29 nin0)))
  have c50 := c22.keep Kq37 (ninS ne35 (ninS ne24 (ninS ne29 nin0)))
  have c51 := c27.keep Kq37 (ninS ne35 (ninS ne24 (ninS ne29 nin0)))
  have c52 := (F_entries.other W18 (Or.inr (slot_ne (Or.inl (hw _ tw32)) (Or.inl (hw _ tw49)) (by decide) (t := (.array .int)) (t' := .int) (by decide) (by decide)))).keep Kq37 (ninS ne35 (ninS ne24 (ninS ne29 nin0)))
  have c53 := (F_blocks.other W18 (Or.inr (slot_ne (Or.inl (hw _ tw34)) (Or.inl (hw _ tw49)) (by decide) (t := (.array .int)) (t' := .int) (by decide) (by decide)))).keep Kq37 (ninS ne35 (ninS ne24 (ninS ne29 nin0)))
  have c54 := (F_parts.other W18 (Or.inr (slot_ne (Or.inl (hw _ tw36)) (Or.inl (hw _ tw49)) (by decide) (t := (.array .double)) (t' := .int) (by decide) (by decide)))).keep Kq37 (ninS ne35 (ninS ne24 (ninS ne29 nin0)))
  have c55 := (F_count.other W18 (Or.inr (slot_ne (Or.inr (hw _ tw30)) (Or.inl (hw _ tw49)) (by decide) (t := .int) (t' := .int) (by decide) (by decide)))).keep Kq37 (ninS ne35 (ninS ne24 (ninS ne29 nin0)))
  have c56 := (F_added.other W18 (Or.inr (slot_ne (Or.inl (hw _ tw43)) (Or.inl (hw _ tw49)) (by decide) (t := .int) (t' := .int) (by decide) (by decide)))).keep Kq37 (ninS ne35 (ninS ne24 (ninS ne29 nin0)))
  have c57 := F19.keep Kq37 (ninS ne35 (ninS ne24 (ninS ne29 nin0)))
  refine Go.ret X37 (v := none) (fun _ => rfl) hlk (fun fs hr => X37.returnOut hx hret (hb hby d4_155) hr) ?_ (by decide) (by decide)
  show Q4_1 Z a0_ x_starts x_nexts x_ends x_bounds x_windows x_heap x_heapBounds x_heapStarts x_entries x_blocks x_parts k_heap k_heapBounds k_heapStarts k_starts k_bounds pc_ pa_ h0 n0 _ T37.heap _
  exact ⟨rfl, N37, K41, c43, c44, c45, c46, c47, c48, c49, c50, c51, c52, c53, c54, c55, c56, c57, q38, q39, q40⟩
theorem d3_0 : decode prog_63_method_10_code 0 = .ok (.aload_n 0, 1) := by decide +kernel
theorem d3_1 : decode prog_63_method_10_code 1 = .ok (.getfield 56, 3) := by decide +kernel
theorem tw42 : (Jvm.Cond.fieldLink "com/example/docstride/docstride/search/topk/StretchQueue" (56 : Nat) "com/example/docstride/docstride/search/topk/StretchQueue" "added" "I") ∈ tables_1 := List.mem_of_getElem? (i := 42) rfl
theorem d3_4 : decode prog_63_method_10_code 4 = .ok (.aload_n 0, 1) := by decide +kernel
theorem d3_5 : decode prog_63_method_10_code 5 = .ok (.getfield 9, 3) := by decide +kernel
theorem d3_8 : decode prog_63_method_10_code 8 = .ok (.arraylength, 1) := by decide +kernel
theorem d3_9 : decode prog_63_method_10_code 9 = .ok (.if_icmp .ne 130, 3) := by decide +kernel
theorem d3_139 : decode prog_63_method_10_code 139 = .ok (.aload_n 0, 1) := by decide +kernel
theorem d3_140 : decode prog_63_method_10_code 140 = .ok (.dup, 1) := by decide +kernel
theorem d3_141 : decode prog_63_method_10_code 141 = .ok (.getfield 56, 3) := by decide +kernel
theorem d3_144 : decode prog_63_method_10_code 144 = .ok (.dup_x1, 1) := by decide +kernel
theorem d3_145 : decode prog_63_method_10_code 145 = .ok (.iconst 1, 1) := by decide +kernel
theorem d3_146 : decode prog_63_method_10_code 146 = .ok (.iadd, 1) := by decide +kernel
theorem d3_147 : decode prog_63_method_10_code 147 = .ok (.putfield 56, 3) := by decide +kernel
theorem d3_150 : decode prog_63_method_10_code 150 = .ok (.istore 9, 2) := by decide +kernel
theorem d3_152 : decode prog_63_method_10_code 152 = .ok (.aload_n 0, 1) := by decide +kernel
theorem d3_153 : decode prog_63_method_10_code 153 = .ok (.getfield 9, 3) := by decide +kernel
theorem d3_156 : decode prog_63_method_10_code 156 = .ok (.iload 9, 2) := by decide +kernel
theorem d3_158 : decode prog_63_method_10_code 158 = .ok (.iload_n 1, 1) := by decide +kernel
theorem d3_159 : decode prog_63_method_10_code 159 = .ok (.iastore, 1) := by decide +kernel
theorem d3_160 : decode prog_63_method_10_code 160 = .ok (.aload_n 0, 1) := by decide +kernel
theorem d3_161 : decode prog_63_method_10_code 161 = .ok (.getfield 13, 3) := by decide +kernel
theorem d3_164 : decode prog_63_method_10_code 164 = .ok (.iload 9, 2) := by decide +kernel
theorem d3_166 : decode prog_63_method_10_code 166 = .ok (.iload_n 2, 1) := by decide +kernel
theorem d3_167 : decode prog_63_method_10_code 167 = .ok (.iastore, 1) := by decide +kernel
theorem d3_168 : decode prog_63_method_10_code 168 = .ok (.aload_n 0, 1) := by decide +kernel
theorem d3_169 : decode prog_63_method_10_code 169 = .ok (.getfield 16, 3) := by decide +kernel
theorem d3_172 : decode prog_63_method_10_code 172 = .ok (.iload 9, 2) := by decide +kernel
theorem d3_174 : decode prog_63_method_10_code 174 = .ok (.iload_n 3, 1) := by decide +kernel
theorem d3_175 : decode prog_63_method_10_code 175 = .ok (.iastore, 1) := by decide +kernel
theorem d3_176 : decode prog_63_method_10_code 176 = .ok (.aload_n 0, 1) := by decide +kernel
theorem d3_177 : decode prog_63_method_10_code 177 = .ok (.getfield 19, 3) := by decide +kernel
theorem d3_180 : decode prog_63_method_10_code 180 = .ok (.iload 9, 2) := by decide +kernel
theorem d3_182 : decode prog_63_method_10_code 182 = .ok (.dload 4, 2) := by decide +kernel
theorem d3_184 : decode prog_63_method_10_code 184 = .ok (.dastore, 1) := by decide +kernel
theorem d3_185 : decode prog_63_method_10_code 185 = .ok (.aload_n 0, 1) := by decide +kernel
theorem d3_186 : decode prog_63_method_10_code 186 = .ok (.getfield 23, 3) := by decide +kernel
theorem d3_189 : decode prog_63_method_10_code 189 = .ok (.iload 9, 2) := by decide +kernel
theorem d3_191 : decode prog_63_method_10_code 191 = .ok (.aload 7, 2) := by decide +kernel
theorem d3_193 : decode prog_63_method_10_code 193 = .ok (.ifnull 7, 3) := by decide +kernel
theorem d3_196 : decode prog_63_method_10_code 196 = .ok (.iconst 1, 1) := by decide +kernel
theorem d3_197 : decode prog_63_method_10_code 197 = .ok (.goto 4, 3) := by decide +kernel
theorem d3_201 : decode prog_63_method_10_code 201 = .ok (.bastore, 1) := by decide +kernel
theorem d3_202 : decode prog_63_method_10_code 202 = .ok (.iload 9, 2) := by decide +kernel
theorem d3_204 : decode prog_63_method_10_code 204 = .ok (.aload_n 0, 1) := by decide +kernel
theorem d3_205 : decode prog_63_method_10_code 205 = .ok (.getfield 36, 3) := by decide +kernel
theorem d3_208 : decode prog_63_method_10_code 208 = .ok (.imul, 1) := by decide +kernel
theorem d3_209 : decode prog_63_method_10_code 209 = .ok (.istore 10, 2) := by decide +kernel
theorem d3_211 : decode prog_63_method_10_code 211 = .ok (.iconst 0, 1) := by decide +kernel
theorem d3_212 : decode prog_63_method_10_code 212 = .ok (.istore 11, 2) := by decide +kernel
theorem d3_214 : decode prog_63_method_10_code 214 = .ok (.iload 11, 2) := by decide +kernel
theorem d3_216 : decode prog_63_method_10_code 216 = .ok (.aload_n 0, 1) := by decide +kernel
theorem d3_217 : decode prog_63_method_10_code 217 = .ok (.getfield 36, 3) := by decide +kernel
theorem d3_220 : decode prog_63_method_10_code 220 = .ok (.if_icmp .ge 39, 3) := by decide +kernel
theorem d3_223 : decode prog_63_method_10_code 223 = .ok (.aload_n 0, 1) := by decide +kernel
theorem d3_224 : decode prog_63_method_10_code 224 = .ok (.getfield 40, 3) := by decide +kernel
theorem d3_227 : decode prog_63_method_10_code 227 = .ok (.iload 10, 2) := by decide +kernel
theorem d3_229 : decode prog_63_method_10_code 229 = .ok (.iload 11, 2) := by decide +kernel
theorem d3_231 : decode prog_63_method_10_code 231 = .ok (.iadd, 1) := by decide +kernel
theorem d3_232 : decode prog_63_method_10_code 232 = .ok (.aload 6, 2) := by decide +kernel
theorem d3_234 : decode prog_63_method_10_code 234 = .ok (.iload 11, 2) := by decide +kernel
theorem d3_236 : decode prog_63_method_10_code 236 = .ok (.iaload, 1) := by decide +kernel
theorem d3_237 : decode prog_63_method_10_code 237 = .ok (.iastore, 1) := by decide +kernel
theorem d3_238 : decode prog_63_method_10_code 238 = .ok (.aload_n 0, 1) := by decide +kernel
theorem d3_239 : decode prog_63_method_10_code 239 = .ok (.getfield 46, 3) := by decide +kernel
theorem d3_242 : decode prog_63_method_10_code 242 = .ok (.iload 10, 2) := by decide +kernel
theorem d3_244 : decode prog_63_method_10_code 244 = .ok (.iload 11, 2) := by decide +kernel
theorem d3_246 : decode prog_63_method_10_code 246 = .ok (.iadd, 1) := by decide +kernel
theorem d3_247 : decode prog_63_method_10_code 247 = .ok (.aload 8, 2) := by decide +kernel
theorem d3_249 : decode prog_63_method_10_code 249 = .ok (.iload 11, 2) := by decide +kernel
theorem d3_251 : decode prog_63_method_10_code 251 = .ok (.daload, 1) := by decide +kernel
theorem d3_252 : decode prog_63_method_10_code 252 = .ok (.dastore, 1) := by decide +kernel
theorem d3_253 : decode prog_63_method_10_code 253 = .ok (.iinc 11 1, 3) := by decide +kernel
theorem d3_256 : decode prog_63_method_10_code 256 = .ok (.goto (-42), 3) := by decide +kernel
theorem d3_259 : decode prog_63_method_10_code 259 = .ok (.aload 7, 2) := by decide +kernel
theorem d3_261 : decode prog_63_method_10_code 261 = .ok (.ifnull 36, 3) := by decide +kernel
theorem d3_264 : decode prog_63_method_10_code 264 = .ok (.iconst 0, 1) := by decide +kernel
theorem d3_265 : decode prog_63_method_10_code 265 = .ok (.istore 11, 2) := by decide +kernel
theorem d3_267 : decode prog_63_method_10_code 267 = .ok (.iload 11, 2) := by decide +kernel
theorem d3_269 : decode prog_63_method_10_code 269 = .ok (.aload_n 0, 1) := by decide +kernel
theorem d3_270 : decode prog_63_method_10_code 270 = .ok (.getfield 36, 3) := by decide +kernel
theorem d3_273 : decode prog_63_method_10_code 273 = .ok (.if_icmp .ge 24, 3) := by decide +kernel
theorem d3_276 : decode prog_63_method_10_code 276 = .ok (.aload_n 0, 1) := by decide +kernel
theorem d3_277 : decode prog_63_method_10_code 277 = .ok (.getfield 43, 3) := by decide +kernel
theorem d3_280 : decode prog_63_method_10_code 280 = .ok (.iload 10, 2) := by decide +kernel
theorem d3_282 : decode prog_63_method_10_code 282 = .ok (.iload 11, 2) := by decide +kernel
theorem d3_284 : decode prog_63_method_10_code 284 = .ok (.iadd, 1) := by decide +kernel
theorem d3_285 : decode prog_63_method_10_code 285 = .ok (.aload 7, 2) := by decide +kernel
theorem d3_287 : decode prog_63_method_10_code 287 = .ok (.iload 11, 2) := by decide +kernel
theorem d3_289 : decode prog_63_method_10_code 289 = .ok (.iaload, 1) := by decide +kernel
theorem d3_290 : decode prog_63_method_10_code 290 = .ok (.iastore, 1) := by decide +kernel
theorem d3_291 : decode prog_63_method_10_code 291 = .ok (.iinc 11 1, 3) := by decide +kernel
theorem d3_294 : decode prog_63_method_10_code 294 = .ok (.goto (-27), 3) := by decide +kernel
theorem d3_297 : decode prog_63_method_10_code 297 = .ok (.aload_n 0, 1) := by decide +kernel
theorem d3_298 : decode prog_63_method_10_code 298 = .ok (.iload 9, 2) := by decide +kernel
theorem d3_300 : decode prog_63_method_10_code 300 = .ok (.invokevirtual 71, 3) := by decide +kernel
theorem tw44 : (Jvm.Cond.methodLink "com/example/docstride/docstride/search/topk/StretchQueue" (71 : Nat) ({ cls := "com/example/docstride/docstride/search/topk/StretchQueue", name := "push", desc := "(I)V" } : Jvm.MethodName)) ∈ tables_1 := List.mem_of_getElem? (i := 44) rfl
theorem tw47 : (Jvm.Cond.code ({ cls := "com/example/docstride/docstride/search/topk/StretchQueue", name := "push", desc := "(I)V" } : Jvm.MethodName) prog_63_method_12_code (7 : Nat) (Option.none : Option Jvm.ClassFile.FieldType)) ∈ tables_1 := List.mem_of_getElem? (i := 47) rfl
theorem pd2 : parseMethodDescriptor "(I)V" = some ⟨[.int], none⟩ := by decide +kernel
theorem tw45 : (Jvm.Cond.instanceMethod ({ cls := "com/example/docstride/docstride/search/topk/StretchQueue", name := "push", desc := "(I)V" } : Jvm.MethodName)) ∈ tables_1 := List.mem_of_getElem? (i := 45) rfl
theorem tw46 : (Jvm.Cond.privateMethod ({ cls := "com/example/docstride/docstride/search/topk/StretchQueue", name := "push", desc := "(I)V" } : Jvm.MethodName)) ∈ tables_1 := List.mem_of_getElem? (i := 46) rfl
theorem d3_303 : decode prog_63_method_10_code 303 = .ok (.return_, 1) := by decide +kernel
theorem ef3_1_0 (m : MethodId) (x0 : Addr) (x5 : Addr) (x6 : Addr) (x7 : Addr) : entryFrame m #[(.ref x0), (.int 0), (.int 0), (.int 0), (.double (FP.l2d (1 : Int64))), (.ref x5), (.ref x6), (.ref x7)] 12 = mkF m 0 #[.val (.ref x0), .val (.int 0), .val (.int 0), .val (.int 0), .val (.double (FP.l2d (1 : Int64))), .second, .val (.ref x5), .val (.ref x6), .val (.ref x7), .unset, .unset, .unset] [] := by first | (simp [entryFrame, mkF, argsToLocals, Value.category]; done) | rfl
def Q3_1_0 (Z : State) (a0_ : Addr) (we_ : Addr) (wb_ : Addr) (wp_ : Addr) (x_starts : Addr) (x_nexts : Addr) (x_ends : Addr) (x_bounds : Addr) (x_windows : Addr) (x_heap : Addr) (x_heapBounds : Addr) (x_heapStarts : Addr) (x_entries : Addr) (x_blocks : Addr) (x_parts : Addr) (k_starts : ClassId) (k_nexts : ClassId) (k_ends : ClassId) (k_bounds : ClassId) (k_windows : ClassId) (k_heap : ClassId) (k_heapBounds : ClassId) (k_heapStarts : ClassId) (k_entries : ClassId) (k_blocks : ClassId) (k_parts : ClassId) (e0_ : Int32) (e1_ : Int32) (b0_ : Int32) (b1_ : Int32) (d0_ : UInt64) (d1_ : UInt64) (ke_ : ClassId) (kp_ : ClassId) (kb_ : ClassId) (h0 : Heap) (n0 : Nat) (v : Option Value) (h : Heap) (L : List Loc) : Prop := v = none ∧ Fr n0 L ∧ Keep h0 h [a0_, x_starts, x_nexts, x_ends, x_bounds, x_windows, x_heap, x_heapBounds, x_heapStarts, x_entries, x_blocks, x_parts] ∧ Exa Z h a0_ sq0 ∧ Fld Z h a0_ sq0 "count" "I" (.int 1) ∧ Fld Z h a0_ sq0 "added" "I" (.int 1) ∧ Fld Z h a0_ sq0 "size" "I" (.int 1) ∧ Fld Z h a0_ sq0 "starts" "[I" (.ref x_starts) ∧ Arv Z h x_starts k_starts .int (16 : Int32) [(.int 0), (.int 0), (.int 0), (.int 0)] (.int 0) ∧ Fld Z h a0_ sq0 "nexts" "[I" (.ref x_nexts) ∧ Arv Z h x_nexts k_nexts .int (16 : Int32) [(.int 0), (.int 0), (.int 0), (.int 0)] (.int 0) ∧ Fld Z h a0_ sq0 "ends" "[I" (.ref x_ends) ∧ Arv Z h x_ends k_ends .int (16 : Int32) [(.int 0), (.int 0), (.int 0), (.int 0)] (.int 0) ∧ Fld Z h a0_ sq0 "bounds" "[D" (.ref x_bounds) ∧ Arv Z h x_bounds k_bounds .double (16 : Int32) [(.double (FP.l2d (1 : Int64))), (.double (FP.l2d 0)), (.double (FP.l2d 0)), (.double (FP.l2d 0))] (.double (FP.l2d 0)) ∧ Fld Z h a0_ sq0 "windows" "[Z" (.ref x_windows) ∧ Arv Z h x_windows k_windows .boolean (16 : Int32) [(.int 1), (.int 0), (.int 0), (.int 0)] (.int 0) ∧ Fld Z h a0_ sq0 "heap" "[I" (.ref x_heap) ∧ Arv Z h x_heap k_heap .int (16 : Int32) [(.int 0), (.int 0), (.int 0), (.int 0)] (.int 0) ∧ Fld Z h a0_ sq0 "heapBounds" "[D" (.ref x_heapBounds) ∧ Arv Z h x_heapBounds k_heapBounds .double (16 : Int32) [(.double (FP.l2d (1 : Int64))), (.double (FP.l2d 0)), (.double (FP.l2d 0)), (.double (FP.l2d 0))] (.double (FP.l2d 0)) ∧ Fld Z h a0_ sq0 "heapStarts" "[I" (.ref x_heapStarts) ∧ Arv Z h x_heapStarts k_heapStarts .int (16 : Int32) [(.int 0), (.int 0), (.int 0), (.int 0)] (.int 0) ∧ Fld Z h a0_ sq0 "entries" "[I" (.ref x_entries) ∧ Arv Z h x_entries k_entries .int (16 : Int32) [(.int e0_), (.int 0), (.int 0), (.int 0)] (.int 0) ∧ Fld Z h a0_ sq0 "blocks" "[I" (.ref x_blocks) ∧ Arv Z h x_blocks k_blocks .int (16 : Int32) [(.int b0_), (.int 0), (.int 0), (.int 0)] (.int 0) ∧ Fld Z h a0_ sq0 "parts" "[D" (.ref x_parts) ∧ Arv Z h x_parts k_parts .double (16 : Int32) [(.double d0_), (.double (FP.l2d 0)), (.double (FP.l2d 0)), (.double (FP.l2d 0))] (.double (FP.l2d 0))
theorem rm3_1_0 (l : Launch) (Z : State) (a0 : Array Value) (hw : ∀ d ∈ tables_1, d.before a0 Z = true) (ws : List Jvm.Cond) (a0_ : Addr) (we_ : Addr) (wb_ : Addr) (wp_ : Addr) (x_starts : Addr) (x_nexts : Addr) (x_ends : Addr) (x_bounds : Addr) (x_windows : Addr) (x_heap : Addr) (x_heapBounds : Addr) (x_heapStarts : Addr) (x_entries : Addr) (x_blocks : Addr) (x_parts : Addr) (k_starts : ClassId) (k_nexts : ClassId) (k_ends : ClassId) (k_bounds : ClassId) (k_windows : ClassId) (k_heap : ClassId) (k_heapBounds : ClassId) (k_heapStarts : ClassId) (k_entries : ClassId) (k_blocks : ClassId) (k_parts : ClassId) (e0_ : Int32) (e1_ : Int32) (b0_ : Int32) (b1_ : Int32) (d0_ : UInt64) (d1_ : UInt64) (ke_ : ClassId) (kp_ : ClassId) (kb_ : ClassId) (h0 : Heap) (n0 : Nat) (Z0 : n0 ≤ h0.size) (O0 : Old Z n0 h0) (E0 : Exa Z h0 a0_ sq0) (F_count : Fld Z h0 a0_ sq0 "count" "I" (.int 1)) (F_added : Fld Z h0 a0_ sq0 "added" "I" (.int 0)) (F_size : Fld Z h0 a0_ sq0 "size" "I" (.int 0)) (F_starts : Fld Z h0 a0_ sq0 "starts" "[I" (.ref x_starts)) (V_starts : Arv Z h0 x_starts k_starts .int (16 : Int32) [(.int 0), (.int 0), (.int 0), (.int 0)] (.int 0)) (F_nexts : Fld Z h0 a0_ sq0 "nexts" "[I" (.ref x_nexts)) (V_nexts : Arv Z h0 x_nexts k_nexts .int (16 : Int32) [(.int 0), (.int 0), (.int 0), (.int 0)] (.int 0)) (F_ends : Fld Z h0 a0_ sq0 "ends" "[I" (.ref x_ends)) (V_ends : Arv Z h0 x_ends k_ends .int (16 : Int32) [(.int 0), (.int 0), (.int 0), (.int 0)] (.int 0)) (F_bounds : Fld Z h0 a0_ sq0 "bounds" "[D" (.ref x_bounds)) (V_bounds : Arv Z h0 x_bounds k_bounds .double (16 : Int32) [(.double (FP.l2d 0)), (.double (FP.l2d 0)), (.double (FP.l2d 0)), (.double (FP.l2d 0))] (.double (FP.l2d 0))) (F_windows : Fld Z h0 a0_ sq0 "windows" "[Z" (.ref x_windows)) (V_windows : Arv Z h0 x_windows k_windows .boolean (16 : Int32) [(.int 0), (.int 0), (.int 0), (.int 0)] (.int 0)) (F_heap : Fld Z h0 a0_ sq0 "heap" "[I" (.ref x_heap)) (V_heap : Arv Z h0 x_heap k_heap .int (16 : Int32) [(.int 0), (.int 0), (.int 0), (.int 0)] (.int 0)) (F_heapBounds : Fld Z h0 a0_ sq0 "heapBounds" "[D" (.ref x_heapBounds)) (V_heapBounds : Arv Z h0 x_heapBounds k_heapBounds .double (16 : Int32) [(.double (FP.l2d 0)), (.double (FP.l2d 0)), (.double (FP.l2d 0)), (.double (FP.l2d 0))] (.double (FP.l2d 0))) (F_heapStarts : Fld Z h0 a0_ sq0 "heapStarts" "[I" (.ref x_heapStarts)) (V_heapStarts : Arv Z h0 x_heapStarts k_heapStarts .int (16 : Int32) [(.int 0), (.int 0), (.int 0), (.int 0)] (.int 0)) (F_entries : Fld Z h0 a0_ sq0 "entries" "[I" (.ref x_entries)) (V_entries : Arv Z h0 x_entries k_entries .int (16 : Int32) [(.int 0), (.int 0), (.int 0), (.int 0)] (.int 0)) (F_blocks : Fld Z h0 a0_ sq0 "blocks" "[I" (.ref x_blocks)) (V_blocks : Arv Z h0 x_blocks k_blocks .int (16 : Int32) [(.int 0), (.int 0), (.int 0), (.int 0)] (.int 0)) (F_parts : Fld Z h0 a0_ sq0 "parts" "[D" (.ref x_parts)) (V_parts : Arv Z h0 x_parts k_parts .double (16 : Int32) [(.double (FP.l2d 0)), (.double (FP.l2d 0)), (.double (FP.l2d 0)), (.double (FP.l2d 0))] (.double (FP.l2d 0))) (V_we : Arv Z h0 we_ ke_ .int (2 : Int32) [(.int e0_), (.int e1_)] (.int 0)) (V_wb : Arv Z h0 wb_ kb_ .int (2 : Int32) [(.int b0_), (.int b1_)] (.int 0)) (V_wp : Arv Z h0 wp_ kp_ .double (2 : Int32) [(.double d0_), (.double d1_)] (.double (FP.l2d 0))) (g_a0 : n0 ≤ a0_) (g_starts : n0 ≤ x_starts) (g_nexts : n0 ≤ x_nexts) (g_ends : n0 ≤ x_ends) (g_bounds : n0 ≤ x_bounds) (g_windows : n0 ≤ x_windows) (g_heap : n0 ≤ x_heap) (g_heapBounds : n0 ≤ x_heapBounds) (g_heapStarts : n0 ≤ x_heapStarts) (g_entries : n0 ≤ x_entries) (g_blocks : n0 ≤ x_blocks) (g_parts : n0 ≤ x_parts) (o_we__wb_ : we_ < wb_) (o_wb__wp_ : wb_ < wp_) (o_wp__a0_ : wp_ < a0_) (o_a0__x_starts : a0_ < x_starts) (o_x_starts_x_nexts : x_starts < x_nexts) (o_x_nexts_x_ends : x_nexts < x_ends) (o_x_ends_x_bounds : x_ends < x_bounds) (o_x_bounds_x_windows : x_bounds < x_windows) (o_x_windows_x_heap : x_windows < x_heap) (o_x_heap_x_heapBounds : x_heap < x_heapBounds) (o_x_heapBounds_x_heapStarts : x_heapBounds < x_heapStarts) (o_x_heapStarts_x_entries : x_heapStarts < x_entries) (o_x_entries_x_blocks : x_entries < x_blocks) (o_x_blocks_x_parts : x_blocks < x_parts) :
    Met l Z ws (⟨sq0, "add", "(IIID[I[I[D)V"⟩ : MethodName) prog_63_method_10_code 12 none (Rm 2 0 0 35) #[(.ref a0_), (.int 0), (.int 0), (.int 0), (.double (FP.l2d (1 : Int64))), (.ref we_), (.ref wb_), (.ref wp_)] h0 (Q3_1_0 Z a0_ we_ wb_ wp_ x_starts x_nexts x_ends x_bounds x_windows x_heap x_heapBounds x_heapStarts x_entries x_blocks x_parts k_starts k_nexts k_ends k_bounds k_windows k_heap k_heapBounds k_heapStarts k_entries k_blocks k_parts e0_ e1_ b0_ b1_ d0_ d1_ ke_ kp_ kb_ h0 n0) := by
  refine Met.enter (L0 := #[.val (.ref a0_), .val (.int 0), .val (.int 0), .val (.int 0), .val (.double (FP.l2d (1 : Int64))), .second, .val (.ref we_), .val (.ref wb_), .val (.ref wp_), .unset, .unset, .unset]) (plainFor_of_name pn56) (fun m => ef3_1_0 m a0_ we_ wb_ wp_) ?_
  intro p e s m below meth c s₁ hx hby hml hown hnm hret hlk hZ X0 e0
  have N0 := Fr.nil n0
  have K0 : Keep h0 h0 [a0_, x_starts, x_nexts, x_ends, x_bounds, x_windows, x_heap, x_heapBounds, x_heapStarts, x_entries, x_blocks, x_parts] := Keep.refl h0 _
  refine Go.st (t' := s₁.setTop (mkF m 1 #[.val (.ref a0_), .val (.int 0), .val (.int 0), .val (.int 0), .val (.double (FP.l2d (1 : Int64))), .second, .val (.ref we_), .val (.ref wb_), .val (.ref wp_), .unset, .unset, .unset] [(.ref a0_)])) (fun target kt => ?_) ?_
  · refine XS.aloadN X0.here hx rfl (hb hby d3_0) rfl rfl ?_
    exact kt
  obtain ⟨T10, X10, e10, st10⟩ := getF X0 hx hZ hown (host := "") (Or.inl (hw _ tw42)) Via.refl e0 F_added (g := (mkF m 1 #[.val (.ref a0_), .val (.int 0), .val (.int 0), .val (.int 0), .val (.double (FP.l2d (1 : Int64))), .second, .val (.ref we_), .val (.ref wb_), .val (.ref wp_), .unset, .unset, .unset] [(.ref a0_)])) rfl rfl (hb hby d3_1)
  refine Go.st st10 ?_
  refine Go.st (t' := T10.setTop (mkF m 5 #[.val (.ref a0_), .val (.int 0), .val (.int 0), .val (.int 0), .val (.double (FP.l2d (1 : Int64))), .second, .val (.ref we_), .val (.ref wb_), .val (.ref wp_), .unset, .unset, .unset] [(.ref a0_), (.int 0)])) (fun target kt => ?_) ?_
  · refine XS.aloadN X10.here hx rfl (hb hby d3_4) rfl rfl ?_
    exact kt
  obtain ⟨T11, X11, e11, st11⟩ := getF X10 hx hZ hown (host := "") (Or.inl (hw _ tw12)) Via.refl e10 F_starts (g := (mkF m 5 #[.val (.ref a0_), .val (.int 0), .val (.int 0), .val (.int 0), .val (.double (FP.l2d (1 : Int64))), .second, .val (.ref we_), .val (.ref wb_), .val (.ref wp_), .unset, .unset, .unset] [(.ref a0_), (.int 0)])) rfl rfl (hb hby d3_5)
  refine Go.st st11 ?_
  obtain ⟨cl12, Ar12, -, S12, M12, -, -⟩ := id V_starts
  refine Go.st (t' := T11.setTop (mkF m 141 #[.val (.ref a0_), .val (.int 0), .val (.int 0), .val (.int 0), .val (.double (FP.l2d (1 : Int64))), .second, .val (.ref we_), .val (.ref wb_), .val (.ref wp_), .unset, .unset, .unset] [(.ref a0_), (.ref a0_)])) (fun target kt => ?_) ?_
  · refine X11.arraylength hx (by rw [e11]; exact Ar12.1) (State.isArrayOf_alike hZ.alike Ar12.2.1) (g := (mkF m 8 #[.val (.ref a0_), .val (.int 0), .val (.int 0), .val (.int 0), .val (.double (FP.l2d (1 : Int64))), .second, .val (.ref we_), .val (.ref wb_), .val (.ref wp_), .unset, .unset, .unset] [(.ref x_starts), (.int 0)])) rfl rfl (hb hby d3_8) _ ?_
    rw [len_of S12 M12]
    refine XS.icmpYes X11.here hx rfl (pc0 := 9) (pc' := 139) rfl (hb hby d3_9) rfl (feq (by decide : ¬ ((0 : Int32) = (16 : Int32)))).2 (by decide) (by decide) ?_
    refine XS.aloadN X11.here hx rfl (hb hby d3_139) rfl rfl ?_
    refine XS.dup X11.here hx rfl (hb hby d3_140) rfl rfl ?_
    exact kt
  obtain ⟨T13, X13, e13, st13⟩ := getF X11 hx hZ hown (host := "") (Or.inl (hw _ tw42)) Via.refl e11 F_added (g := (mkF m 141 #[.val (.ref a0_), .val (.int 0), .val (.int 0), .val (.int 0), .val (.double (FP.l2d (1 : Int64))), .second, .val (.ref we_), .val (.ref wb_), .val (.ref wp_), .unset, .unset, .unset] [(.ref a0_), (.ref a0_)])) rfl rfl (hb hby d3_141)
  refine Go.st st13 ?_
  refine Go.st (t' := T13.setTop (mkF m 147 #[.val (.ref a0_), .val (.int 0), .val (.int 0), .val (.int 0), .val (.double (FP.l2d (1 : Int64))), .second, .val (.ref we_), .val (.ref wb_), .val (.ref wp_), .unset, .unset, .unset] [(.int 1), (.ref a0_), (.int 0)])) (fun target kt => ?_) ?_
  · refine XS.dupX1 X13.here hx rfl (hb hby d3_144) rfl rfl rfl ?_
    refine XS.iconst X13.here hx rfl (hb hby d3_145) ?_
    refine XS.iadd X13.here hx rfl (hb hby d3_146) rfl ?_
    exact kt
  obtain ⟨T14, h14, X14, e14, W14, st14⟩ := putF X13 hx hZ hown (host := "") (Or.inl (hw _ tw42)) Via.refl e13 F_added E0 (Or.inl (hw _ tw43)) (hw _ tw4) (ty := .int) (by decide) rfl rfl (g := (mkF m 147 #[.val (.ref a0_), .val (.int 0), .val (.int 0), .val (.int 0), .val (.double (FP.l2d (1 : Int64))), .second, .val (.ref we_), .val (.ref wb_), .val (.ref wp_), .unset, .unset, .unset] [(.int 1), (.ref a0_), (.int 0)])) rfl rfl (hb hby d3_147)
  have F15 : Fld Z h14 a0_ sq0 "added" "I" (.int 1) := F_added.same W14
  have K16 := K0.wr W14 (Or.inl mI0)
  have O17 := O0.wr W14 g_a0
  have N14 := Fr.snoc X14 N0 g_a0
  refine Go.st st14 ?_
  refine Go.st (t' := T14.setTop (mkF m 153 #[.val (.ref a0_), .val (.int 0), .val (.int 0), .val (.int 0), .val (.double (FP.l2d (1 : Int64))), .second, .val (.ref we_), .val (.ref wb_), .val (.ref wp_), .val (.int 0), .unset, .unset] [(.ref a0_)])) (fun target kt => ?_) ?_
  · refine XS.istore X14.here hx rfl (hb hby d3_150) rfl (l' := #[.val (.ref a0_), .val (.int 0), .val (.int 0), .val (.int 0), .val (.double (FP.l2d (1 : Int64))), .second, .val (.ref we_), .val (.ref wb_), .val (.ref wp_), .val (.int 0), .unset, .unset]) rfl ?_
    refine XS.aloadN X14.here hx rfl (hb hby d3_152) rfl rfl ?_
    exact kt
  have c18 := F_starts.other W14 (Or.inr (slot_ne (Or.inl (hw _ tw13)) (Or.inl (hw _ tw43)) (by decide) (t := (.array .int)) (t' := .int) (by decide) (by decide)))
  obtain ⟨T19, X19, e19, st19⟩ := getF X14 hx hZ hown (host := "") (Or.inl (hw _ tw12)) Via.refl e14 c18 (g := (mkF m 153 #[.val (.ref a0_), .val (.int 0), .val (.int 0), .val (.int 0), .val (.double (FP.l2d (1 : Int64))), .second, .val (.ref we_), .val (.ref wb_), .val (.ref wp_), .val (.int 0), .unset, .unset] [(.ref a0_)])) rfl rfl (hb hby d3_153)
  refine Go.st st19 ?_
  refine Go.st (t' := T19.setTop (mkF m 159 #[.val (.ref a0_), .val (.int 0), .val (.int 0), .val (.int 0), .val (.double (FP.l2d (1 : Int64))), .second, .val (.ref we_), .val (.ref wb_), .val (.ref wp_), .val (.int 0), .unset, .unset] [(.int 0), (.int 0), (.ref x_starts)])) (fun target kt => ?_) ?_
  · refine XS.iload X19.here hx rfl (hb hby d3_156) rfl ?_
    refine XS.iloadN X19.here hx rfl (hb hby d3_158) rfl ?_
    exact kt
  have ne20 : a0_ ≠ x_starts := Nat.ne_of_lt o_a0__x_starts
  have c21 := V_starts.other W14 (Ne.symm ne20)
  obtain ⟨cl22, Ar22, q22, S22, M22, H22, G22⟩ := id c21
  have hin22 : ¬ ((0 : Int32) < 0 ∨ cl22.slots.size ≤ ((0 : Int32)).toNatClampNeg) := inb_of S22 ⟨by decide, by decide⟩
  obtain ⟨T22, h22, X22, e22, W22, st22⟩ := stI X19 hx hZ e19 Ar22 (j := (0 : Int32)) hin22 (g := (mkF m 159 #[.val (.ref a0_), .val (.int 0), .val (.int 0), .val (.int 0), .val (.double (FP.l2d (1 : Int64))), .second, .val (.ref we_), .val (.ref wb_), .val (.ref wp_), .val (.int 0), .unset, .unset] [(.int 0), (.int 0), (.ref x_starts)])) rfl rfl (hb hby d3_159)
  have V23 : Arv Z h22 x_starts k_starts .int (16 : Int32) [(.int 0), (.int 0), (.int 0), (.int 0)] (.int 0) := Arv.set Ar22 q22 S22 M22 H22 G22 rfl W22 0 rfl (Nat.le_of_ble_eq_true rfl)
  have K24 := K16.wr W22 (Or.inl mI1)
  have O25 := O17.wr W22 g_starts
  have N22 := Fr.snoc X22 N14 g_starts
  refine Go.st st22 ?_
  refine Go.st (t' := T22.setTop (mkF m 161 #[.val (.ref a0_), .val (.int 0), .val (.int 0), .val (.int 0), .val (.double (FP.l2d (1 : Int64))), .second, .val (.ref we_), .val (.ref wb_), .val (.ref wp_), .val (.int 0), .unset, .unset] [(.ref a0_)])) (fun target kt => ?_) ?_
  · refine XS.aloadN X22.here hx rfl (hb hby d3_160) rfl rfl ?_
    exact kt
  have c26 := (F_nexts.other W14 (Or.inr (slot_ne (Or.inl (hw _ tw15)) (Or.inl (hw _ tw43)) (by decide) (t := (.array .int)) (t' := .int) (by decide) (by decide)))).other W22 (Or.inl ne20)
  obtain ⟨T27, X27, e27, st27⟩ := getF X22 hx hZ hown (host := "") (Or.inl (hw _ tw14)) Via.refl e22 c26 (g := (mkF m 161 #[.val (.ref a0_), .val (.int 0), .val (.int 0), .val (.int 0), .val (.double (FP.l2d (1 : Int64))), .second, .val (.ref we_), .val (.ref wb_), .val (.ref wp_), .val (.int 0), .unset, .unset] [(.ref a0_)])) rfl rfl (hb hby d3_161)
  refine Go.st st27 ?_
  refine Go.st (t' := T27.setTop (mkF m 167 #[.val (.ref a0_), .val (.int 0), .val (.int 0), .val (.int 0), .val (.double (FP.l2d (1 : Int64))), .second, .val (.ref we_), .val (.ref wb_), .val (.ref wp_), .val (.int 0), .unset, .unset] [(.int 0), (.int 0), (.ref x_nexts)])) (fun target kt => ?_) ?_
  · refine XS.iload X27.here hx rfl (hb hby d3_164) rfl ?_
    refine XS.iloadN X27.here hx rfl (hb hby d3_166) rfl ?_
    exact kt
  have ne28 : a0_ ≠ x_nexts := Nat.ne_of_lt (Nat.lt_trans o_a0__x_starts o_x_starts_x_nexts)
  have ne29 : x_starts ≠ x_nexts := Nat.ne_of_lt o_x_starts_x_nexts
  have c30 := (V_nexts.other W14 (Ne.symm ne28)).other W22 (Ne.symm ne29)
  obtain ⟨cl31, Ar31, q31, S31, M31, H31, G31⟩ := id c30
  have hin31 : ¬ ((0 : Int32) < 0 ∨ cl31.slots.size ≤ ((0 : Int32)).toNatClampNeg) := inb_of S31 ⟨by decide, by decide⟩
  obtain ⟨T31, h31, X31, e31, W31, st31⟩ := stI X27 hx hZ e27 Ar31 (j := (0 : Int32)) hin31 (g := (mkF m 167 #[.val (.ref a0_), .val (.int 0), .val (.int 0), .val (.int 0), .val (.double (FP.l2d (1 : Int64))), .second, .val (.ref we_), .val (.ref wb_), .val (.ref wp_), .val (.int 0), .unset, .unset] [(.int 0), (.int 0), (.ref x_nexts)])) rfl rfl (hb hby d3_167)
  have V32 : Arv Z h31 x_nexts k_nexts .int (16 : Int32) [(.int 0), (.int 0), (.int 0), (.int 0)] (.int 0) := Arv.set Ar31 q31 S31 M31 H31 G31 rfl W31 0 rfl (Nat.le_of_ble_eq_true rfl)
  have K33 := K24.wr W31 (Or.inl mI2)
  have O34 := O25.wr W31 g_nexts
  have N31 := Fr.snoc X31 N22 g_nexts
  refine Go.st st31 ?_
  refine Go.st (t' := T31.setTop (mkF m 169 #[.val (.ref a0_), .val (.int 0), .val (.int 0), .val (.int 0), .val (.double (FP.l2d (1 : Int64))), .second, .val (.ref we_), .val (.ref wb_), .val (.ref wp_), .val (.int 0), .unset, .unset] [(.ref a0_)])) (fun target kt => ?_) ?_
  · refine XS.aloadN X31.here hx rfl (hb hby d3_168) rfl rfl ?_
    exact kt
  have c35 := ((F_ends.other W14 (Or.inr (slot_ne (Or.inl (hw _ tw17)) (Or.inl (hw _ tw43)) (by decide) (t := (.array .int)) (t' := .int) (by decide) (by decide)))).other W22 (Or.inl ne20)).other W31 (Or.inl ne28)
  obtain ⟨T36, X36, e36, st36⟩ := getF X31 hx hZ hown (host := "") (Or.inl (hw _ tw16)) Via.refl e31 c35 (g := (mkF m 169 #[.val (.ref a0_), .val (.int 0), .val (.int 0), .val (.int 0), .val (.double (FP.l2d (1 : Int64))), .second, .val (.ref we_), .val (.ref wb_), .val (.ref wp_), .val (.int 0), .unset, .unset] [(.ref a0_)])) rfl rfl (hb hby d3_169)
  refine Go.st st36 ?_
  refine Go.st (t' := T36.setTop (mkF m 175 #[.val (.ref a0_), .val (.int 0), .val (.int 0), .val (.int 0), .val (.double (FP.l2d (1 : Int64))), .second, .val (.ref we_), .val (.ref wb_), .val (.ref wp_), .val (.int 0), .unset, .unset] [(.int 0), (.int 0), (.ref x_ends)])) (fun target kt => ?_) ?_
  · refine XS.iload X36.here hx rfl (hb hby d3_172) rfl ?_
    refine XS.iloadN X36.here hx rfl (hb hby d3_174) rfl ?_
    exact kt
  have ne37 : a0_ ≠ x_ends := Nat.ne_of_lt (Nat.lt_trans (Nat.lt_trans o_a0__x_starts o_x_starts_x_nexts) o_x_nexts_x_ends)
  have ne38 : x_starts ≠ x_ends := Nat.ne_of_lt (Nat.lt_trans o_x_starts_x_nexts o_x_nexts_x_ends)
  have ne39 : x_nexts ≠ x_ends := Nat.ne_of_lt o_x_nexts_x_ends
  have c40 := ((V_ends.other W14 (Ne.symm ne37)).other W22 (Ne.symm ne38)).other W31 (Ne.symm ne39)
  obtain ⟨cl41, Ar41, q41, S41, M41, H41, G41⟩ := id c40
  have hin41 : ¬ ((0 : Int32) < 0 ∨ cl41.slots.size ≤ ((0 : Int32)).toNatClampNeg) := inb_of S41 ⟨by decide, by decide⟩
  obtain ⟨T41, h41, X41, e41, W41, st41⟩ := stI X36 hx hZ e36 Ar41 (j := (0 : Int32)) hin41 (g := (mkF m 175 #[.val (.ref a0_), .val (.int 0), .val (.int 0), .val (.int 0), .val (.double (FP.l2d (1 : Int64))), .second, .val (.ref we_), .val (.ref wb_), .val (.ref wp_), .val (.int 0), .unset, .unset] [(.int 0), (.int 0), (.ref x_ends)])) rfl rfl (hb hby d3_175)
  have V42 : Arv Z h41 x_ends k_ends .int (16 : Int32) [(.int 0), (.int 0), (.int 0), (.int 0)] (.int 0) := Arv.set Ar41 q41 S41 M41 H41 G41 rfl W41 0 rfl (Nat.le_of_ble_eq_true rfl)
  have K43 := K33.wr W41 (Or.inl mI3)
  have O44 := O34.wr W41 g_ends
  have N41 := Fr.snoc X41 N31 g_ends
  refine Go.st st41 ?_
  refine Go.st (t' := T41.setTop (mkF m 177 #[.val (.ref a0_), .val (.int 0), .val (.int 0), .val (.int 0), .val (.double (FP.l2d (1 : Int64))), .second, .val (.ref we_), .val (.ref wb_), .val (.ref wp_), .val (.int 0), .unset, .unset] [(.ref a0_)])) (fun target kt => ?_) ?_
  · refine XS.aloadN X41.here hx rfl (hb hby d3_176) rfl rfl ?_
    exact kt
  have c45 := (((F_bounds.other W14 (Or.inr (slot_ne (Or.inl (hw _ tw19)) (Or.inl (hw _ tw43)) (by decide) (t := (.array .double)) (t' := .int) (by decide) (by decide)))).other W22 (Or.inl ne20)).other W31 (Or.inl ne28)).other W41 (Or.inl ne37)
  obtain ⟨T46, X46, e46, st46⟩ := getF X41 hx hZ hown (host := "") (Or.inl (hw _ tw18)) Via.refl e41 c45 (g := (mkF m 177 #[.val (.ref a0_), .val (.int 0), .val (.int 0), .val (.int 0), .val (.double (FP.l2d (1 : Int64))), .second, .val (.ref we_), .val (.ref wb_), .val (.ref wp_), .val (.int 0), .unset, .unset] [(.ref a0_)])) rfl rfl (hb hby d3_177)
  refine Go.st st46 ?_
  refine Go.st (t' := T46.setTop (mkF m 184 #[.val (.ref a0_), .val (.int 0), .val (.int 0), .val (.int 0), .val (.double (FP.l2d (1 : Int64))), .second, .val (.ref we_), .val (.ref wb_), .val (.ref wp_), .val (.int 0), .unset, .unset] [(.double (FP.l2d (1 : Int64))), (.int 0), (.ref x_bounds)])) (fun target kt => ?_) ?_
  · refine XS.iload X46.here hx rfl (hb hby d3_180) rfl ?_
    refine XS.dload X46.here hx rfl (hb hby d3_182) rfl ?_
    exact kt
  have ne47 : a0_ ≠ x_bounds := Nat.ne_of_lt (Nat.lt_trans (Nat.lt_trans (Nat.lt_trans o_a0__x_starts o_x_starts_x_nexts) o_x_nexts_x_ends) o_x_ends_x_bounds)
  have ne48 : x_starts ≠ x_bounds := Nat.ne_of_lt (Nat.lt_trans (Nat.lt_trans o_x_starts_x_nexts o_x_nexts_x_ends) o_x_ends_x_bounds)
  have ne49 : x_nexts ≠ x_bounds := Nat.ne_of_lt (Nat.lt_trans o_x_nexts_x_ends o_x_ends_x_bounds)
  have ne50 : x_ends ≠ x_bounds := Nat.ne_of_lt o_x_ends_x_bounds
  have c51 := (((V_bounds.other W14 (Ne.symm ne47)).other W22 (Ne.symm ne48)).other W31 (Ne.symm ne49)).other W41 (Ne.symm ne50)
  obtain ⟨cl52, Ar52, q52, S52, M52, H52, G52⟩ := id c51
  have hin52 : ¬ ((0 : Int32) < 0 ∨ cl52.slots.size ≤ ((0 : Int32)).toNatClampNeg) := inb_of S52 ⟨by decide, by decide⟩
  obtain ⟨T52, h52, X52, e52, W52, st52⟩ := stD X46 hx hZ e46 Ar52 (j := (0 : Int32)) hin52 (g := (mkF m 184 #[.val (.ref a0_), .val (.int 0), .val (.int 0), .val (.int 0), .val (.double (FP.l2d (1 : Int64))), .second, .val (.ref we_), .val (.ref wb_), .val (.ref wp_), .val (.int 0), .unset, .unset] [(.double (FP.l2d (1 : Int64))), (.int 0), (.ref x_bounds)])) rfl rfl (hb hby d3_184)
  have V53 : Arv Z h52 x_bounds k_bounds .double (16 : Int32) [(.double (FP.l2d (1 : Int64))), (.double (FP.l2d 0)), (.double (FP.l2d 0)), (.double (FP.l2d 0))] (.double (FP.l2d 0)) := Arv.set Ar52 q52 S52 M52 H52 G52 rfl W52 0 rfl (Nat.le_of_ble_eq_true rfl)
  have K54 := K43.wr W52 (Or.inl mI4)
  have O55 := O44.wr W52 g_bounds
  have N52 := Fr.snoc X52 N41 g_bounds
  refine Go.st st52 ?_
  refine Go.st (t' := T52.setTop (mkF m 186 #[.val (.ref a0_), .val (.int 0), .val (.int 0), .val (.int 0), .val (.double (FP.l2d (1 : Int64))), .second, .val (.ref we_), .val (.ref wb_), .val (.ref wp_), .val (.int 0), .unset, .unset] [(.ref a0_)])) (fun target kt => ?_) ?_
  · refine XS.aloadN X52.here hx rfl (hb hby d3_185) rfl rfl ?_
    exact kt
  have c56 := ((((F_windows.other W14 (Or.inr (slot_ne (Or.inl (hw _ tw22)) (Or.inl (hw _ tw43)) (by decide) (t := (.array .boolean)) (t' := .int) (by decide) (by decide)))).other W22 (Or.inl ne20)).other W31 (Or.inl ne28)).other W41 (Or.inl ne37)).other W52 (Or.inl ne47)
  obtain ⟨T57, X57, e57, st57⟩ := getF X52 hx hZ hown (host := "") (Or.inl (hw _ tw21)) Via.refl e52 c56 (g := (mkF m 186 #[.val (.ref a0_), .val (.int 0), .val (.int 0), .val (.int 0), .val (.double (FP.l2d (1 : Int64))), .second, .val (.ref we_), .val (.ref wb_), .val (.ref wp_), .val (.int 0), .unset, .unset] [(.ref a0_)])) rfl rfl (hb hby d3_186)
  refine Go.st st57 ?_
  refine Go.st (t' := T57.setTop (mkF m 201 #[.val (.ref a0_), .val (.int 0), .val (.int 0), .val (.int 0), .val (.double (FP.l2d (1 : Int64))), .second, .val (.ref we_), .val (.ref wb_), .val (.ref wp_), .val (.int 0), .unset, .unset] [(.int 1), (.int 0), (.ref x_windows)])) (fun target kt => ?_) ?_
  · refine XS.iload X57.here hx rfl (hb hby d3_189) rfl ?_
    refine XS.aload X57.here hx rfl (hb hby d3_191) rfl rfl ?_
    refine XS.ifnullNo X57.here hx rfl (hb hby d3_193) rfl ?_
    refine XS.iconst X57.here hx rfl (hb hby d3_196) ?_
    refine XS.goto X57.here hx rfl (pc0 := 197) (pc' := 201) rfl (hb hby d3_197) (by decide) (by decide) ?_
    exact kt
  have ne58 : a0_ ≠ x_windows := Nat.ne_of_lt (Nat.lt_trans (Nat.lt_trans (Nat.lt_trans (Nat.lt_trans o_a0__x_starts o_x_starts_x_nexts) o_x_nexts_x_ends) o_x_ends_x_bounds) o_x_bounds_x_windows)
  have ne59 : x_starts ≠ x_windows := Nat.ne_of_lt (Nat.lt_trans (Nat.lt_trans (Nat.lt_trans o_x_starts_x_nexts o_x_nexts_x_ends) o_x_ends_x_bounds) o_x_bounds_x_windows)
  have ne60 : x_nexts ≠ x_windows := Nat.ne_of_lt (Nat.lt_trans (Nat.lt_trans o_x_nexts_x_ends o_x_ends_x_bounds) o_x_bounds_x_windows)
  have ne61 : x_ends ≠ x_windows := Nat.ne_of_lt (Nat.lt_trans o_x_ends_x_bounds o_x_bounds_x_windows)
  have ne62 : x_bounds ≠ x_windows := Nat.ne_of_lt o_x_bounds_x_windows
  have c63 := ((((V_windows.other W14 (Ne.symm ne58)).other W22 (Ne.symm ne59)).other W31 (Ne.symm ne60)).other W41 (Ne.symm ne61)).other W52 (Ne.symm ne62)
  obtain ⟨cl64, Ar64, q64, S64, M64, H64, G64⟩ := id c63
  have hin64 : ¬ ((0 : Int32) < 0 ∨ cl64.slots.size ≤ ((0 : Int32)).toNatClampNeg) := inb_of S64 ⟨by decide, by decide⟩
  obtain ⟨T64, h64, X64, e64, W64, st64⟩ := stZ X57 hx hZ e57 Ar64 (j := (0 : Int32)) hin64 (g := (mkF m 201 #[.val (.ref a0_), .val (.int 0), .val (.int 0), .val (.int 0), .val (.double (FP.l2d (1 : Int64))), .second, .val (.ref we_), .val (.ref wb_), .val (.ref wp_), .val (.int 0), .unset, .unset] [(.int 1), (.int 0), (.ref x_windows)])) rfl rfl (hb hby d3_201)
  have V65 : Arv Z h64 x_windows k_windows .boolean (16 : Int32) [(.int 1), (.int 0), (.int 0), (.int 0)] (.int 0) := Arv.set Ar64 q64 S64 M64 H64 G64 rfl W64 0 rfl (Nat.le_of_ble_eq_true rfl)
  have K66 := K54.wr W64 (Or.inl mI5)
  have O67 := O55.wr W64 g_windows
  have N64 := Fr.snoc X64 N52 g_windows
  refine Go.st st64 ?_
  refine Go.st (t' := T64.setTop (mkF m 205 #[.val (.ref a0_), .val (.int 0), .val (.int 0), .val (.int 0), .val (.double (FP.l2d (1 : Int64))), .second, .val (.ref we_), .val (.ref wb_), .val (.ref wp_), .val (.int 0), .unset, .unset] [(.ref a0_), (.int 0)])) (fun target kt => ?_) ?_
  · refine XS.iload X64.here hx rfl (hb hby d3_202) rfl ?_
    refine XS.aloadN X64.here hx rfl (hb hby d3_204) rfl rfl ?_
    exact kt
  have c68 := (((((F_count.other W14 (Or.inr (slot_ne (Or.inr (hw _ tw30)) (Or.inl (hw _ tw43)) (by decide) (t := .int) (t' := .int) (by decide) (by decide)))).other W22 (Or.inl ne20)).other W31 (Or.inl ne28)).other W41 (Or.inl ne37)).other W52 (Or.inl ne47)).other W64 (Or.inl ne58)
  obtain ⟨T69, X69, e69, st69⟩ := getF X64 hx hZ hown (host := "") (Or.inl (hw _ tw29)) Via.refl e64 c68 (g := (mkF m 205 #[.val (.ref a0_), .val (.int 0), .val (.int 0), .val (.int 0), .val (.double (FP.l2d (1 : Int64))), .second, .val (.ref we_), .val (.ref wb_), .val (.ref wp_), .val (.int 0), .unset, .unset] [(.ref a0_), (.int 0)])) rfl rfl (hb hby d3_205)
  refine Go.st st69 ?_
  refine Go.st (t' := T69.setTop (mkF m 217 #[.val (.ref a0_), .val (.int 0), .val (.int 0), .val (.int 0), .val (.double (FP.l2d (1 : Int64))), .second, .val (.ref we_), .val (.ref wb_), .val (.ref wp_), .val (.int 0), .val (.int 0), .val (.int 0)] [(.ref a0_), (.int 0)])) (fun target kt => ?_) ?_
  · refine XS.imul X69.here hx rfl (hb hby d3_208) rfl ?_
    refine XS.istore X69.here hx rfl (hb hby d3_209) rfl (l' := #[.val (.ref a0_), .val (.int 0), .val (.int 0), .val (.int 0), .val (.double (FP.l2d (1 : Int64))), .second, .val (.ref we_), .val (.ref wb_), .val (.ref wp_), .val (.int 0), .val (.int 0), .unset]) rfl ?_
    refine XS.iconst X69.here hx rfl (hb hby d3_211) ?_
    refine XS.istore X69.here hx rfl (hb hby d3_212) rfl (l' := #[.val (.ref a0_), .val (.int 0), .val (.int 0), .val (.int 0), .val (.double (FP.l2d (1 : Int64))), .second, .val (.ref we_), .val (.ref wb_), .val (.ref wp_), .val (.int 0), .val (.int 0), .val (.int 0)]) rfl ?_
    refine XS.iload X69.here hx rfl (hb hby d3_214) rfl ?_
    refine XS.aloadN X69.here hx rfl (hb hby d3_216) rfl rfl ?_
    exact kt
  obtain ⟨T70, X70, e70, st70⟩ := getF X69 hx hZ hown (host := "") (Or.inl (hw _ tw29)) Via.refl e69 c68 (g := (mkF m 217 #[.val (.ref a0_), .val (.int 0), .val (.int 0), .val (.int 0), .val (.double (FP.l2d (1 : Int64))), .second, .val (.ref we_), .val (.ref wb_), .val (.ref wp_), .val (.int 0), .val (.int 0), .val (.int 0)] [(.ref a0_), (.int 0)])) rfl rfl (hb hby d3_217)
  refine Go.st st70 ?_
  refine Go.st (t' := T70.setTop (mkF m 224 #[.val (.ref a0_), .val (.int 0), .val (.int 0), .val (.int 0), .val (.double (FP.l2d (1 : Int64))), .second, .val (.ref we_), .val (.ref wb_), .val (.ref wp_), .val (.int 0), .val (.int 0), .val (.int 0)] [(.ref a0_)])) (fun target kt => ?_) ?_
  · refine XS.icmpNo X70.here hx rfl (hb hby d3_220) rfl (tlt (by decide : (0 : Int32) < (1 : Int32))).2.1 ?_
    refine XS.aloadN X70.here hx rfl (hb hby d3_223) rfl rfl ?_
    exact kt
  have c71 := (((((F_entries.other W14 (Or.inr (slot_ne (Or.inl (hw _ tw32)) (Or.inl (hw _ tw43)) (by decide) (t := (.array .int)) (t' := .int) (by decide) (by decide)))).other W22 (Or.inl ne20)).other W31 (Or.inl ne28)).other W41 (Or.inl ne37)).other W52 (Or.inl ne47)).other W64 (Or.inl ne58)
  obtain ⟨T72, X72, e72, st72⟩ := getF X70 hx hZ hown (host := "") (Or.inl (hw _ tw31)) Via.refl e70 c71 (g := (mkF m 224 #[.val (.ref a0_), .val (.int 0), .val (.int 0), .val (.int 0), .val (.double (FP.l2d (1 : Int64))), .second, .val (.ref we_), .val (.ref wb_), .val (.ref wp_), .val (.int 0), .val (.int 0), .val (.int 0)] [(.ref a0_)])) rfl rfl (hb hby d3_224)
  refine Go.st st72 ?_
  have ne73 : we_ ≠ x_parts := Nat.ne_of_lt (Nat.lt_trans (Nat.lt_trans (Nat.lt_trans (Nat.lt_trans (Nat.lt_trans (Nat.lt_trans (Nat.lt_trans (Nat.lt_trans (Nat.lt_trans (Nat.lt_trans (Nat.lt_trans (Nat.lt_trans (Nat.lt_trans o_we__wb_ o_wb__wp_) o_wp__a0_) o_a0__x_starts) o_x_starts_x_nexts) o_x_nexts_x_ends) o_x_ends_x_bounds) o_x_bounds_x_windows) o_x_windows_x_heap) o_x_heap_x_heapBounds) o_x_heapBounds_x_heapStarts) o_x_heapStarts_x_entries) o_x_entries_x_blocks) o_x_blocks_x_parts)
  have ne74 : we_ ≠ x_blocks := Nat.ne_of_lt (Nat.lt_trans (Nat.lt_trans (Nat.lt_trans (Nat.lt_trans (Nat.lt_trans (Nat.lt_trans (Nat.lt_trans (Nat.lt_trans (Nat.lt_trans (Nat.lt_trans (Nat.lt_trans (Nat.lt_trans o_we__wb_ o_wb__wp_) o_wp__a0_) o_a0__x_starts) o_x_starts_x_nexts) o_x_nexts_x_ends) o_x_ends_x_bounds) o_x_bounds_x_windows) o_x_windows_x_heap) o_x_heap_x_heapBounds) o_x_heapBounds_x_heapStarts) o_x_heapStarts_x_entries) o_x_entries_x_blocks)
  have ne75 : we_ ≠ x_entries := Nat.ne_of_lt (Nat.lt_trans (Nat.lt_trans (Nat.lt_trans (Nat.lt_trans (Nat.lt_trans (Nat.lt_trans (Nat.lt_trans (Nat.lt_trans (Nat.lt_trans (Nat.lt_trans (Nat.lt_trans o_we__wb_ o_wb__wp_) o_wp__a0_) o_a0__x_starts) o_x_starts_x_nexts) o_x_nexts_x_ends) o_x_ends_x_bounds) o_x_bounds_x_windows) o_x_windows_x_heap) o_x_heap_x_heapBounds) o_x_heapBounds_x_heapStarts) o_x_heapStarts_x_entries)
  have ne76 : we_ ≠ x_heapStarts := Nat.ne_of_lt (Nat.lt_trans (Nat.lt_trans (Nat.lt_trans (Nat.lt_trans (Nat.lt_trans (Nat.lt_trans (Nat.lt_trans (Nat.lt_trans (Nat.lt_trans (Nat.lt_trans o_we__wb_ o_wb__wp_) o_wp__a0_) o_a0__x_starts) o_x_starts_x_nexts) o_x_nexts_x_ends) o_x_ends_x_bounds) o_x_bounds_x_windows) o_x_windows_x_heap) o_x_heap_x_heapBounds) o_x_heapBounds_x_heapStarts)
  have ne77 : we_ ≠ x_heapBounds := Nat.ne_of_lt (Nat.lt_trans (Nat.lt_trans (Nat.lt_trans (Nat.lt_trans (Nat.lt_trans (Nat.lt_trans (Nat.lt_trans (Nat.lt_trans (Nat.lt_trans o_we__wb_ o_wb__wp_) o_wp__a0_) o_a0__x_starts) o_x_starts_x_nexts) o_x_nexts_x_ends) o_x_ends_x_bounds) o_x_bounds_x_windows) o_x_windows_x_heap) o_x_heap_x_heapBounds)
  have ne78 : we_ ≠ x_heap := Nat.ne_of_lt (Nat.lt_trans (Nat.lt_trans (Nat.lt_trans (Nat.lt_trans (Nat.lt_trans (Nat.lt_trans (Nat.lt_trans (Nat.lt_trans o_we__wb_ o_wb__wp_) o_wp__a0_) o_a0__x_starts) o_x_starts_x_nexts) o_x_nexts_x_ends) o_x_ends_x_bounds) o_x_bounds_x_windows) o_x_windows_x_heap)
  have ne79 : we_ ≠ x_windows := Nat.ne_of_lt (Nat.lt_trans (Nat.lt_trans (Nat.lt_trans (Nat.lt_trans (Nat.lt_trans (Nat.lt_trans (Nat.lt_trans o_we__wb_ o_wb__wp_) o_wp__a0_) o_a0__x_starts) o_x_starts_x_nexts) o_x_nexts_x_ends) o_x_ends_x_bounds) o_x_bounds_x_windows)
  have ne80 : we_ ≠ x_bounds := Nat.ne_of_lt (Nat.lt_trans (Nat.lt_trans (Nat.lt_trans (Nat.lt_trans (Nat.lt_trans (Nat.lt_trans o_we__wb_ o_wb__wp_) o_wp__a0_) o_a0__x_starts) o_x_starts_x_nexts) o_x_nexts_x_ends) o_x_ends_x_bounds)
  have ne81 : we_ ≠ x_ends := Nat.ne_of_lt (Nat.lt_trans (Nat.lt_trans (Nat.lt_trans (Nat.lt_trans (Nat.lt_trans o_we__wb_ o_wb__wp_) o_wp__a0_) o_a0__x_starts) o_x_starts_x_nexts) o_x_nexts_x_ends)
  have ne82 : we_ ≠ x_nexts := Nat.ne_of_lt (Nat.lt_trans (Nat.lt_trans (Nat.lt_trans (Nat.lt_trans o_we__wb_ o_wb__wp_) o_wp__a0_) o_a0__x_starts) o_x_starts_x_nexts)
  have ne83 : we_ ≠ x_starts := Nat.ne_of_lt (Nat.lt_trans (Nat.lt_trans (Nat.lt_trans o_we__wb_ o_wb__wp_) o_wp__a0_) o_a0__x_starts)
  have ne84 : we_ ≠ a0_ := Nat.ne_of_lt (Nat.lt_trans (Nat.lt_trans o_we__wb_ o_wb__wp_) o_wp__a0_)
  have c85 := V_we.keep K66 (ninS ne84 (ninS ne83 (ninS ne82 (ninS ne81 (ninS ne80 (ninS ne79 (ninS ne78 (ninS ne77 (ninS ne76 (ninS ne75 (ninS ne74 (ninS ne73 nin0))))))))))))
  obtain ⟨cl86, Ar86, -, S86, M86, H86, -⟩ := id c85
  have hin86 : ¬ ((0 : Int32) < 0 ∨ cl86.slots.size ≤ ((0 : Int32)).toNatClampNeg) := inb_of S86 ⟨by decide, by decide⟩
  have hat86 : cl86.slots[((0 : Int32)).toNatClampNeg]? = some (.int e0_) := H86.at hin86 rfl
  refine Go.st (t' := T72.setTop (mkF m 237 #[.val (.ref a0_), .val (.int 0), .val (.int 0), .val (.int 0), .val (.double (FP.l2d (1 : Int64))), .second, .val (.ref we_), .val (.ref wb_), .val (.ref wp_), .val (.int 0), .val (.int 0), .val (.int 0)] [(.int e0_), (.int 0), (.ref x_entries)])) (fun target kt => ?_) ?_
  · refine XS.iload X72.here hx rfl (hb hby d3_227) rfl ?_
    refine XS.iload X72.here hx rfl (hb hby d3_229) rfl ?_
    refine XS.iadd X72.here hx rfl (hb hby d3_231) rfl ?_
    refine XS.aload X72.here hx rfl (hb hby d3_232) rfl rfl ?_
    refine XS.iload X72.here hx rfl (hb hby d3_234) rfl ?_
    refine X72.iaload hx (j := (0 : Int32)) (v := (.int e0_)) (by rw [e72]; exact Ar86.1) (State.isArrayOf_alike hZ.alike Ar86.2.1) Ar86.2.2 hin86 hat86 (g := (mkF m 236 #[.val (.ref a0_), .val (.int 0), .val (.int 0), .val (.int 0), .val (.double (FP.l2d (1 : Int64))), .second, .val (.ref we_), .val (.ref wb_), .val (.ref wp_), .val (.int 0), .val (.int 0), .val (.int 0)] [(.int 0), (.ref we_), (.int 0), (.ref x_entries)])) rfl rfl (hb hby d3_236) _ ?_
    exact kt
  have ne87 : a0_ ≠ x_entries := Nat.ne_of_lt (Nat.lt_trans (Nat.lt_trans (Nat.lt_trans (Nat.lt_trans (Nat.lt_trans (Nat.lt_trans (Nat.lt_trans (Nat.lt_trans o_a0__x_starts o_x_starts_x_nexts) o_x_nexts_x_ends) o_x_ends_x_bounds) o_x_bounds_x_windows) o_x_windows_x_heap) o_x_heap_x_heapBounds) o_x_heapBounds_x_heapStarts) o_x_heapStarts_x_entries)
  have ne88 : x_starts ≠ x_entries := Nat.ne_of_lt (Nat.lt_trans (Nat.lt_trans (Nat.lt_trans (Nat.lt_trans (Nat.lt_trans (Nat.lt_trans (Nat.lt_trans o_x_starts_x_nexts o_x_nexts_x_ends) o_x_ends_x_bounds) o_x_bounds_x_windows) o_x_windows_x_heap) o_x_heap_x_heapBounds) o_x_heapBounds_x_heapStarts) o_x_heapStarts_x_entries)
  have ne89 : x_nexts ≠ x_entries := Nat.ne_of_lt (Nat.lt_trans (Nat.lt_trans (Nat.lt_trans (Nat.lt_trans (Nat.lt_trans (Nat.lt_trans o_x_nexts_x_ends o_x_ends_x_bounds) o_x_bounds_x_windows) o_x_windows_x_heap) o_x_heap_x_heapBounds) o_x_heapBounds_x_heapStarts) o_x_heapStarts_x_entries)
  have ne90 : x_ends ≠ x_entries := Nat.ne_of_lt (Nat.lt_trans (Nat.lt_trans (Nat.lt_trans (Nat.lt_trans (Nat.lt_trans o_x_ends_x_bounds o_x_bounds_x_windows) o_x_windows_x_heap) o_x_heap_x_heapBounds) o_x_heapBounds_x_heapStarts) o_x_heapStarts_x_entries)
  have ne91 : x_bounds ≠ x_entries := Nat.ne_of_lt (Nat.lt_trans (Nat.lt_trans (Nat.lt_trans (Nat.lt_trans o_x_bounds_x_windows o_x_windows_x_heap) o_x_heap_x_heapBounds) o_x_heapBounds_x_heapStarts) o_x_heapStarts_x_entries)
  have ne92 : x_windows ≠ x_entries := Nat.ne_of_lt (Nat.lt_trans (Nat.lt_trans (Nat.lt_trans o_x_windows_x_heap o_x_heap_x_heapBounds) o_x_heapBounds_x_heapStarts) o_x_heapStarts_x_entries)
  have c93 := (((((V_entries.other W14 (Ne.symm ne87)).other W22 (Ne.symm ne88)).other W31 (Ne.symm ne89)).other W41 (Ne.symm ne90)).other W52 (Ne.symm ne91)).other W64 (Ne.symm ne92)
  obtain ⟨cl94, Ar94, q94, S94, M94, H94, G94⟩ := id c93
  have hin94 : ¬ ((0 : Int32) < 0 ∨ cl94.slots.size ≤ ((0 : Int32)).toNatClampNeg) := inb_of S94 ⟨by decide, by decide⟩
  obtain ⟨T94, h94, X94, e94, W94, st94⟩ := stI X72 hx hZ e72 Ar94 (j := (0 : Int32)) hin94 (g := (mkF m 237 #[.val (.ref a0_), .val (.int 0), .val (.int 0), .val (.int 0), .val (.double (FP.l2d (1 : Int64))), .second, .val (.ref we_), .val (.ref wb_), .val (.ref wp_), .val (.int 0), .val (.int 0), .val (.int 0)] [(.int e0_), (.int 0), (.ref x_entries)])) rfl rfl (hb hby d3_237)
  have V95 : Arv Z h94 x_entries k_entries .int (16 : Int32) [(.int e0_), (.int 0), (.int 0), (.int 0)] (.int 0) := Arv.set Ar94 q94 S94 M94 H94 G94 rfl W94 0 rfl (Nat.le_of_ble_eq_true rfl)
  have K96 := K66.wr W94 (Or.inl (List.mem_of_getElem? (i := 9) rfl))
  have O97 := O67.wr W94 g_entries
  have N94 := Fr.snoc X94 N64 g_entries
  refine Go.st st94 ?_
  refine Go.st (t' := T94.setTop (mkF m 239 #[.val (.ref a0_), .val (.int 0), .val (.int 0), .val (.int 0), .val (.double (FP.l2d (1 : Int64))), .second, .val (.ref we_), .val (.ref wb_), .val (.ref wp_), .val (.int 0), .val (.int 0), .val (.int 0)] [(.ref a0_)])) (fun target kt => ?_) ?_
  · refine XS.aloadN X94.here hx rfl (hb hby d3_238) rfl rfl ?_
    exact kt
  have c98 := ((((((F_parts.other W14 (Or.inr (slot_ne (Or.inl (hw _ tw36)) (Or.inl (hw _ tw43)) (by decide) (t := (.array .double)) (t' := .int) (by decide) (by decide)))).other W22 (Or.inl ne20)).other W31 (Or.inl ne28)).other W41 (Or.inl ne37)).other W52 (Or.inl ne47)).other W64 (Or.inl ne58)).other W94 (Or.inl ne87)
  obtain ⟨T99, X99, e99, st99⟩ := getF X94 hx hZ hown (host := "") (Or.inl (hw _ tw35)) Via.refl e94 c98 (g := (mkF m 239 #[.val (.ref a0_), .val (.int 0), .val (.int 0), .val (.int 0), .val (.double (FP.l2d (1 : Int64))), .second, .val (.ref we_), .val (.ref wb_), .val (.ref wp_), .val (.int 0), .val (.int 0), .val (.int 0)] [(.ref a0_)])) rfl rfl (hb hby d3_239)
  refine Go.st st99 ?_
  have ne100 : wp_ ≠ x_parts := Nat.ne_of_lt (Nat.lt_trans (Nat.lt_trans (Nat.lt_trans (Nat.lt_trans (Nat.lt_trans (Nat.lt_trans (Nat.lt_trans (Nat.lt_trans (Nat.lt_trans (Nat.lt_trans (Nat.lt_trans o_wp__a0_ o_a0__x_starts) o_x_starts_x_nexts) o_x_nexts_x_ends) o_x_ends_x_bounds) o_x_bounds_x_windows) o_x_windows_x_heap) o_x_heap_x_heapBounds) o_x_heapBounds_x_heapStarts) o_x_heapStarts_x_entries) o_x_entries_x_blocks) o_x_blocks_x_parts)
  have ne101 : wp_ ≠ x_blocks := Nat.ne_of_lt (Nat.lt_trans (Nat.lt_trans (Nat.lt_trans (Nat.lt_trans (Nat.lt_trans (Nat.lt_trans (Nat.lt_trans (Nat.lt_trans (Nat.lt_trans (Nat.lt_trans o_wp__a0_ o_a0__x_starts) o_x_starts_x_nexts) o_x_nexts_x_ends) o_x_ends_x_bounds) o_x_bounds_x_windows) o_x_windows_x_heap) o_x_heap_x_heapBounds) o_x_heapBounds_x_heapStarts) o_x_heapStarts_x_entries) o_x_entries_x_blocks)
  have ne102 : wp_ ≠ x_entries := Nat.ne_of_lt (Nat.lt_trans (Nat.lt_trans (Nat.lt_trans (Nat.lt_trans (Nat.lt_trans (Nat.lt_trans (Nat.lt_trans (Nat.lt_trans (Nat.lt_trans o_wp__a0_ o_a0__x_starts) o_x_starts_x_nexts) o_x_nexts_x_ends) o_x_ends_x_bounds) o_x_bounds_x_windows) o_x_windows_x_heap) o_x_heap_x_heapBounds) o_x_heapBounds_x_heapStarts) o_x_heapStarts_x_entries)
  have ne103 : wp_ ≠ x_heapStarts := Nat.ne_of_lt (Nat.lt_trans (Nat.lt_trans (Nat.lt_trans (Nat.lt_trans (Nat.lt_trans (Nat.lt_trans (Nat.lt_trans (Nat.lt_trans o_wp__a0_ o_a0__x_starts) o_x_starts_x_nexts) o_x_nexts_x_ends) o_x_ends_x_bounds) o_x_bounds_x_windows) o_x_windows_x_heap) o_x_heap_x_heapBounds) o_x_heapBounds_x_heapStarts)
  have ne104 : wp_ ≠ x_heapBounds := Nat.ne_of_lt (Nat.lt_trans (Nat.lt_trans (Nat.lt_trans (Nat.lt_trans (Nat.lt_trans (Nat.lt_trans (Nat.lt_trans o_wp__a0_ o_a0__x_starts) o_x_starts_x_nexts) o_x_nexts_x_ends) o_x_ends_x_bounds) o_x_bounds_x_windows) o_x_windows_x_heap) o_x_heap_x_heapBounds)
  have ne105 : wp_ ≠ x_heap := Nat.ne_of_lt (Nat.lt_trans (Nat.lt_trans (Nat.lt_trans (Nat.lt_trans (Nat.lt_trans (Nat.lt_trans o_wp__a0_ o_a0__x_starts) o_x_starts_x_nexts) o_x_nexts_x_ends) o_x_ends_x_bounds) o_x_bounds_x_windows) o_x_windows_x_heap)
  have ne106 : wp_ ≠ x_windows := Nat.ne_of_lt (Nat.lt_trans (Nat.lt_trans (Nat.lt_trans (Nat.lt_trans (Nat.lt_trans o_wp__a0_ o_a0__x_starts) o_x_starts_x_nexts) o_x_nexts_x_ends) o_x_ends_x_bounds) o_x_bounds_x_windows)
  have ne107 : wp_ ≠ x_bounds := Nat.ne_of_lt (Nat.lt_trans (Nat.lt_trans (Nat.lt_trans (Nat.lt_trans o_wp__a0_ o_a0__x_starts) o_x_starts_x_nexts) o_x_nexts_x_ends) o_x_ends_x_bounds)
  have ne108 : wp_ ≠ x_ends := Nat.ne_of_lt (Nat.lt_trans (Nat.lt_trans (Nat.lt_trans o_wp__a0_ o_a0__x_starts) o_x_starts_x_nexts) o_x_nexts_x_ends)
  have ne109 : wp_ ≠ x_nexts := Nat.ne_of_lt (Nat.lt_trans (Nat.lt_trans o_wp__a0_ o_a0__x_starts) o_x_starts_x_nexts)
  have ne110 : wp_ ≠ x_starts := Nat.ne_of_lt (Nat.lt_trans o_wp__a0_ o_a0__x_starts)
  have ne111 : wp_ ≠ a0_ := Nat.ne_of_lt o_wp__a0_
  have c112 := V_wp.keep K96 (ninS ne111 (ninS ne110 (ninS ne109 (ninS ne108 (ninS ne107 (ninS ne106 (ninS ne105 (ninS ne104 (ninS ne103 (ninS ne102 (ninS ne101 (ninS ne100 nin0))))))))))))
  obtain ⟨cl113, Ar113, -, S113, M113, H113, -⟩ := id c112
  have hin113 : ¬ ((0 : Int32) < 0 ∨ cl113.slots.size ≤ ((0 : Int32)).toNatClampNeg) := inb_of S113 ⟨by decide, by decide⟩
  have hat113 : cl113.slots[((0 : Int32)).toNatClampNeg]? = some (.double d0_) := H113.at hin113 rfl
  refine Go.st (t' := T99.setTop (mkF m 252 #[.val (.ref a0_), .val (.int 0), .val (.int 0), .val (.int 0), .val (.double (FP.l2d (1 : Int64))), .second, .val (.ref we_), .val (.ref wb_), .val (.ref wp_), .val (.int 0), .val (.int 0), .val (.int 0)] [(.double d0_), (.int 0), (.ref x_parts)])) (fun target kt => ?_) ?_
  · refine XS.iload X99.here hx rfl (hb hby d3_242) rfl ?_
    refine XS.iload X99.here hx rfl (hb hby d3_244) rfl ?_
    refine XS.iadd X99.here hx rfl (hb hby d3_246) rfl ?_
    refine XS.aload X99.here hx rfl (hb hby d3_247) rfl rfl ?_
    refine XS.iload X99.here hx rfl (hb hby d3_249) rfl ?_
    refine X99.daload hx (j := (0 : Int32)) (v := (.double d0_)) (by rw [e99]; exact Ar113.1) (State.isArrayOf_alike hZ.alike Ar113.2.1) Ar113.2.2 hin113 hat113 (g := (mkF m 251 #[.val (.ref a0_), .val (.int 0), .val (.int 0), .val (.int 0), .val (.double (FP.l2d (1 : Int64))), .second, .val (.ref we_), .val (.ref wb_), .val (.ref wp_), .val (.int 0), .val (.int 0), .val (.int 0)] [(.int 0), (.ref wp_), (.int 0), (.ref x_parts)])) rfl rfl (hb hby d3_251) _ ?_
    exact kt
  have ne114 : a0_ ≠ x_parts := Nat.ne_of_lt (Nat.lt_trans (Nat.lt_trans (Nat.lt_trans (Nat.lt_trans (Nat.lt_trans (Nat.lt_trans (Nat.lt_trans (Nat.lt_trans (Nat.lt_trans (Nat.lt_trans o_a0__x_starts o_x_starts_x_nexts) o_x_nexts_x_ends) o_x_ends_x_bounds) o_x_bounds_x_windows) o_x_windows_x_heap) o_x_heap_x_heapBounds) o_x_heapBounds_x_heapStarts) o_x_heapStarts_x_entries) o_x_entries_x_blocks) o_x_blocks_x_parts)
  have ne115 : x_starts ≠ x_parts := Nat.ne_of_lt (Nat.lt_trans (Nat.lt_trans (Nat.lt_trans (Nat.lt_trans (Nat.lt_trans (Nat.lt_trans (Nat.lt_trans (Nat.lt_trans (Nat.lt_trans o_x_starts_x_nexts o_x_nexts_x_ends) o_x_ends_x_bounds) o_x_bounds_x_windows) o_x_windows_x_heap) o_x_heap_x_heapBounds) o_x_heapBounds_x_heapStarts) o_x_heapStarts_x_entries) o_x_entries_x_blocks) o_x_blocks_x_parts)
  have ne116 : x_nexts ≠ x_parts := Nat.ne_of_lt (Nat.lt_trans (Nat.lt_trans (Nat.lt_trans (Nat.lt_trans (Nat.lt_trans (Nat.lt_trans (Nat.lt_trans (Nat.lt_trans o_x_nexts_x_ends o_x_ends_x_bounds) o_x_bounds_x_windows) o_x_windows_x_heap) o_x_heap_x_heapBounds) o_x_heapBounds_x_heapStarts) o_x_heapStarts_x_entries) o_x_entries_x_blocks) o_x_blocks_x_parts)
  have ne117 : x_ends ≠ x_parts := Nat.ne_of_lt (Nat.lt_trans (Nat.lt_trans (Nat.lt_trans (Nat.lt_trans (Nat.lt_trans (Nat.lt_trans (Nat.lt_trans o_x_ends_x_bounds o_x_bounds_x_windows) o_x_windows_x_heap) o_x_heap_x_heapBounds) o_x_heapBounds_x_heapStarts) o_x_heapStarts_x_entries) o_x_entries_x_blocks) o_x_blocks_x_parts)
  have ne118 : x_bounds ≠ x_parts := Nat.ne_of_lt (Nat.lt_trans (Nat.lt_trans (Nat.lt_trans (Nat.lt_trans (Nat.lt_trans (Nat.lt_trans o_x_bounds_x_windows o_x_windows_x_heap) o_x_heap_x_heapBounds) o_x_heapBounds_x_heapStarts) o_x_heapStarts_x_entries) o_x_entries_x_blocks) o_x_blocks_x_parts)
  have ne119 : x_windows ≠ x_parts := Nat.ne_of_lt (Nat.lt_trans (Nat.lt_trans (Nat.lt_trans (Nat.lt_trans (Nat.lt_trans o_x_windows_x_heap o_x_heap_x_heapBounds) o_x_heapBounds_x_heapStarts) o_x_heapStarts_x_entries) o_x_entries_x_blocks) o_x_blocks_x_parts)
  have ne120 : x_entries ≠ x_parts := Nat.ne_of_lt (Nat.lt_trans o_x_entries_x_blocks o_x_blocks_x_parts)
  have c121 := ((((((V_parts.other W14 (Ne.symm ne114)).other W22 (Ne.symm ne115)).other W31 (Ne.symm ne116)).other W41 (Ne.symm ne117)).other W52 (Ne.symm ne118)).other W64 (Ne.symm ne119)).other W94 (Ne.symm ne120)
  obtain ⟨cl122, Ar122, q122, S122, M122, H122, G122⟩ := id c121
  have hin122 : ¬ ((0 : Int32) < 0 ∨ cl122.slots.size ≤ ((0 : Int32)).toNatClampNeg) := inb_of S122 ⟨by decide, by decide⟩
  obtain ⟨T122, h122, X122, e122, W122, st122⟩ := stD X99 hx hZ e99 Ar122 (j := (0 : Int32)) hin122 (g := (mkF m 252 #[.val (.ref a0_), .val (.int 0), .val (.int 0), .val (.int 0), .val (.double (FP.l2d (1 : Int64))), .second, .val (.ref we_), .val (.ref wb_), .val (.ref wp_), .val (.int 0), .val (.int 0), .val (.int 0)] [(.double d0_), (.int 0), (.ref x_parts)])) rfl rfl (hb hby d3_252)
  have V123 : Arv Z h122 x_parts k_parts .double (16 : Int32) [(.double d0_), (.double (FP.l2d 0)), (.double (FP.l2d 0)), (.double (FP.l2d 0))] (.double (FP.l2d 0)) := Arv.set Ar122 q122 S122 M122 H122 G122 rfl W122 0 rfl (Nat.le_of_ble_eq_true rfl)
  have K124 := K96.wr W122 (Or.inl (List.mem_of_getElem? (i := 11) rfl))
  have O125 := O97.wr W122 g_parts
  have N122 := Fr.snoc X122 N94 g_parts
  refine Go.st st122 ?_
  refine Go.st (t' := T122.setTop (mkF m 217 #[.val (.ref a0_), .val (.int 0), .val (.int 0), .val (.int 0), .val (.double (FP.l2d (1 : Int64))), .second, .val (.ref we_), .val (.ref wb_), .val (.ref wp_), .val (.int 0), .val (.int 0), .val (.int 1)] [(.ref a0_), (.int 1)])) (fun target kt => ?_) ?_
  · refine XS.iinc X122.here hx rfl (hb hby d3_253) rfl (l' := #[.val (.ref a0_), .val (.int 0), .val (.int 0), .val (.int 0), .val (.double (FP.l2d (1 : Int64))), .second, .val (.ref we_), .val (.ref wb_), .val (.ref wp_), .val (.int 0), .val (.int 0), .val (.int 1)]) rfl ?_
    refine XS.goto X122.here hx rfl (pc0 := 256) (pc' := 214) rfl (hb hby d3_256) (by decide) (by decide) ?_
    refine XS.iload X122.here hx rfl (hb hby d3_214) rfl ?_
    refine XS.aloadN X122.here hx rfl (hb hby d3_216) rfl rfl ?_
    exact kt
  have S_126 : Keep h64 h122 [x_entries, x_parts] := (((Keep.refl h64 [x_entries, x_parts]).wr W94 (Or.inl mI0)).wr W122 (Or.inl mI1))
  have c127 := c68.keep S_126 (ninS ne87 (ninS ne114 nin0))
  obtain ⟨T128, X128, e128, st128⟩ := getF X122 hx hZ hown (host := "") (Or.inl (hw _ tw29)) Via.refl e122 c127 (g := (mkF m 217 #[.val (.ref a0_), .val (.int 0), .val (.int 0), .val (.int 0), .val (.double (FP.l2d (1 : Int64))), .second, .val (.ref we_), .val (.ref wb_), .val (.ref wp_), .val (.int 0), .val (.int 0), .val (.int 1)] [(.ref a0_), (.int 1)])) rfl rfl (hb hby d3_217)
  refine Go.st st128 ?_
  refine Go.st (t' := T128.setTop (mkF m 270 #[.val (.ref a0_), .val (.int 0), .val (.int 0), .val (.int 0), .val (.double (FP.l2d (1 : Int64))), .second, .val (.ref we_), .val (.ref wb_), .val (.ref wp_), .val (.int 0), .val (.int 0), .val (.int 0)] [(.ref a0_), (.int 0)])) (fun target kt => ?_) ?_
  · refine XS.icmpYes X128.here hx rfl (pc0 := 220) (pc' := 259) rfl (hb hby d3_220) rfl (flt (by decide : ¬ ((1 : Int32) < (1 : Int32)))).2.1 (by decide) (by decide) ?_
    refine XS.aload X128.here hx rfl (hb hby d3_259) rfl rfl ?_
    refine XS.ifnullNo X128.here hx rfl (hb hby d3_261) rfl ?_
    refine XS.iconst X128.here hx rfl (hb hby d3_264) ?_
    refine XS.istore X128.here hx rfl (hb hby d3_265) rfl (l' := #[.val (.ref a0_), .val (.int 0), .val (.int 0), .val (.int 0), .val (.double (FP.l2d (1 : Int64))), .second, .val (.ref we_), .val (.ref wb_), .val (.ref wp_), .val (.int 0), .val (.int 0), .val (.int 0)]) rfl ?_
    refine XS.iload X128.here hx rfl (hb hby d3_267) rfl ?_
    refine XS.aloadN X128.here hx rfl (hb hby d3_269) rfl rfl ?_
    exact kt
  obtain ⟨T129, X129, e129, st129⟩ := getF X128 hx hZ hown (host := "") (Or.inl (hw _ tw29)) Via.refl e128 c127 (g := (mkF m 270 #[.val (.ref a0_), .val (.int 0), .val (.int 0), .val (.int 0), .val (.double (FP.l2d (1 : Int64))), .second, .val (.ref we_), .val (.ref wb_), .val (.ref wp_), .val (.int 0), .val (.int 0), .val (.int 0)] [(.ref a0_), (.int 0)])) rfl rfl (hb hby d3_270)
  refine Go.st st129 ?_
  refine Go.st (t' := T129.setTop (mkF m 277 #[.val (.ref a0_), .val (.int 0), .val (.int 0), .val (.int 0), .val (.double (FP.l2d (1 : Int64))), .second, .val (.ref we_), .val (.ref wb_), .val (.ref wp_), .val (.int 0), .val (.int 0), .val (.int 0)] [(.ref a0_)])) (fun target kt => ?_) ?_
  · refine XS.icmpNo X129.here hx rfl (hb hby d3_273) rfl (tlt (by decide : (0 : Int32) < (1 : Int32))).2.1 ?_
    refine XS.aloadN X129.here hx rfl (hb hby d3_276) rfl rfl ?_
    exact kt
  have c130 := (((((((F_blocks.other W14 (Or.inr (slot_ne (Or.inl (hw _ tw34)) (Or.inl (hw _ tw43)) (by decide) (t := (.array .int)) (t' := .int) (by decide) (by decide)))).other W22 (Or.inl ne20)).other W31 (Or.inl ne28)).other W41 (Or.inl ne37)).other W52 (Or.inl ne47)).other W64 (Or.inl ne58)).other W94 (Or.inl ne87)).other W122 (Or.inl ne114)
  obtain ⟨T131, X131, e131, st131⟩ := getF X129 hx hZ hown (host := "") (Or.inl (hw _ tw33)) Via.refl e129 c130 (g := (mkF m 277 #[.val (.ref a0_), .val (.int 0), .val (.int 0), .val (.int 0), .val (.double (FP.l2d (1 : Int64))), .second, .val (.ref we_), .val (.ref wb_), .val (.ref wp_), .val (.int 0), .val (.int 0), .val (.int 0)] [(.ref a0_)])) rfl rfl (hb hby d3_277)
  refine Go.st st131 ?_
  have ne132 : wb_ ≠ x_parts := Nat.ne_of_lt (Nat.lt_trans (Nat.lt_trans (Nat.lt_trans (Nat.lt_trans (Nat.lt_trans (Nat.lt_trans (Nat.lt_trans (Nat.lt_trans (Nat.lt_trans (Nat.lt_trans (Nat.lt_trans (Nat.lt_trans o_wb__wp_ o_wp__a0_) o_a0__x_starts) o_x_starts_x_nexts) o_x_nexts_x_ends) o_x_ends_x_bounds) o_x_bounds_x_windows) o_x_windows_x_heap) o_x_heap_x_heapBounds) o_x_heapBounds_x_heapStarts) o_x_heapStarts_x_entries) o_x_entries_x_blocks) o_x_blocks_x_parts)
  have ne133 : wb_ ≠ x_blocks := Nat.ne_of_lt (Nat.lt_trans (Nat.lt_trans (Nat.lt_trans (Nat.lt_trans (Nat.lt_trans (Nat.lt_trans (Nat.lt_trans (Nat.lt_trans (Nat.lt_trans (Nat.lt_trans (Nat.lt_trans o_wb__wp_ o_wp__a0_) o_a0__x_starts) o_x_starts_x_nexts) o_x_nexts_x_ends) o_x_ends_x_bounds) o_x_bounds_x_windows) o_x_windows_x_heap) o_x_heap_x_heapBounds) o_x_heapBounds_x_heapStarts) o_x_heapStarts_x_entries) o_x_entries_x_blocks)
  have ne134 : wb_ ≠ x_entries := Nat.ne_of_lt (Nat.lt_trans (Nat.lt_trans (Nat.lt_trans (Nat.lt_trans (Nat.lt_trans (Nat.lt_trans (Nat.lt_trans (Nat.lt_trans (Nat.lt_trans (Nat.lt_trans o_wb__wp_ o_wp__a0_) o_a0__x_starts) o_x_starts_x_nexts) o_x_nexts_x_ends) o_x_ends_x_bounds) o_x_bounds_x_windows) o_x_windows_x_heap) o_x_heap_x_heapBounds) o_x_heapBounds_x_heapStarts) o_x_heapStarts_x_entries)
  have ne135 : wb_ ≠ x_heapStarts := Nat.ne_of_lt (Nat.lt_trans (Nat.lt_trans (Nat.lt_trans (Nat.lt_trans (Nat.lt_trans (Nat.lt_trans (Nat.lt_trans (Nat.lt_trans (Nat.lt_trans o_wb__wp_ o_wp__a0_) o_a0__x_starts) o_x_starts_x_nexts) o_x_nexts_x_ends) o_x_ends_x_bounds) o_x_bounds_x_windows) o_x_windows_x_heap) o_x_heap_x_heapBounds) o_x_heapBounds_x_heapStarts)
  have ne136 : wb_ ≠ x_heapBounds := Nat.ne_of_lt (Nat.lt_trans (Nat.lt_trans (Nat.lt_trans (Nat.lt_trans (Nat.lt_trans (Nat.lt_trans (Nat.lt_trans (Nat.lt_trans o_wb__wp_ o_wp__a0_) o_a0__x_starts) o_x_starts_x_nexts) o_x_nexts_x_ends) o_x_ends_x_bounds) o_x_bounds_x_windows) o_x_windows_x_heap) o_x_heap_x_heapBounds)
  have ne137 : wb_ ≠ x_heap := Nat.ne_of_lt (Nat.lt_trans (Nat.lt_trans (Nat.lt_trans (Nat.lt_trans (Nat.lt_trans (Nat.lt_trans (Nat.lt_trans o_wb__wp_ o_wp__a0_) o_a0__x_starts) o_x_starts_x_nexts) o_x_nexts_x_ends) o_x_ends_x_bounds) o_x_bounds_x_windows) o_x_windows_x_heap)
  have ne138 : wb_ ≠ x_windows := Nat.ne_of_lt (Nat.lt_trans (Nat.lt_trans (Nat.lt_trans (Nat.lt_trans (Nat.lt_trans (Nat.lt_trans o_wb__wp_ o_wp__a0_) o_a0__x_starts) o_x_starts_x_nexts) o_x_nexts_x_ends) o_x_ends_x_bounds) o_x_bounds_x_windows)
  have ne139 : wb_ ≠ x_bounds := Nat.ne_of_lt (Nat.lt_trans (Nat.lt_trans (Nat.lt_trans (Nat.lt_trans (Nat.lt_trans o_wb__wp_ o_wp__a0_) o_a0__x_starts) o_x_starts_x_nexts) o_x_nexts_x_ends) o_x_ends_x_bounds)
  have ne140 : wb_ ≠ x_ends := Nat.ne_of_lt (Nat.lt_trans (Nat.lt_trans (Nat.lt_trans (Nat.lt_trans o_wb__wp_ o_wp__a0_) o_a0__x_starts) o_x_starts_x_nexts) o_x_nexts_x_ends)
  have ne141 : wb_ ≠ x_nexts := Nat.ne_of_lt (Nat.lt_trans (Nat.lt_trans (Nat.lt_trans o_wb__wp_ o_wp__a0_) o_a0__x_starts) o_x_starts_x_nexts)
  have ne142 : wb_ ≠ x_starts := Nat.ne_of_lt (Nat.lt_trans (Nat.lt_trans o_wb__wp_ o_wp__a0_) o_a0__x_starts)
  have ne143 : wb_ ≠ a0_ := Nat.ne_of_lt (Nat.lt_trans o_wb__wp_ o_wp__a0_)
  have c144 := V_wb.keep K124 (ninS ne143 (ninS ne142 (ninS ne141 (ninS ne140 (ninS ne139 (ninS ne138 (ninS ne137 (ninS ne136 (ninS ne135 (ninS ne134 (ninS ne133 (ninS ne132 nin0))))))))))))
  obtain ⟨cl145, Ar145, -, S145, M145, H145, -⟩ := id c144
  have hin145 : ¬ ((0 : Int32) < 0 ∨ cl145.slots.size ≤ ((0 : Int32)).toNatClampNeg) := inb_of S145 ⟨by decide, by decide⟩
  have hat145 : cl145.slots[((0 : Int32)).toNatClampNeg]? = some (.int b0_) := H145.at hin145 rfl
  refine Go.st (t' := T131.setTop (mkF m 290 #[.val (.ref a0_), .val (.int 0), .val (.int 0), .val (.int 0), .val (.double (FP.l2d (1 : Int64))), .second, .val (.ref we_), .val (.ref wb_), .val (.ref wp_), .val (.int 0), .val (.int 0), .val (.int 0)] [(.int b0_), (.int 0), (.ref x_blocks)])) (fun target kt => ?_) ?_
  · refine XS.iload X131.here hx rfl (hb hby d3_280) rfl ?_
    refine XS.iload X131.here hx rfl (hb hby d3_282) rfl ?_
    refine XS.iadd X131.here hx rfl (hb hby d3_284) rfl ?_
    refine XS.aload X131.here hx rfl (hb hby d3_285) rfl rfl ?_
    refine XS.iload X131.here hx rfl (hb hby d3_287) rfl ?_
    refine X131.iaload hx (j := (0 : Int32)) (v := (.int b0_)) (by rw [e131]; exact Ar145.1) (State.isArrayOf_alike hZ.alike Ar145.2.1) Ar145.2.2 hin145 hat145 (g := (mkF m 289 #[.val (.ref a0_), .val (.int 0), .val (.int 0), .val (.int 0), .val (.double (FP.l2d (1 : Int64))), .second, .val (.ref we_), .val (.ref wb_), .val (.ref wp_), .val (.int 0), .val (.int 0), .val (.int 0)] [(.int 0), (.ref wb_), (.int 0), (.ref x_blocks)])) rfl rfl (hb hby d3_289) _ ?_
    exact kt
  have ne146 : a0_ ≠ x_blocks := Nat.ne_of_lt (Nat.lt_trans (Nat.lt_trans (Nat.lt_trans (Nat.lt_trans (Nat.lt_trans (Nat.lt_trans (Nat.lt_trans (Nat.lt_trans (Nat.lt_trans o_a0__x_starts o_x_starts_x_nexts) o_x_nexts_x_ends) o_x_ends_x_bounds) o_x_bounds_x_windows) o_x_windows_x_heap) o_x_heap_x_heapBounds) o_x_heapBounds_x_heapStarts) o_x_heapStarts_x_entries) o_x_entries_x_blocks)
  have ne147 : x_starts ≠ x_blocks := Nat.ne_of_lt (Nat.lt_trans (Nat.lt_trans (Nat.lt_trans (Nat.lt_trans (Nat.lt_trans (Nat.lt_trans (Nat.lt_trans (Nat.lt_trans o_x_starts_x_nexts o_x_nexts_x_ends) o_x_ends_x_bounds) o_x_bounds_x_windows) o_x_windows_x_heap) o_x_heap_x_heapBounds) o_x_heapBounds_x_heapStarts) o_x_heapStarts_x_entries) o_x_entries_x_blocks)
  have ne148 : x_nexts ≠ x_blocks := Nat.ne_of_lt (Nat.lt_trans (Nat.lt_trans (Nat.lt_trans (Nat.lt_trans (Nat.lt_trans (Nat.lt_trans (Nat.lt_trans o_x_nexts_x_ends o_x_ends_x_bounds) o_x_bounds_x_windows) o_x_windows_x_heap) o_x_heap_x_heapBounds) o_x_heapBounds_x_heapStarts) o_x_heapStarts_x_entries) o_x_entries_x_blocks)
  have ne149 : x_ends ≠ x_blocks := Nat.ne_of_lt (Nat.lt_trans (Nat.lt_trans (Nat.lt_trans (Nat.lt_trans (Nat.lt_trans (Nat.lt_trans o_x_ends_x_bounds o_x_bounds_x_windows) o_x_windows_x_heap) o_x_heap_x_heapBounds) o_x_heapBounds_x_heapStarts) o_x_heapStarts_x_entries) o_x_entries_x_blocks)
  have ne150 : x_bounds ≠ x_blocks := Nat.ne_of_lt (Nat.lt_trans (Nat.lt_trans (Nat.lt_trans (Nat.lt_trans (Nat.lt_trans o_x_bounds_x_windows o_x_windows_x_heap) o_x_heap_x_heapBounds) o_x_heapBounds_x_heapStarts) o_x_heapStarts_x_entries) o_x_entries_x_blocks)
  have ne151 : x_windows ≠ x_blocks := Nat.ne_of_lt (Nat.lt_trans (Nat.lt_trans (Nat.lt_trans (Nat.lt_trans o_x_windows_x_heap o_x_heap_x_heapBounds) o_x_heapBounds_x_heapStarts) o_x_heapStarts_x_entries) o_x_entries_x_blocks)
  have ne152 : x_entries ≠ x_blocks := Nat.ne_of_lt o_x_entries_x_blocks
  have ne153 : x_blocks ≠ x_parts := Nat.ne_of_lt o_x_blocks_x_parts
  have c154 := (((((((V_blocks.other W14 (Ne.symm ne146)).other W22 (Ne.symm ne147)).other W31 (Ne.symm ne148)).other W41 (Ne.symm ne149)).other W52 (Ne.symm ne150)).other W64 (Ne.symm ne151)).other W94 (Ne.symm ne152)).other W122 ne153
  obtain ⟨cl155, Ar155, q155, S155, M155, H155, G155⟩ := id c154
  have hin155 : ¬ ((0 : Int32) < 0 ∨ cl155.slots.size ≤ ((0 : Int32)).toNatClampNeg) := inb_of S155 ⟨by decide, by decide⟩
  obtain ⟨T155, h155, X155, e155, W155, st155⟩ := stI X131 hx hZ e131 Ar155 (j := (0 : Int32)) hin155 (g := (mkF m 290 #[.val (.ref a0_), .val (.int 0), .val (.int 0), .val (.int 0), .val (.double (FP.l2d (1 : Int64))), .second, .val (.ref we_), .val (.ref wb_), .val (.ref wp_), .val (.int 0), .val (.int 0), .val (.int 0)] [(.int b0_), (.int 0), (.ref x_blocks)])) rfl rfl (hb hby d3_290)
  have V156 : Arv Z h155 x_blocks k_blocks .int (16 : Int32) [(.int b0_), (.int 0), (.int 0), (.int 0)] (.int 0) := Arv.set Ar155 q155 S155 M155 H155 G155 rfl W155 0 rfl (Nat.le_of_ble_eq_true rfl)
  have K157 := K124.wr W155 (Or.inl (List.mem_of_getElem? (i := 10) rfl))
  have O158 := O125.wr W155 g_blocks
  have N155 := Fr.snoc X155 N122 g_blocks
  refine Go.st st155 ?_
  refine Go.st (t' := T155.setTop (mkF m 270 #[.val (.ref a0_), .val (.int 0), .val (.int 0), .val (.int 0), .val (.double (FP.l2d (1 : Int64))), .second, .val (.ref we_), .val (.ref wb_), .val (.ref wp_), .val (.int 0), .val (.int 0), .val (.int 1)] [(.ref a0_), (.int 1)])) (fun target kt => ?_) ?_
  · refine XS.iinc X155.here hx rfl (hb hby d3_291) rfl (l' := #[.val (.ref a0_), .val (.int 0), .val (.int 0), .val (.int 0), .val (.double (FP.l2d (1 : Int64))), .second, .val (.ref we_), .val (.ref wb_), .val (.ref wp_), .val (.int 0), .val (.int 0), .val (.int 1)]) rfl ?_
    refine XS.goto X155.here hx rfl (pc0 := 294) (pc' := 267) rfl (hb hby d3_294) (by decide) (by decide) ?_
    refine XS.iload X155.here hx rfl (hb hby d3_267) rfl ?_
    refine XS.aloadN X155.here hx rfl (hb hby d3_269) rfl rfl ?_
    exact kt
  have c159 := c127.other W155 (Or.inl ne146)
  obtain ⟨T160, X160, e160, st160⟩ := getF X155 hx hZ hown (host := "") (Or.inl (hw _ tw29)) Via.refl e155 c159 (g := (mkF m 270 #[.val (.ref a0_), .val (.int 0), .val (.int 0), .val (.int 0), .val (.double (FP.l2d (1 : Int64))), .second, .val (.ref we_), .val (.ref wb_), .val (.ref wp_), .val (.int 0), .val (.int 0), .val (.int 1)] [(.ref a0_), (.int 1)])) rfl rfl (hb hby d3_270)
  refine Go.st st160 ?_
  refine Go.st (t' := T160.setTop (mkF m 300 #[.val (.ref a0_), .val (.int 0), .val (.int 0), .val (.int 0), .val (.double (FP.l2d (1 : Int64))), .second, .val (.ref we_), .val (.ref wb_), .val (.ref wp_), .val (.int 0), .val (.int 0), .val (.int 1)] [(.int 0), (.ref a0_)])) (fun target kt => ?_) ?_
  · refine XS.icmpYes X160.here hx rfl (pc0 := 273) (pc' := 297) rfl (hb hby d3_273) rfl (flt (by decide : ¬ ((1 : Int32) < (1 : Int32)))).2.1 (by decide) (by decide) ?_
    refine XS.aloadN X160.here hx rfl (hb hby d3_297) rfl rfl ?_
    refine XS.iload X160.here hx rfl (hb hby d3_298) rfl ?_
    exact kt
  have c161 := E0.keep K157
  have S_162 : Keep h14 h155 [x_starts, x_nexts, x_ends, x_bounds, x_windows, x_entries, x_parts, x_blocks] := (((((((((Keep.refl h14 [x_starts, x_nexts, x_ends, x_bounds, x_windows, x_entries, x_parts, x_blocks]).wr W22 (Or.inl mI0)).wr W31 (Or.inl mI1)).wr W41 (Or.inl mI2)).wr W52 (Or.inl mI3)).wr W64 (Or.inl mI4)).wr W94 (Or.inl mI5)).wr W122 (Or.inl (List.mem_of_getElem? (i := 6) rfl))).wr W155 (Or.inl (List.mem_of_getElem? (i := 7) rfl)))
  have c163 := c18.keep S_162 (ninS ne20 (ninS ne28 (ninS ne37 (ninS ne47 (ninS ne58 (ninS ne87 (ninS ne114 (ninS ne146 nin0))))))))
  have S_164 : Keep h22 h155 [x_nexts, x_ends, x_bounds, x_windows, x_entries, x_parts, x_blocks] := ((((((((Keep.refl h22 [x_nexts, x_ends, x_bounds, x_windows, x_entries, x_parts, x_blocks]).wr W31 (Or.inl mI0)).wr W41 (Or.inl mI1)).wr W52 (Or.inl mI2)).wr W64 (Or.inl mI3)).wr W94 (Or.inl mI4)).wr W122 (Or.inl mI5)).wr W155 (Or.inl (List.mem_of_getElem? (i := 6) rfl)))
  have c165 := c26.keep S_164 (ninS ne28 (ninS ne37 (ninS ne47 (ninS ne58 (ninS ne87 (ninS ne114 (ninS ne146 nin0)))))))
  have S_166 : Keep h31 h155 [x_ends, x_bounds, x_windows, x_entries, x_parts, x_blocks] := (((((((Keep.refl h31 [x_ends, x_bounds, x_windows, x_entries, x_parts, x_blocks]).wr W41 (Or.inl mI0)).wr W52 (Or.inl mI1)).wr W64 (Or.inl mI2)).wr W94 (Or.inl mI3)).wr W122 (Or.inl mI4)).wr W155 (Or.inl mI5))
  have c167 := c35.keep S_166 (ninS ne37 (ninS ne47 (ninS ne58 (ninS ne87 (ninS ne114 (ninS ne146 nin0))))))
  have S_168 : Keep h41 h155 [x_bounds, x_windows, x_entries, x_parts, x_blocks] := ((((((Keep.refl h41 [x_bounds, x_windows, x_entries, x_parts, x_blocks]).wr W52 (Or.inl mI0)).wr W64 (Or.inl mI1)).wr W94 (Or.inl mI2)).wr W122 (Or.inl mI3)).wr W155 (Or.inl mI4))
  have c169 := c45.keep S_168 (ninS ne47 (ninS ne58 (ninS ne87 (ninS ne114 (ninS ne146 nin0)))))
  have S_170 : Keep h52 h155 [x_windows, x_entries, x_parts, x_blocks] := (((((Keep.refl h52 [x_windows, x_entries, x_parts, x_blocks]).wr W64 (Or.inl mI0)).wr W94 (Or.inl mI1)).wr W122 (Or.inl mI2)).wr W155 (Or.inl mI3))
  have c171 := c56.keep S_170 (ninS ne58 (ninS ne87 (ninS ne114 (ninS ne146 nin0))))
  have c172 := ((((((((F_heap.other W14 (Or.inr (slot_ne (Or.inl (hw _ tw24)) (Or.inl (hw _ tw43)) (by decide) (t := (.array .int)) (t' := .int) (by decide) (by decide)))).other W22 (Or.inl ne20)).other W31 (Or.inl ne28)).other W41 (Or.inl ne37)).other W52 (Or.inl ne47)).other W64 (Or.inl ne58)).other W94 (Or.inl ne87)).other W122 (Or.inl ne114)).other W155 (Or.inl ne146)
  have c173 := ((((((((F_heapBounds.other W14 (Or.inr (slot_ne (Or.inl (hw _ tw26)) (Or.inl (hw _ tw43)) (by decide) (t := (.array .double)) (t' := .int) (by decide) (by decide)))).other W22 (Or.inl ne20)).other W31 (Or.inl ne28)).other W41 (Or.inl ne37)).other W52 (Or.inl ne47)).other W64 (Or.inl ne58)).other W94 (Or.inl ne87)).other W122 (Or.inl ne114)).other W155 (Or.inl ne146)
  have c174 := ((((((((F_heapStarts.other W14 (Or.inr (slot_ne (Or.inl (hw _ tw28)) (Or.inl (hw _ tw43)) (by decide) (t := (.array .int)) (t' := .int) (by decide) (by decide)))).other W22 (Or.inl ne20)).other W31 (Or.inl ne28)).other W41 (Or.inl ne37)).other W52 (Or.inl ne47)).other W64 (Or.inl ne58)).other W94 (Or.inl ne87)).other W122 (Or.inl ne114)).other W155 (Or.inl ne146)
  have S_175 : Keep h64 h155 [x_entries, x_parts, x_blocks] := ((((Keep.refl h64 [x_entries, x_parts, x_blocks]).wr W94 (Or.inl mI0)).wr W122 (Or.inl mI1)).wr W155 (Or.inl mI2))
  have c176 := c71.keep S_175 (ninS ne87 (ninS ne114 (ninS ne146 nin0)))
  have c177 := c130.other W155 (Or.inl ne146)
  have S_178 : Keep h94 h155 [x_parts, x_blocks] := (((Keep.refl h94 [x_parts, x_blocks]).wr W122 (Or.inl mI0)).wr W155 (Or.inl mI1))
  have c179 := c98.keep S_178 (ninS ne114 (ninS ne146 nin0))
  have c180 := F15.keep S_162 (ninS ne20 (ninS ne28 (ninS ne37 (ninS ne47 (ninS ne58 (ninS ne87 (ninS ne114 (ninS ne146 nin0))))))))
  have c181 := ((((((((F_size.other W14 (Or.inr (slot_ne (Or.inl (hw _ tw49)) (Or.inl (hw _ tw43)) (by decide) (t := .int) (t' := .int) (by decide) (by decide)))).other W22 (Or.inl ne20)).other W31 (Or.inl ne28)).other W41 (Or.inl ne37)).other W52 (Or.inl ne47)).other W64 (Or.inl ne58)).other W94 (Or.inl ne87)).other W122 (Or.inl ne114)).other W155 (Or.inl ne146)
  have ne182 : a0_ ≠ x_heap := Nat.ne_of_lt (Nat.lt_trans (Nat.lt_trans (Nat.lt_trans (Nat.lt_trans (Nat.lt_trans o_a0__x_starts o_x_starts_x_nexts) o_x_nexts_x_ends) o_x_ends_x_bounds) o_x_bounds_x_windows) o_x_windows_x_heap)
  have ne183 : x_starts ≠ x_heap := Nat.ne_of_lt (Nat.lt_trans (Nat.lt_trans (Nat.lt_trans (Nat.lt_trans o_x_starts_x_nexts o_x_nexts_x_ends) o_x_ends_x_bounds) o_x_bounds_x_windows) o_x_windows_x_heap)
  have ne184 : x_nexts ≠ x_heap := Nat.ne_of_lt (Nat.lt_trans (Nat.lt_trans (Nat.lt_trans o_x_nexts_x_ends o_x_ends_x_bounds) o_x_bounds_x_windows) o_x_windows_x_heap)
  have ne185 : x_ends ≠ x_heap := Nat.ne_of_lt (Nat.lt_trans (Nat.lt_trans o_x_ends_x_bounds o_x_bounds_x_windows) o_x_windows_x_heap)
  have ne186 : x_bounds ≠ x_heap := Nat.ne_of_lt (Nat.lt_trans o_x_bounds_x_windows o_x_windows_x_heap)
  have ne187 : x_windows ≠ x_heap := Nat.ne_of_lt o_x_windows_x_heap
  have ne188 : x_heap ≠ x_entries := Nat.ne_of_lt (Nat.lt_trans (Nat.lt_trans o_x_heap_x_heapBounds o_x_heapBounds_x_heapStarts) o_x_heapStarts_x_entries)
  have ne189 : x_heap ≠ x_parts := Nat.ne_of_lt (Nat.lt_trans (Nat.lt_trans (Nat.lt_trans (Nat.lt_trans o_x_heap_x_heapBounds o_x_heapBounds_x_heapStarts) o_x_heapStarts_x_entries) o_x_entries_x_blocks) o_x_blocks_x_parts)
  have ne190 : x_heap ≠ x_blocks := Nat.ne_of_lt (Nat.lt_trans (Nat.lt_trans (Nat.lt_trans o_x_heap_x_heapBounds o_x_heapBounds_x_heapStarts) o_x_heapStarts_x_entries) o_x_entries_x_blocks)
  have c191 := ((((((((V_heap.other W14 (Ne.symm ne182)).other W22 (Ne.symm ne183)).other W31 (Ne.symm ne184)).other W41 (Ne.symm ne185)).other W52 (Ne.symm ne186)).other W64 (Ne.symm ne187)).other W94 ne188).other W122 ne189).other W155 ne190
  have ne192 : a0_ ≠ x_heapBounds := Nat.ne_of_lt (Nat.lt_trans (Nat.lt_trans (Nat.lt_trans (Nat.lt_trans (Nat.lt_trans (Nat.lt_trans o_a0__x_starts o_x_starts_x_nexts) o_x_nexts_x_ends) o_x_ends_x_bounds) o_x_bounds_x_windows) o_x_windows_x_heap) o_x_heap_x_heapBounds)
  have ne193 : x_starts ≠ x_heapBounds := Nat.ne_of_lt (Nat.lt_trans (Nat.lt_trans (Nat.lt_trans (Nat.lt_trans (Nat.lt_trans o_x_starts_x_nexts o_x_nexts_x_ends) o_x_ends_x_bounds) o_x_bounds_x_windows) o_x_windows_x_heap) o_x_heap_x_heapBounds)
  have ne194 : x_nexts ≠ x_heapBounds := Nat.ne_of_lt (Nat.lt_trans (Nat.lt_trans (Nat.lt_trans (Nat.lt_trans o_x_nexts_x_ends o_x_ends_x_bounds) o_x_bounds_x_windows) o_x_windows_x_heap) o_x_heap_x_heapBounds)
  have ne195 : x_ends ≠ x_heapBounds := Nat.ne_of_lt (Nat.lt_trans (Nat.lt_trans (Nat.lt_trans o_x_ends_x_bounds o_x_bounds_x_windows) o_x_windows_x_heap) o_x_heap_x_heapBounds)
  have ne196 : x_bounds ≠ x_heapBounds := Nat.ne_of_lt (Nat.lt_trans (Nat.lt_trans o_x_bounds_x_windows o_x_windows_x_heap) o_x_heap_x_heapBounds)
  have ne197 : x_windows ≠ x_heapBounds := Nat.ne_of_lt (Nat.lt_trans o_x_windows_x_heap o_x_heap_x_heapBounds)
  have ne198 : x_heapBounds ≠ x_entries := Nat.ne_of_lt (Nat.lt_trans o_x_heapBounds_x_heapStarts o_x_heapStarts_x_entries)
  have ne199 : x_heapBounds ≠ x_parts := Nat.ne_of_lt (Nat.lt_trans (Nat.lt_trans (Nat.lt_trans o_x_heapBounds_x_heapStarts o_x_heapStarts_x_entries) o_x_entries_x_blocks) o_x_blocks_x_parts)
  have ne200 : x_heapBounds ≠ x_blocks := Nat.ne_of_lt (Nat.lt_trans (Nat.lt_trans o_x_heapBounds_x_heapStarts o_x_heapStarts_x_entries) o_x_entries_x_blocks)
  have c201 := ((((((((V_heapBounds.other W14 (Ne.symm ne192)).other W22 (Ne.symm ne193)).other W31 (Ne.symm ne194)).other W41 (Ne.symm ne195)).other W52 (Ne.symm ne196)).other W64 (Ne.symm ne197)).other W94 ne198).other W122 ne199).other W155 ne200
  have ne202 : a0_ ≠ x_heapStarts := Nat.ne_of_lt (Nat.lt_trans (Nat.lt_trans (Nat.lt_trans (Nat.lt_trans (Nat.lt_trans (Nat.lt_trans (Nat.lt_trans o_a0__x_starts o_x_starts_x_nexts) o_x_nexts_x_ends) o_x_ends_x_bounds) o_x_bounds_x_windows) o_x_windows_x_heap) o_x_heap_x_heapBounds) o_x_heapBounds_x_heapStarts)
  have ne203 : x_starts ≠ x_heapStarts := Nat.ne_of_lt (Nat.lt_trans (Nat.lt_trans (Nat.lt_trans (Nat.lt_trans (Nat.lt_trans (Nat.lt_trans o_x_starts_x_nexts o_x_nexts_x_ends) o_x_ends_x_bounds) o_x_bounds_x_windows) o_x_windows_x_heap) o_x_heap_x_heapBounds) o_x_heapBounds_x_heapStarts)
  have ne204 : x_nexts ≠ x_heapStarts := Nat.ne_of_lt (Nat.lt_trans (Nat.lt_trans (Nat.lt_trans (Nat.lt_trans (Nat.lt_trans o_x_nexts_x_ends o_x_ends_x_bounds) o_x_bounds_x_windows) o_x_windows_x_heap) o_x_heap_x_heapBounds) o_x_heapBounds_x_heapStarts)
  have ne205 : x_ends ≠ x_heapStarts := Nat.ne_of_lt (Nat.lt_trans (Nat.lt_trans (Nat.lt_trans (Nat.lt_trans o_x_ends_x_bounds o_x_bounds_x_windows) o_x_windows_x_heap) o_x_heap_x_heapBounds) o_x_heapBounds_x_heapStarts)
  have ne206 : x_bounds ≠ x_heapStarts := Nat.ne_of_lt (Nat.lt_trans (Nat.lt_trans (Nat.lt_trans o_x_bounds_x_windows o_x_windows_x_heap) o_x_heap_x_heapBounds) o_x_heapBounds_x_heapStarts)
  have ne207 : x_windows ≠ x_heapStarts := Nat.ne_of_lt (Nat.lt_trans (Nat.lt_trans o_x_windows_x_heap o_x_heap_x_heapBounds) o_x_heapBounds_x_heapStarts)
  have ne208 : x_heapStarts ≠ x_entries := Nat.ne_of_lt o_x_heapStarts_x_entries
  have ne209 : x_heapStarts ≠ x_parts := Nat.ne_of_lt (Nat.lt_trans (Nat.lt_trans o_x_heapStarts_x_entries o_x_entries_x_blocks) o_x_blocks_x_parts)
  have ne210 : x_heapStarts ≠ x_blocks := Nat.ne_of_lt (Nat.lt_trans o_x_heapStarts_x_entries o_x_entries_x_blocks)
  have c211 := ((((((((V_heapStarts.other W14 (Ne.symm ne202)).other W22 (Ne.symm ne203)).other W31 (Ne.symm ne204)).other W41 (Ne.symm ne205)).other W52 (Ne.symm ne206)).other W64 (Ne.symm ne207)).other W94 ne208).other W122 ne209).other W155 ne210
  have c212 := V23.keep S_164 (ninS ne29 (ninS ne38 (ninS ne48 (ninS ne59 (ninS ne88 (ninS ne115 (ninS ne147 nin0)))))))
  have c213 := V53.keep S_170 (ninS ne62 (ninS ne91 (ninS ne118 (ninS ne150 nin0))))
  refine Go.cps (own_cp (W := 0) (b := a0_) (argsL := [(.int 0)]) (rest := []) X160 hx hZ hown (hw _ tw44) (hw _ tw45) (own_selp (y := (⟨sq0, "push", "(I)V"⟩ : MethodName)) (hw _ tw4) (hw _ tw46) (hw _ tw45) (by decide)) (hw _ tw46) (hw _ tw47) (hw _ tw5) (by decide) e160 c161 (rm4_0 l Z a0 hw [] a0_ x_starts x_nexts x_ends x_bounds x_windows x_heap x_heapBounds x_heapStarts x_entries x_blocks x_parts k_heap k_heapBounds k_heapStarts k_starts k_bounds (1 : Int32) (1 : Int32) h155 n0 (Nat.le_trans Z0 K157.1) O158  c161 c163 c165 c167 c169 c171 c172 c173 c174 c176 c177 c179 c159 c180 c181 c191 c201 c211 c212 c213 g_a0 g_heap g_heapBounds g_heapStarts o_a0__x_starts (Nat.lt_trans (Nat.lt_trans o_x_starts_x_nexts o_x_nexts_x_ends) o_x_ends_x_bounds) (Nat.lt_trans o_x_bounds_x_windows o_x_windows_x_heap) o_x_heap_x_heapBounds o_x_heapBounds_x_heapStarts) rfl (by rw [hml]; rfl) (lenOf pd2 rfl) rfl (Nat.le_of_eq rfl) (hb hby d3_300) rfl (by decide) (by decide) (by decide) (by decide)) ?_
  rintro T214 _ L214 X214 ⟨rfl, Nq214, Kq214, q215, q216, q217, q218, q219, q220, q221, q222, q223, q224, q225, q226, q227, q228, q229, q230, q231, q232⟩
  have N214 := Fr.app N155 Nq214
  have K233 := K157.trans Kq214 (allS (Or.inl mI0) (allS (Or.inl (List.mem_of_getElem? (i := 6) rfl)) (allS (Or.inl (List.mem_of_getElem? (i := 7) rfl)) (allS (Or.inl (List.mem_of_getElem? (i := 8) rfl)) all0))))
  have O234 := O158.keep Kq214 (allS g_a0 (allS g_heap (allS g_heapBounds (allS g_heapStarts all0))))
  have c235 := c212.keep Kq214 (ninS (Ne.symm ne20) (ninS ne183 (ninS ne193 (ninS ne203 nin0))))
  have S_236 : Keep h31 T214.heap [x_ends, x_bounds, x_windows, x_entries, x_parts, x_blocks, a0_, x_heap, x_heapBounds, x_heapStarts] := ((((((((Keep.refl h31 [x_ends, x_bounds, x_windows, x_entries, x_parts, x_blocks, a0_, x_heap, x_heapBounds, x_heapStarts]).wr W41 (Or.inl mI0)).wr W52 (Or.inl mI1)).wr W64 (Or.inl mI2)).wr W94 (Or.inl mI3)).wr W122 (Or.inl mI4)).wr W155 (Or.inl mI5)).trans Kq214 (allS (Or.inl (List.mem_of_getElem? (i := 6) rfl)) (allS (Or.inl (List.mem_of_getElem? (i := 7) rfl)) (allS (Or.inl (List.mem_of_getElem? (i := 8) rfl)) (allS (Or.inl (List.mem_of_getElem? (i := 9) rfl)) all0)))))
  have c237 := V32.keep S_236 (ninS ne39 (ninS ne49 (ninS ne60 (ninS ne89 (ninS ne116 (ninS ne148 (ninS (Ne.symm ne28) (ninS ne184 (ninS ne194 (ninS ne204 nin0))))))))))
  have S_238 : Keep h41 T214.heap [x_bounds, x_windows, x_entries, x_parts, x_blocks, a0_, x_heap, x_heapBounds, x_heapStarts] := (((((((Keep.refl h41 [x_bounds, x_windows, x_entries, x_parts, x_blocks, a0_, x_heap, x_heapBounds, x_heapStarts]).wr W52 (Or.inl mI0)).wr W64 (Or.inl mI1)).wr W94 (Or.inl mI2)).wr W122 (Or.inl mI3)).wr W155 (Or.inl mI4)).trans Kq214 (allS (Or.inl mI5) (allS (Or.inl (List.mem_of_getElem? (i := 6) rfl)) (allS (Or.inl (List.mem_of_getElem? (i := 7) rfl)) (allS (Or.inl (List.mem_of_getElem? (i := 8) rfl)) all0)))))
  have c239 := V42.keep S_238 (ninS ne50 (ninS ne61 (ninS ne90 (ninS ne117 (ninS ne149 (ninS (Ne.symm ne37) (ninS ne185 (ninS ne195 (ninS ne205 nin0)))))))))
  have c240 := c213.keep Kq214 (ninS (Ne.symm ne47) (ninS ne186 (ninS ne196 (ninS ne206 nin0))))
  have S_241 : Keep h64 T214.heap [x_entries, x_parts, x_blocks, a0_, x_heap, x_heapBounds, x_heapStarts] := (((((Keep.refl h64 [x_entries, x_parts, x_blocks, a0_, x_heap, x_heapBounds, x_heapStarts]).wr W94 (Or.inl mI0)).wr W122 (Or.inl mI1)).wr W155 (Or.inl mI2)).trans Kq214 (allS (Or.inl mI3) (allS (Or.inl mI4) (allS (Or.inl mI5) (allS (Or.inl (List.mem_of_getElem? (i := 6) rfl)) all0)))))
  have c242 := V65.keep S_241 (ninS ne92 (ninS ne119 (ninS ne151 (ninS (Ne.symm ne58) (ninS ne187 (ninS ne197 (ninS ne207 nin0)))))))
  have S_243 : Keep h94 T214.heap [x_parts, x_blocks, a0_, x_heap, x_heapBounds, x_heapStarts] := ((((Keep.refl h94 [x_parts, x_blocks, a0_, x_heap, x_heapBounds, x_heapStarts]).wr W122 (Or.inl mI0)).wr W155 (Or.inl mI1)).trans Kq214 (allS (Or.inl mI2) (allS (Or.inl mI3) (allS (Or.inl mI4) (allS (Or.inl mI5) all0)))))
  have c244 := V95.keep S_243 (ninS ne120 (ninS ne152 (ninS (Ne.symm ne87) (ninS (Ne.symm ne188) (ninS (Ne.symm ne198) (ninS (Ne.symm ne208) nin0))))))
  have c245 := V156.keep Kq214 (ninS (Ne.symm ne146) (ninS (Ne.symm ne190) (ninS (Ne.symm ne200) (ninS (Ne.symm ne210) nin0))))
  have S_246 : Keep h122 T214.heap [x_blocks, a0_, x_heap, x_heapBounds, x_heapStarts] := (((Keep.refl h122 [x_blocks, a0_, x_heap, x_heapBounds, x_heapStarts]).wr W155 (Or.inl mI0)).trans Kq214 (allS (Or.inl mI1) (allS (Or.inl mI2) (allS (Or.inl mI3) (allS (Or.inl mI4) all0)))))
  have c247 := V123.keep S_246 (ninS (Ne.symm ne153) (ninS (Ne.symm ne114) (ninS (Ne.symm ne189) (ninS (Ne.symm ne199) (ninS (Ne.symm ne209) nin0)))))
  refine Go.ret X214 (v := none) (fun _ => rfl) hlk (fun fs hr => X214.returnOut hx hret (hb hby d3_303) hr) ?_ (by decide) (by decide)
  show Q3_1_0 Z a0_ we_ wb_ wp_ x_starts x_nexts x_ends x_bounds x_windows x_heap x_heapBounds x_heapStarts x_entries x_blocks x_parts k_starts k_nexts k_ends k_bounds k_windows k_heap k_heapBounds k_heapStarts k_entries k_blocks k_parts e0_ e1_ b0_ b1_ d0_ d1_ ke_ kp_ kb_ h0 n0 _ T214.heap _
  exact ⟨rfl, N214, K233, q215, q227, q228, q229, q216, c235, q217, c237, q218, c239, q219, c240, q220, c242, q221, q230, q222, q231, q223, q232, q224, c244, q225, c245, q226, c247⟩
theorem d3_200 : decode prog_63_method_10_code 200 = .ok (.iconst 0, 1) := by decide +kernel
theorem ef3_1_1 (m : MethodId) (x0 : Addr) (x5 : Addr) (x7 : Addr) : entryFrame m #[(.ref x0), (.int 0), (.int 0), (.int 0), (.double (FP.l2d (1 : Int64))), (.ref x5), .null, (.ref x7)] 12 = mkF m 0 #[.val (.ref x0), .val (.int 0), .val (.int 0), .val (.int 0), .val (.double (FP.l2d (1 : Int64))), .second, .val (.ref x5), .val .null, .val (.ref x7), .unset, .unset, .unset] [] := by first | (simp [entryFrame, mkF, argsToLocals, Value.category]; done) | rfl
def Q3_1_1 (Z : State) (a0_ : Addr) (we_ : Addr) (wp_ : Addr) (x_starts : Addr) (x_nexts : Addr) (x_ends : Addr) (x_bounds : Addr) (x_windows : Addr) (x_heap : Addr) (x_heapBounds : Addr) (x_heapStarts : Addr) (x_entries : Addr) (x_blocks : Addr) (x_parts : Addr) (k_starts : ClassId) (k_nexts : ClassId) (k_ends : ClassId) (k_bounds : ClassId) (k_windows : ClassId) (k_heap : ClassId) (k_heapBounds : ClassId) (k_heapStarts : ClassId) (k_entries : ClassId) (k_blocks : ClassId) (k_parts : ClassId) (e0_ : Int32) (e1_ : Int32) (d0_ : UInt64) (d1_ : UInt64) (f0_ : Int32) (c0_ : Int32) (u0_ : UInt64) (ke_ : ClassId) (kp_ : ClassId) (h0 : Heap) (n0 : Nat) (v : Option Value) (h : Heap) (L : List Loc) : Prop := v = none ∧ Fr n0 L ∧ Keep h0 h [a0_, x_starts, x_nexts, x_ends, x_bounds, x_windows, x_heap, x_heapBounds, x_heapStarts, x_entries, x_blocks, x_parts] ∧ Exa Z h a0_ sq0 ∧ Fld Z h a0_ sq0 "count" "I" (.int 1) ∧ Fld Z h a0_ sq0 "added" "I" (.int 2) ∧ Fld Z h a0_ sq0 "size" "I" (.int 2) ∧ Fld Z h a0_ sq0 "starts" "[I" (.ref x_starts) ∧ Arv Z h x_starts k_starts .int (16 : Int32) [(.int 0), (.int 0), (.int 0), (.int 0)] (.int 0) ∧ Fld Z h a0_ sq0 "nexts" "[I" (.ref x_nexts) ∧ Arv Z h x_nexts k_nexts .int (16 : Int32) [(.int 0), (.int 0), (.int 0), (.int 0)] (.int 0) ∧ Fld Z h a0_ sq0 "ends" "[I" (.ref x_ends) ∧ Arv Z h x_ends k_ends .int (16 : Int32) [(.int 0), (.int 0), (.int 0), (.int 0)] (.int 0) ∧ Fld Z h a0_ sq0 "bounds" "[D" (.ref x_bounds) ∧ Arv Z h x_bounds k_bounds .double (16 : Int32) [(.double (FP.l2d (1 : Int64))), (.double (FP.l2d (1 : Int64))), (.double (FP.l2d 0)), (.double (FP.l2d 0))] (.double (FP.l2d 0)) ∧ Fld Z h a0_ sq0 "windows" "[Z" (.ref x_windows) ∧ Arv Z h x_windows k_windows .boolean (16 : Int32) [(.int 1), (.int 0), (.int 0), (.int 0)] (.int 0) ∧ Fld Z h a0_ sq0 "heap" "[I" (.ref x_heap) ∧ Arv Z h x_heap k_heap .int (16 : Int32) [(.int 0), (.int 1), (.int 0), (.int 0)] (.int 0) ∧ Fld Z h a0_ sq0 "heapBounds" "[D" (.ref x_heapBounds) ∧ Arv Z h x_heapBounds k_heapBounds .double (16 : Int32) [(.double (FP.l2d (1 : Int64))), (.double (FP.l2d (1 : Int64))), (.double (FP.l2d 0)), (.double (FP.l2d 0))] (.double (FP.l2d 0)) ∧ Fld Z h a0_ sq0 "heapStarts" "[I" (.ref x_heapStarts) ∧ Arv Z h x_heapStarts k_heapStarts .int (16 : Int32) [(.int 0), (.int 0), (.int 0), (.int 0)] (.int 0) ∧ Fld Z h a0_ sq0 "entries" "[I" (.ref x_entries) ∧ Arv Z h x_entries k_entries .int (16 : Int32) [(.int f0_), (.int e0_), (.int 0), (.int 0)] (.int 0) ∧ Fld Z h a0_ sq0 "blocks" "[I" (.ref x_blocks) ∧ Arv Z h x_blocks k_blocks .int (16 : Int32) [(.int c0_), (.int 0), (.int 0), (.int 0)] (.int 0) ∧ Fld Z h a0_ sq0 "parts" "[D" (.ref x_parts) ∧ Arv Z h x_parts k_parts .double (16 : Int32) [(.double u0_), (.double d0_), (.double (FP.l2d 0)), (.double (FP.l2d 0))] (.double (FP.l2d 0))
theorem rm3_1_1 (l : Launch) (Z : State) (a0 : Array Value) (hw : ∀ d ∈ tables_1, d.before a0 Z = true) (ws : List Jvm.Cond) (a0_ : Addr) (we_ : Addr) (wp_ : Addr) (x_starts : Addr) (x_nexts : Addr) (x_ends : Addr) (x_bounds : Addr) (x_windows : Addr) (x_heap : Addr) (x_heapBounds : Addr) (x_heapStarts : Addr) (x_entries : Addr) (x_blocks : Addr) (x_parts : Addr) (k_starts : ClassId) (k_nexts : ClassId) (k_ends : ClassId) (k_bounds : ClassId) (k_windows : ClassId) (k_heap : ClassId) (k_heapBounds : ClassId) (k_heapStarts : ClassId) (k_entries : ClassId) (k_blocks : ClassId) (k_parts : ClassId) (e0_ : Int32) (e1_ : Int32) (d0_ : UInt64) (d1_ : UInt64) (f0_ : Int32) (c0_ : Int32) (u0_ : UInt64) (ke_ : ClassId) (kp_ : ClassId) (h0 : Heap) (n0 : Nat) (Z0 : n0 ≤ h0.size) (O0 : Old Z n0 h0) (E0 : Exa Z h0 a0_ sq0) (F_count : Fld Z h0 a0_ sq0 "count" "I" (.int 1)) (F_added : Fld Z h0 a0_ sq0 "added" "I" (.int 1)) (F_size : Fld Z h0 a0_ sq0 "size" "I" (.int 1)) (F_starts : Fld Z h0 a0_ sq0 "starts" "[I" (.ref x_starts)) (V_starts : Arv Z h0 x_starts k_starts .int (16 : Int32) [(.int 0), (.int 0), (.int 0), (.int 0)] (.int 0)) (F_nexts : Fld Z h0 a0_ sq0 "nexts" "[I" (.ref x_nexts)) (V_nexts : Arv Z h0 x_nexts k_nexts .int (16 : Int32) [(.int 0), (.int 0), (.int 0), (.int 0)] (.int 0)) (F_ends : Fld Z h0 a0_ sq0 "ends" "[I" (.ref x_ends)) (V_ends : Arv Z h0 x_ends k_ends .int (16 : Int32) [(.int 0), (.int 0), (.int 0), (.int 0)] (.int 0)) (F_bounds : Fld Z h0 a0_ sq0 "bounds" "[D" (.ref x_bounds)) (V_bounds : Arv Z h0 x_bounds k_bounds .double (16 : Int32) [(.double (FP.l2d (1 : Int64))), (.double (FP.l2d 0)), (.double (FP.l2d 0)), (.double (FP.l2d 0))] (.double (FP.l2d 0))) (F_windows : Fld Z h0 a0_ sq0 "windows" "[Z" (.ref x_windows)) (V_windows : Arv Z h0 x_windows k_windows .boolean (16 : Int32) [(.int 1), (.int 0), (.int 0), (.int 0)] (.int 0)) (F_heap : Fld Z h0 a0_ sq0 "heap" "[I" (.ref x_heap)) (V_heap : Arv Z h0 x_heap k_heap .int (16 : Int32) [(.int 0), (.int 0), (.int 0), (.int 0)] (.int 0)) (F_heapBounds : Fld Z h0 a0_ sq0 "heapBounds" "[D" (.ref x_heapBounds)) (V_heapBounds : Arv Z h0 x_heapBounds k_heapBounds .double (16 : Int32) [(.double (FP.l2d (1 : Int64))), (.double (FP.l2d 0)), (.double (FP.l2d 0)), (.double (FP.l2d 0))] (.double (FP.l2d 0))) (F_heapStarts : Fld Z h0 a0_ sq0 "heapStarts" "[I" (.ref x_heapStarts)) (V_heapStarts : Arv Z h0 x_heapStarts k_heapStarts .int (16 : Int32) [(.int 0), (.int 0), (.int 0), (.int 0)] (.int 0)) (F_entries : Fld Z h0 a0_ sq0 "entries" "[I" (.ref x_entries)) (V_entries : Arv Z h0 x_entries k_entries .int (16 : Int32) [(.int f0_), (.int 0), (.int 0), (.int 0)] (.int 0)) (F_blocks : Fld Z h0 a0_ sq0 "blocks" "[I" (.ref x_blocks)) (V_blocks : Arv Z h0 x_blocks k_blocks .int (16 : Int32) [(.int c0_), (.int 0), (.int 0), (.int 0)] (.int 0)) (F_parts : Fld Z h0 a0_ sq0 "parts" "[D" (.ref x_parts)) (V_parts : Arv Z h0 x_parts k_parts .double (16 : Int32) [(.double u0_), (.double (FP.l2d 0)), (.double (FP.l2d 0)), (.double (FP.l2d 0))] (.double (FP.l2d 0))) (V_we : Arv Z h0 we_ ke_ .int (2 : Int32) [(.int e0_), (.int e1_)] (.int 0)) (V_wp : Arv Z h0 wp_ kp_ .double (2 : Int32) [(.double d0_), (.double d1_)] (.double (FP.l2d 0))) (g_a0 : n0 ≤ a0_) (g_starts : n0 ≤ x_starts) (g_nexts : n0 ≤ x_nexts) (g_ends : n0 ≤ x_ends) (g_bounds : n0 ≤ x_bounds) (g_windows : n0 ≤ x_windows) (g_heap : n0 ≤ x_heap) (g_heapBounds : n0 ≤ x_heapBounds) (g_heapStarts : n0 ≤ x_heapStarts) (g_entries : n0 ≤ x_entries) (g_blocks : n0 ≤ x_blocks) (g_parts : n0 ≤ x_parts) (o_we__wp_ : we_ < wp_) (o_wp__a0_ : wp_ < a0_) (o_a0__x_starts : a0_ < x_starts) (o_x_starts_x_nexts : x_starts < x_nexts) (o_x_nexts_x_ends : x_nexts < x_ends) (o_x_ends_x_bounds : x_ends < x_bounds) (o_x_bounds_x_windows : x_bounds < x_windows) (o_x_windows_x_heap : x_windows < x_heap) (o_x_heap_x_heapBounds : x_heap < x_heapBounds) (o_x_heapBounds_x_heapStarts : x_heapBounds < x_heapStarts) (o_x_heapStarts_x_entries : x_heapStarts < x_entries) (o_x_entries_x_blocks : x_entries < x_blocks) (o_x_blocks_x_parts : x_blocks < x_parts) :
    Met l Z ws (⟨sq0, "add", "(IIID[I[I[D)V"⟩ : MethodName) prog_63_method_10_code 12 none (Rm 2 0 0 35) #[(.ref a0_), (.int 0), (.int 0), (.int 0), (.double (FP.l2d (1 : Int64))), (.ref we_), .null, (.ref wp_)] h0 (Q3_1_1 Z a0_ we_ wp_ x_starts x_nexts x_ends x_bounds x_windows x_heap x_heapBounds x_heapStarts x_entries x_blocks x_parts k_starts k_nexts k_ends k_bounds k_windows k_heap k_heapBounds k_heapStarts k_entries k_blocks k_parts e0_ e1_ d0_ d1_ f0_ c0_ u0_ ke_ kp_ h0 n0) := by
  refine Met.enter (L0 := #[.val (.ref a0_), .val (.int 0), .val (.int 0), .val (.int 0), .val (.double (FP.l2d (1 : Int64))), .second, .val (.ref we_), .val .null, .val (.ref wp_), .unset, .unset, .unset]) (plainFor_of_name pn56) (fun m => ef3_1_1 m a0_ we_ wp_) ?_
  intro p e s m below meth c s₁ hx hby hml hown hnm hret hlk hZ X0 e0
  have N0 := Fr.nil n0
  have K0 : Keep h0 h0 [a0_, x_starts, x_nexts, x_ends, x_bounds, x_windows, x_heap, x_heapBounds, x_heapStarts, x_entries, x_blocks, x_parts] := Keep.refl h0 _
  refine Go.st (t' := s₁.setTop (mkF m 1 #[.val (.ref a0_), .val (.int 0), .val (.int 0), .val (.int 0), .val (.double (FP.l2d (1 : Int64))), .second, .val (.ref we_), .val .null, .val (.ref wp_), .unset, .unset, .unset] [(.ref a0_)])) (fun target kt => ?_) ?_
  · refine XS.aloadN X0.here hx rfl (hb hby d3_0) rfl rfl ?_
    exact kt
  obtain ⟨T10, X10, e10, st10⟩ := getF X0 hx hZ hown (host := "") (Or.inl (hw _ tw42)) Via.refl e0 F_added (g := (mkF m 1 #[.val (.ref a0_), .val (.int 0), .val (.int 0), .val (.int 0), .val (.double (FP.l2d (1 : Int64))), .second, .val (.ref we_), .val .null, .val (.ref wp_), .unset, .unset, .unset] [(.ref a0_)])) rfl rfl (hb hby d3_1)
  refine Go.st st10 ?_
  refine Go.st (t' := T10.setTop (mkF m 5 #[.val (.ref a0_), .val (.int 0), .val (.int 0), .val (.int 0), .val (.double (FP.l2d (1 : Int64))), .second, .val (.ref we_), .val .null, .val (.ref wp_), .unset, .unset, .unset] [(.ref a0_), (.int 1)])) (fun target kt => ?_) ?_
  · refine XS.aloadN X10.here hx rfl (hb hby d3_4) rfl rfl ?_
    exact kt
  obtain ⟨T11, X11, e11, st11⟩ := getF X10 hx hZ hown (host := "") (Or.inl (hw _ tw12)) Via.refl e10 F_starts (g := (mkF m 5 #[.val (.ref a0_), .val (.int 0), .val (.int 0), .val (.int 0), .val (.double (FP.l2d (1 : Int64))), .second, .val (.ref we_), .val .null, .val (.ref wp_), .unset, .unset, .unset] [(.ref a0_), (.int 1)])) rfl rfl (hb hby d3_5)
  refine Go.st st11 ?_
  obtain ⟨cl12, Ar12, -, S12, M12, -, -⟩ := id V_starts
  refine Go.st (t' := T11.setTop (mkF m 141 #[.val (.ref a0_), .val (.int 0), .val (.int 0), .val (.int 0), .val (.double (FP.l2d (1 : Int64))), .second, .val (.ref we_), .val .null, .val (.ref wp_), .unset, .unset, .unset] [(.ref a0_), (.ref a0_)])) (fun target kt => ?_) ?_
  · refine X11.arraylength hx (by rw [e11]; exact Ar12.1) (State.isArrayOf_alike hZ.alike Ar12.2.1) (g := (mkF m 8 #[.val (.ref a0_), .val (.int 0), .val (.int 0), .val (.int 0), .val (.double (FP.l2d (1 : Int64))), .second, .val (.ref we_), .val .null, .val (.ref wp_), .unset, .unset, .unset] [(.ref x_starts), (.int 1)])) rfl rfl (hb hby d3_8) _ ?_
    rw [len_of S12 M12]
    refine XS.icmpYes X11.here hx rfl (pc0 := 9) (pc' := 139) rfl (hb hby d3_9) rfl (feq (by decide : ¬ ((1 : Int32) = (16 : Int32)))).2 (by decide) (by decide) ?_
    refine XS.aloadN X11.here hx rfl (hb hby d3_139) rfl rfl ?_
    refine XS.dup X11.here hx rfl (hb hby d3_140) rfl rfl ?_
    exact kt
  obtain ⟨T13, X13, e13, st13⟩ := getF X11 hx hZ hown (host := "") (Or.inl (hw _ tw42)) Via.refl e11 F_added (g := (mkF m 141 #[.val (.ref a0_), .val (.int 0), .val (.int 0), .val (.int 0), .val (.double (FP.l2d (1 : Int64))), .second, .val (.ref we_), .val .null, .val (.ref wp_), .unset, .unset, .unset] [(.ref a0_), (.ref a0_)])) rfl rfl (hb hby d3_141)
  refine Go.st st13 ?_
  refine Go.st (t' := T13.setTop (mkF m 147 #[.val (.ref a0_), .val (.int 0), .val (.int 0), .val (.int 0), .val (.double (FP.l2d (1 : Int64))), .second, .val (.ref we_), .val .null, .val (.ref wp_), .unset, .unset, .unset] [(.int 2), (.ref a0_), (.int 1)])) (fun target kt => ?_) ?_
  · refine XS.dupX1 X13.here hx rfl (hb hby d3_144) rfl rfl rfl ?_
    refine XS.iconst X13.here hx rfl (hb hby d3_145) ?_
    refine XS.iadd X13.here hx rfl (hb hby d3_146) rfl ?_
    exact kt
  obtain ⟨T14, h14, X14, e14, W14, st14⟩ := putF X13 hx hZ hown (host := "") (Or.inl (hw _ tw42)) Via.refl e13 F_added E0 (Or.inl (hw _ tw43)) (hw _ tw4) (ty := .int) (by decide) rfl rfl (g := (mkF m 147 #[.val (.ref a0_), .val (.int 0), .val (.int 0), .val (.int 0), .val (.double (FP.l2d (1 : Int64))), .second, .val (.ref we_), .val .null, .val (.ref wp_), .unset, .unset, .unset] [(.int 2), (.ref a0_), (.int 1)])) rfl rfl (hb hby d3_147)
  have F15 : Fld Z h14 a0_ sq0 "added" "I" (.int 2) := F_added.same W14
  have K16 := K0.wr W14 (Or.inl mI0)
  have O17 := O0.wr W14 g_a0
  have N14 := Fr.snoc X14 N0 g_a0
  refine Go.st st14 ?_
  refine Go.st (t' := T14.setTop (mkF m 153 #[.val (.ref a0_), .val (.int 0), .val (.int 0), .val (.int 0), .val (.double (FP.l2d (1 : Int64))), .second, .val (.ref we_), .val .null, .val (.ref wp_), .val (.int 1), .unset, .unset] [(.ref a0_)])) (fun target kt => ?_) ?_
  · refine XS.istore X14.here hx rfl (hb hby d3_150) rfl (l' := #[.val (.ref a0_), .val (.int 0), .val (.int 0), .val (.int 0), .val (.double (FP.l2d (1 : Int64))), .second, .val (.ref we_), .val .null, .val (.ref wp_), .val (.int 1), .unset, .unset]) rfl ?_
    refine XS.aloadN X14.here hx rfl (hb hby d3_152) rfl rfl ?_
    exact kt
  have c18 := F_starts.other W14 (Or.inr (slot_ne (Or.inl (hw _ tw13)) (Or.inl (hw _ tw43)) (by decide) (t := (.array .int)) (t' := .int) (by decide) (by decide)))
  obtain ⟨T19, X19, e19, st19⟩ := getF X14 hx hZ hown (host := "") (Or.inl (hw _ tw12)) Via.refl e14 c18 (g := (mkF m 153 #[.val (.ref a0_), .val (.int 0), .val (.int 0), .val (.int 0), .val (.double (FP.l2d (1 : Int64))), .second, .val (.ref we_), .val .null, .val (.ref wp_), .val (.int 1), .unset, .unset] [(.ref a0_)])) rfl rfl (hb hby d3_153)
  refine Go.st st19 ?_
  refine Go.st (t' := T19.setTop (mkF m 159 #[.val (.ref a0_), .val (.int 0), .val (.int 0), .val (.int 0), .val (.double (FP.l2d (1 : Int64))), .second, .val (.ref we_), .val .null, .val (.ref wp_), .val (.int 1), .unset, .unset] [(.int 0), (.int 1), (.ref x_starts)])) (fun target kt => ?_) ?_
  · refine XS.iload X19.here hx rfl (hb hby d3_156) rfl ?_
    refine XS.iloadN X19.here hx rfl (hb hby d3_158) rfl ?_
    exact kt
  have ne20 : a0_ ≠ x_starts := Nat.ne_of_lt o_a0__x_starts
  have c21 := V_starts.other W14 (Ne.symm ne20)
  obtain ⟨cl22, Ar22, q22, S22, M22, H22, G22⟩ := id c21
  have hin22 : ¬ ((1 : Int32) < 0 ∨ cl22.slots.size ≤ ((1 : Int32)).toNatClampNeg) := inb_of S22 ⟨by decide, by decide⟩
  obtain ⟨T22, h22, X22, e22, W22, st22⟩ := stI X19 hx hZ e19 Ar22 (j := (1 : Int32)) hin22 (g := (mkF m 159 #[.val (.ref a0_), .val (.int 0), .val (.int 0), .val (.int 0), .val (.double (FP.l2d (1 : Int64))), .second, .val (.ref we_), .val .null, .val (.ref wp_), .val (.int 1), .unset, .unset] [(.int 0), (.int 1), (.ref x_starts)])) rfl rfl (hb hby d3_159)
  have V23 : Arv Z h22 x_starts k_starts .int (16 : Int32) [(.int 0), (.int 0), (.int 0), (.int 0)] (.int 0) := Arv.set Ar22 q22 S22 M22 H22 G22 rfl W22 1 rfl (Nat.le_of_ble_eq_true rfl)
  have K24 := K16.wr W22 (Or.inl mI1)
  have O25 := O17.wr W22 g_starts
  have N22 := Fr.snoc X22 N14 g_starts
  refine Go.st st22 ?_
  refine Go.st (t' := T22.setTop (mkF m 161 #[.val (.ref a0_), .val (.int 0), .val (.int 0), .val (.int 0), .val (.double (FP.l2d (1 : Int64))), .second, .val (.ref we_), .val .null, .val (.ref wp_), .val (.int 1), .unset, .unset] [(.ref a0_)])) (fun target kt => ?_) ?_
  · refine XS.aloadN X22.here hx rfl (hb hby d3_160) rfl rfl ?_
    exact kt
  have c26 := (F_nexts.other W14 (Or.inr (slot_ne (Or.inl (hw _ tw15)) (Or.inl (hw _ tw43)) (by decide) (t := (.array .int)) (t' := .int) (by decide) (by decide)))).other W22 (Or.inl ne20)
  obtain ⟨T27, X27, e27, st27⟩ := getF X22 hx hZ hown (host := "") (Or.inl (hw _ tw14)) Via.refl e22 c26 (g := (mkF m 161 #[.val (.ref a0_), .val (.int 0), .val (.int 0), .val (.int 0), .val (.double (FP.l2d (1 : Int64))), .second, .val (.ref we_), .val .null, .val (.ref wp_), .val (.int 1), .unset, .unset] [(.ref a0_)])) rfl rfl (hb hby d3_161)
  refine Go.st st27 ?_
  refine Go.st (t' := T27.setTop (mkF m 167 #[.val (.ref a0_), .val (.int 0), .val (.int 0), .val (.int 0), .val (.double (FP.l2d (1 : Int64))), .second, .val (.ref we_), .val .null, .val (.ref wp_), .val (.int 1), .unset, .unset] [(.int 0), (.int 1), (.ref x_nexts)])) (fun target kt => ?_) ?_
  · refine XS.iload X27.here hx rfl (hb hby d3_164) rfl ?_
    refine XS.iloadN X27.here hx rfl (hb hby d3_166) rfl ?_
    exact kt
  have ne28 : a0_ ≠ x_nexts := Nat.ne_of_lt (Nat.lt_trans o_a0__x_starts o_x_starts_x_nexts)
  have ne29 : x_starts ≠ x_nexts := Nat.ne_of_lt o_x_starts_x_nexts
  have c30 := (V_nexts.other W14 (Ne.symm ne28)).other W22 (Ne.symm ne29)
  obtain ⟨cl31, Ar31, q31, S31, M31, H31, G31⟩ := id c30
  have hin31 : ¬ ((1 : Int32) < 0 ∨ cl31.slots.size ≤ ((1 : Int32)).toNatClampNeg) := inb_of S31 ⟨by decide, by decide⟩
  obtain ⟨T31, h31, X31, e31, W31, st31⟩ := stI X27 hx hZ e27 Ar31 (j := (1 : Int32)) hin31 (g := (mkF m 167 #[.val (.ref a0_), .val (.int 0), .val (.int 0), .val (.int 0), .val (.double (FP.l2d (1 : Int64))), .second, .val (.ref we_), .val .null, .val (.ref wp_), .val (.int 1), .unset, .unset] [(.int 0), (.int 1), (.ref x_nexts)])) rfl rfl (hb hby d3_167)
  have V32 : Arv Z h31 x_nexts k_nexts .int (16 : Int32) [(.int 0), (.int 0), (.int 0), (.int 0)] (.int 0) := Arv.set Ar31 q31 S31 M31 H31 G31 rfl W31 1 rfl (Nat.le_of_ble_eq_true rfl)
  have K33 := K24.wr W31 (Or.inl mI2)
  have O34 := O25.wr W31 g_nexts
  have N31 := Fr.snoc X31 N22 g_nexts
  refine Go.st st31 ?_
  refine Go.st (t' := T31.setTop (mkF m 169 #[.val (.ref a0_), .val (.int 0), .val (.int 0), .val (.int 0), .val (.double (FP.l2d (1 : Int64))), .second, .val (.ref we_), .val .null, .val (.ref wp_), .val (.int 1), .unset, .unset] [(.ref a0_)])) (fun target kt => ?_) ?_
  · refine XS.aloadN X31.here hx rfl (hb hby d3_168) rfl rfl ?_
    exact kt
  have c35 := ((F_ends.other W14 (Or.inr (slot_ne (Or.inl (hw _ tw17)) (Or.inl (hw _ tw43)) (by decide) (t := (.array .int)) (t' := .int) (by decide) (by decide)))).other W22 (Or.inl ne20)).other W31 (Or.inl ne28)
  obtain ⟨T36, X36, e36, st36⟩ := getF X31 hx hZ hown (host := "") (Or.inl (hw _ tw16)) Via.refl e31 c35 (g := (mkF m 169 #[.val (.ref a0_), .val (.int 0), .val (.int 0), .val (.int 0), .val (.double (FP.l2d (1 : Int64))), .second, .val (.ref we_), .val .null, .val (.ref wp_), .val (.int 1), .unset, .unset] [(.ref a0_)])) rfl rfl (hb hby d3_169)
  refine Go.st st36 ?_
  refine Go.st (t' := T36.setTop (mkF m 175 #[.val (.ref a0_), .val (.int 0), .val (.int 0), .val (.int 0), .val (.double (FP.l2d (1 : Int64))), .second, .val (.ref we_), .val .null, .val (.ref wp_), .val (.int 1), .unset, .unset] [(.int 0), (.int 1), (.ref x_ends)])) (fun target kt => ?_) ?_
  · refine XS.iload X36.here hx rfl (hb hby d3_172) rfl ?_
    refine XS.iloadN X36.here hx rfl (hb hby d3_174) rfl ?_
    exact kt
  have ne37 : a0_ ≠ x_ends := Nat.ne_of_lt (Nat.lt_trans (Nat.lt_trans o_a0__x_starts o_x_starts_x_nexts) o_x_nexts_x_ends)
  have ne38 : x_starts ≠ x_ends := Nat.ne_of_lt (Nat.lt_trans o_x_starts_x_nexts o_x_nexts_x_ends)
  have ne39 : x_nexts ≠ x_ends := Nat.ne_of_lt o_x_nexts_x_ends
  have c40 := ((V_ends.other W14 (Ne.symm ne37)).other W22 (Ne.symm ne38)).other W31 (Ne.symm ne39)
  obtain ⟨cl41, Ar41, q41, S41, M41, H41, G41⟩ := id c40
  have hin41 : ¬ ((1 : Int32) < 0 ∨ cl41.slots.size ≤ ((1 : Int32)).toNatClampNeg) := inb_of S41 ⟨by decide, by decide⟩
  obtain ⟨T41, h41, X41, e41, W41, st41⟩ := stI X36 hx hZ e36 Ar41 (j := (1 : Int32)) hin41 (g := (mkF m 175 #[.val (.ref a0_), .val (.int 0), .val (.int 0), .val (.int 0), .val (.double (FP.l2d (1 : Int64))), .second, .val (.ref we_), .val .null, .val (.ref wp_), .val (.int 1), .unset, .unset] [(.int 0), (.int 1), (.ref x_ends)])) rfl rfl (hb hby d3_175)
  have V42 : Arv Z h41 x_ends k_ends .int (16 : Int32) [(.int 0), (.int 0), (.int 0), (.int 0)] (.int 0) := Arv.set Ar41 q41 S41 M41 H41 G41 rfl W41 1 rfl (Nat.le_of_ble_eq_true rfl)
  have K43 := K33.wr W41 (Or.inl mI3)
  have O44 := O34.wr W41 g_ends
  have N41 := Fr.snoc X41 N31 g_ends
  refine Go.st st41 ?_
  refine Go.st (t' := T41.setTop (mkF m 177 #[.val (.ref a0_), .val (.int 0), .val (.int 0), .val (.int 0), .val (.double (FP.l2d (1 : Int64))), .second, .val (.ref we_), .val .null, .val (.ref wp_), .val (.int 1), .unset, .unset] [(.ref a0_)])) (fun target kt => ?_) ?_
  · refine XS.aloadN X41.here hx rfl (hb hby d3_176) rfl rfl ?_
    exact kt
  have c45 := (((F_bounds.other W14 (Or.inr (slot_ne (Or.inl (hw _ tw19)) (Or.inl (hw _ tw43)) (by decide) (t := (.array .double)) (t' := .int) (by decide) (by decide)))).other W22 (Or.inl ne20)).other W31 (Or.inl ne28)).other W41 (Or.inl ne37)
  obtain ⟨T46, X46, e46, st46⟩ := getF X41 hx hZ hown (host := "") (Or.inl (hw _ tw18)) Via.refl e41 c45 (g := (mkF m 177 #[.val (.ref a0_), .val (.int 0), .val (.int 0), .val (.int 0), .val (.double (FP.l2d (1 : Int64))), .second, .val (.ref we_), .val .null, .val (.ref wp_), .val (.int 1), .unset, .unset] [(.ref a0_)])) rfl rfl (hb hby d3_177)
  refine Go.st st46 ?_
  refine Go.st (t' := T46.setTop (mkF m 184 #[.val (.ref a0_), .val (.int 0), .val (.int 0), .val (.int 0), .val (.double (FP.l2d (1 : Int64))), .second, .val (.ref we_), .val .null, .val (.ref wp_), .val (.int 1), .unset, .unset] [(.double (FP.l2d (1 : Int64))), (.int 1), (.ref x_bounds)])) (fun target kt => ?_) ?_
  · refine XS.iload X46.here hx rfl (hb hby d3_180) rfl ?_
    refine XS.dload X46.here hx rfl (hb hby d3_182) rfl ?_
    exact kt
  have ne47 : a0_ ≠ x_bounds := Nat.ne_of_lt (Nat.lt_trans (Nat.lt_trans (Nat.lt_trans o_a0__x_starts o_x_starts_x_nexts) o_x_nexts_x_ends) o_x_ends_x_bounds)
  have ne48 : x_starts ≠ x_bounds := Nat.ne_of_lt (Nat.lt_trans (Nat.lt_trans o_x_starts_x_nexts o_x_nexts_x_ends) o_x_ends_x_bounds)
  have ne49 : x_nexts ≠ x_bounds := Nat.ne_of_lt (Nat.lt_trans o_x_nexts_x_ends o_x_ends_x_bounds)
  have ne50 : x_ends ≠ x_bounds := Nat.ne_of_lt o_x_ends_x_bounds
  have c51 := (((V_bounds.other W14 (Ne.symm ne47)).other W22 (Ne.symm ne48)).other W31 (Ne.symm ne49)).other W41 (Ne.symm ne50)
  obtain ⟨cl52, Ar52, q52, S52, M52, H52, G52⟩ := id c51
  have hin52 : ¬ ((1 : Int32) < 0 ∨ cl52.slots.size ≤ ((1 : Int32)).toNatClampNeg) := inb_of S52 ⟨by decide, by decide⟩
  obtain ⟨T52, h52, X52, e52, W52, st52⟩ := stD X46 hx hZ e46 Ar52 (j := (1 : Int32)) hin52 (g := (mkF m 184 #[.val (.ref a0_), .val (.int 0), .val (.int 0), .val (.int 0), .val (.double (FP.l2d (1 : Int64))), .second, .val (.ref we_), .val .null, .val (.ref wp_), .val (.int 1), .unset, .unset] [(.double (FP.l2d (1 : Int64))), (.int 1), (.ref x_bounds)])) rfl rfl (hb hby d3_184)
  have V53 : Arv Z h52 x_bounds k_bounds .double (16 : Int32) [(.double (FP.l2d (1 : Int64))), (.double (FP.l2d (1 : Int64))), (.double (FP.l2d 0)), (.double (FP.l2d 0))] (.double (FP.l2d 0)) := Arv.set Ar52 q52 S52 M52 H52 G52 rfl W52 1 rfl (Nat.le_of_ble_eq_true rfl)
  have K54 := K43.wr W52 (Or.inl mI4)
  have O55 := O44.wr W52 g_bounds
  have N52 := Fr.snoc X52 N41 g_bounds
  refine Go.st st52 ?_
  refine Go.st (t' := T52.setTop (mkF m 186 #[.val (.ref a0_), .val (.int 0), .val (.int 0), .val (.int 0), .val (.double (FP.l2d (1 : Int64))), .second, .val (.ref we_), .val .null, .val (.ref wp_), .val (.int 1), .unset, .unset] [(.ref a0_)])) (fun target kt => ?_) ?_
  · refine XS.aloadN X52.here hx rfl (hb hby d3_185) rfl rfl ?_
    exact kt
  have c56 := ((((F_windows.other W14 (Or.inr (slot_ne (Or.inl (hw _ tw22)) (Or.inl (hw _ tw43)) (by decide) (t := (.array .boolean)) (t' := .int) (by decide) (by decide)))).other W22 (Or.inl ne20)).other W31 (Or.inl ne28)).other W41 (Or.inl ne37)).other W52 (Or.inl ne47)
  obtain ⟨T57, X57, e57, st57⟩ := getF X52 hx hZ hown (host := "") (Or.inl (hw _ tw21)) Via.refl e52 c56 (g := (mkF m 186 #[.val (.ref a0_), .val (.int 0), .val (.int 0), .val (.int 0), .val (.double (FP.l2d (1 : Int64))), .second, .val (.ref we_), .val .null, .val (.ref wp_), .val (.int 1), .unset, .unset] [(.ref a0_)])) rfl rfl (hb hby d3_186)
  refine Go.st st57 ?_
  refine Go.st (t' := T57.setTop (mkF m 201 #[.val (.ref a0_), .val (.int 0), .val (.int 0), .val (.int 0), .val (.double (FP.l2d (1 : Int64))), .second, .val (.ref we_), .val .null, .val (.ref wp_), .val (.int 1), .unset, .unset] [(.int 0), (.int 1), (.ref x_windows)])) (fun target kt => ?_) ?_
  · refine XS.iload X57.here hx rfl (hb hby d3_189) rfl ?_
    refine XS.aload X57.here hx rfl (hb hby d3_191) rfl rfl ?_
    refine XS.ifnullYes X57.here hx rfl (pc0 := 193) (pc' := 200) rfl (hb hby d3_193) rfl (by decide) (by decide) ?_
    refine XS.iconst X57.here hx rfl (hb hby d3_200) ?_
    exact kt
  have ne58 : a0_ ≠ x_windows := Nat.ne_of_lt (Nat.lt_trans (Nat.lt_trans (Nat.lt_trans (Nat.lt_trans o_a0__x_starts o_x_starts_x_nexts) o_x_nexts_x_ends) o_x_ends_x_bounds) o_x_bounds_x_windows)
  have ne59 : x_starts ≠ x_windows := Nat.ne_of_lt (Nat.lt_trans (Nat.lt_trans (Nat.lt_trans o_x_starts_x_nexts o_x_nexts_x_ends) o_x_ends_x_bounds) o_x_bounds_x_windows)
  have ne60 : x_nexts ≠ x_windows := Nat.ne_of_lt (Nat.lt_trans (Nat.lt_trans o_x_nexts_x_ends o_x_ends_x_bounds) o_x_bounds_x_windows)
  have ne61 : x_ends ≠ x_windows := Nat.ne_of_lt (Nat.lt_trans o_x_ends_x_bounds o_x_bounds_x_windows)
  have ne62 : x_bounds ≠ x_windows := Nat.ne_of_lt o_x_bounds_x_windows
  have c63 := ((((V_windows.other W14 (Ne.symm ne58)).other W22 (Ne.symm ne59)).other W31 (Ne.symm ne60)).other W41 (Ne.symm ne61)).other W52 (Ne.symm ne62)
  obtain ⟨cl64, Ar64, q64, S64, M64, H64, G64⟩ := id c63
  have hin64 : ¬ ((1 : Int32) < 0 ∨ cl64.slots.size ≤ ((1 : Int32)).toNatClampNeg) := inb_of S64 ⟨by decide, by decide⟩
  obtain ⟨T64, h64, X64, e64, W64, st64⟩ := stZ X57 hx hZ e57 Ar64 (j := (1 : Int32)) hin64 (g := (mkF m 201 #[.val (.ref a0_), .val (.int 0), .val (.int 0), .val (.int 0), .val (.double (FP.l2d (1 : Int64))), .second, .val (.ref we_), .val .null, .val (.ref wp_), .val (.int 1), .unset, .unset] [(.int 0), (.int 1), (.ref x_windows)])) rfl rfl (hb hby d3_201)
  have V65 : Arv Z h64 x_windows k_windows .boolean (16 : Int32) [(.int 1), (.int 0), (.int 0), (.int 0)] (.int 0) := Arv.set Ar64 q64 S64 M64 H64 G64 rfl W64 1 rfl (Nat.le_of_ble_eq_true rfl)
  have K66 := K54.wr W64 (Or.inl mI5)
  have O67 := O55.wr W64 g_windows
  have N64 := Fr.snoc X64 N52 g_windows
  refine Go.st st64 ?_
  refine Go.st (t' := T64.setTop (mkF m 205 #[.val (.ref a0_), .val (.int 0), .val (.int 0), .val (.int 0), .val (.double (FP.l2d (1 : Int64))), .second, .val (.ref we_), .val .null, .val (.ref wp_), .val (.int 1), .unset, .unset] [(.ref a0_), (.int 1)])) (fun target kt => ?_) ?_
  · refine XS.iload X64.here hx rfl (hb hby d3_202) rfl ?_
    refine XS.aloadN X64.here hx rfl (hb hby d3_204) rfl rfl ?_
    exact kt
  have c68 := (((((F_count.other W14 (Or.inr (slot_ne (Or.inr (hw _ tw30)) (Or.inl (hw _ tw43)) (by decide) (t := .int) (t' := .int) (by decide) (by decide)))).other W22 (Or.inl ne20)).other W31 (Or.inl ne28)).other W41 (Or.inl ne37)).other W52 (Or.inl ne47)).other W64 (Or.inl ne58)
  obtain ⟨T69, X69, e69, st69⟩ := getF X64 hx hZ hown (host := "") (Or.inl (hw _ tw29)) Via.refl e64 c68 (g := (mkF m 205 #[.val (.ref a0_), .val (.int 0), .val (.int 0), .val (.int 0), .val (.double (FP.l2d (1 : Int64))), .second, .val (.ref we_), .val .null, .val (.ref wp_), .val (.int 1), .unset, .unset] [(.ref a0_), (.int 1)])) rfl rfl (hb hby d3_205)
  refine Go.st st69 ?_
  refine Go.st (t' := T69.setTop (mkF m 217 #[.val (.ref a0_), .val (.int 0), .val (.int 0), .val (.int 0), .val (.double (FP.l2d (1 : Int64))), .second, .val (.ref we_), .val .null, .val (.ref wp_), .val (.int 1), .val (.int 1), .val (.int 0)] [(.ref a0_), (.int 0)])) (fun target kt => ?_) ?_
  · refine XS.imul X69.here hx rfl (hb hby d3_208) rfl ?_
    refine XS.istore X69.here hx rfl (hb hby d3_209) rfl (l' := #[.val (.ref a0_), .val (.int 0), .val (.int 0), .val (.int 0), .val (.double (FP.l2d (1 : Int64))), .second, .val (.ref we_), .val .null, .val (.ref wp_), .val (.int 1), .val (.int 1), .unset]) rfl ?_
    refine XS.iconst X69.here hx rfl (hb hby d3_211) ?_
    refine XS.istore X69.here hx rfl (hb hby d3_212) rfl (l' := #[.val (.ref a0_), .val (.int 0), .val (.int 0), .val (.int 0), .val (.double (FP.l2d (1 : Int64))), .second, .val (.ref we_), .val .null, .val (.ref wp_), .val (.int 1), .val (.int 1), .val (.int 0)]) rfl ?_
    refine XS.iload X69.here hx rfl (hb hby d3_214) rfl ?_
    refine XS.aloadN X69.here hx rfl (hb hby d3_216) rfl rfl ?_
    exact kt
  obtain ⟨T70, X70, e70, st70⟩ := getF X69 hx hZ hown (host := "") (Or.inl (hw _ tw29)) Via.refl e69 c68 (g := (mkF m 217 #[.val (.ref a0_), .val (.int 0), .val (.int 0), .val (.int 0), .val (.double (FP.l2d (1 : Int64))), .second, .val (.ref we_), .val .null, .val (.ref wp_), .val (.int 1), .val (.int 1), .val (.int 0)] [(.ref a0_), (.int 0)])) rfl rfl (hb hby d3_217)
  refine Go.st st70 ?_
  refine Go.st (t' := T70.setTop (mkF m 224 #[.val (.ref a0_), .val (.int 0), .val (.int 0), .val (.int 0), .val (.double (FP.l2d (1 : Int64))), .second, .val (.ref we_), .val .null, .val (.ref wp_), .val (.int 1), .val (.int 1), .val (.int 0)] [(.ref a0_)])) (fun target kt => ?_) ?_
  · refine XS.icmpNo X70.here hx rfl (hb hby d3_220) rfl (tlt (by decide : (0 : Int32) < (1 : Int32))).2.1 ?_
    refine XS.aloadN X70.here hx rfl (hb hby d3_223) rfl rfl ?_
    exact kt
  have c71 := (((((F_entries.other W14 (Or.inr (slot_ne (Or.inl (hw _ tw32)) (Or.inl (hw _ tw43)) (by decide) (t := (.array .int)) (t' := .int) (by decide) (by decide)))).other W22 (Or.inl ne20)).other W31 (Or.inl ne28)).other W41 (Or.inl ne37)).other W52 (Or.inl ne47)).other W64 (Or.inl ne58)
  obtain ⟨T72, X72, e72, st72⟩ := getF X70 hx hZ hown (host := "") (Or.inl (hw _ tw31)) Via.refl e70 c71 (g := (mkF m 224 #[.val (.ref a0_), .val (.int 0), .val (.int 0), .val (.int 0), .val (.double (FP.l2d (1 : Int64))), .second, .val (.ref we_), .val .null, .val (.ref wp_), .val (.int 1), .val (.int 1), .val (.int 0)] [(.ref a0_)])) rfl rfl (hb hby d3_224)
  refine Go.st st72 ?_
  have ne73 : we_ ≠ x_parts := Nat.ne_of_lt (Nat.lt_trans (Nat.lt_trans (Nat.lt_trans (Nat.lt_trans (Nat.lt_trans (Nat.lt_trans (Nat.lt_trans (Nat.lt_trans (Nat.lt_trans (Nat.lt_trans (Nat.lt_trans (Nat.lt_trans o_we__wp_ o_wp__a0_) o_a0__x_starts) o_x_starts_x_nexts) o_x_nexts_x_ends) o_x_ends_x_bounds) o_x_bounds_x_windows) o_x_windows_x_heap) o_x_heap_x_heapBounds) o_x_heapBounds_x_heapStarts) o_x_heapStarts_x_entries) o_x_entries_x_blocks) o_x_blocks_x_parts)
  have ne74 : we_ ≠ x_blocks := Nat.ne_of_lt (Nat.lt_trans (Nat.lt_trans (Nat.lt_trans (Nat.lt_trans (Nat.lt_trans (Nat.lt_trans (Nat.lt_trans (Nat.lt_trans (Nat.lt_trans (Nat.lt_trans (Nat.lt_trans o_we__wp_ o_wp__a0_) o_a0__x_starts) o_x_starts_x_nexts) o_x_nexts_x_ends) o_x_ends_x_bounds) o_x_bounds_x_windows) o_x_windows_x_heap) o_x_heap_x_heapBounds) o_x_heapBounds_x_heapStarts) o_x_heapStarts_x_entries) o_x_entries_x_blocks)
  have ne75 : we_ ≠ x_entries := Nat.ne_of_lt (Nat.lt_trans (Nat.lt_trans (Nat.lt_trans (Nat.lt_trans (Nat.lt_trans (Nat.lt_trans (Nat.lt_trans (Nat.lt_trans (Nat.lt_trans (Nat.lt_trans o_we__wp_ o_wp__a0_) o_a0__x_starts) o_x_starts_x_nexts) o_x_nexts_x_ends) o_x_ends_x_bounds) o_x_bounds_x_windows) o_x_windows_x_heap) o_x_heap_x_heapBounds) o_x_heapBounds_x_heapStarts) o_x_heapStarts_x_entries)
  have ne76 : we_ ≠ x_heapStarts := Nat.ne_of_lt (Nat.lt_trans (Nat.lt_trans (Nat.lt_trans (Nat.lt_trans (Nat.lt_trans (Nat.lt_trans (Nat.lt_trans (Nat.lt_trans (Nat.lt_trans o_we__wp_ o_wp__a0_) o_a0__x_starts) o_x_starts_x_nexts) o_x_nexts_x_ends) o_x_ends_x_bounds) o_x_bounds_x_windows) o_x_windows_x_heap) o_x_heap_x_heapBounds) o_x_heapBounds_x_heapStarts)
  have ne77 : we_ ≠ x_heapBounds := Nat.ne_of_lt (Nat.lt_trans (Nat.lt_trans (Nat.lt_trans (Nat.lt_trans (Nat.lt_trans (Nat.lt_trans (Nat.lt_trans (Nat.lt_trans o_we__wp_ o_wp__a0_) o_a0__x_starts) o_x_starts_x_nexts) o_x_nexts_x_ends) o_x_ends_x_bounds) o_x_bounds_x_windows) o_x_windows_x_heap) o_x_heap_x_heapBounds)
  have ne78 : we_ ≠ x_heap := Nat.ne_of_lt (Nat.lt_trans (Nat.lt_trans (Nat.lt_trans (Nat.lt_trans (Nat.lt_trans (Nat.lt_trans (Nat.lt_trans o_we__wp_ o_wp__a0_) o_a0__x_starts) o_x_starts_x_nexts) o_x_nexts_x_ends) o_x_ends_x_bounds) o_x_bounds_x_windows) o_x_windows_x_heap)
  have ne79 : we_ ≠ x_windows := Nat.ne_of_lt (Nat.lt_trans (Nat.lt_trans (Nat.lt_trans (Nat.lt_trans (Nat.lt_trans (Nat.lt_trans o_we__wp_ o_wp__a0_) o_a0__x_starts) o_x_starts_x_nexts) o_x_nexts_x_ends) o_x_ends_x_bounds) o_x_bounds_x_windows)
  have ne80 : we_ ≠ x_bounds := Nat.ne_of_lt (Nat.lt_trans (Nat.lt_trans (Nat.lt_trans (Nat.lt_trans (Nat.lt_trans o_we__wp_ o_wp__a0_) o_a0__x_starts) o_x_starts_x_nexts) o_x_nexts_x_ends) o_x_ends_x_bounds)
  have ne81 : we_ ≠ x_ends := Nat.ne_of_lt (Nat.lt_trans (Nat.lt_trans (Nat.lt_trans (Nat.lt_trans o_we__wp_ o_wp__a0_) o_a0__x_starts) o_x_starts_x_nexts) o_x_nexts_x_ends)
  have ne82 : we_ ≠ x_nexts := Nat.ne_of_lt (Nat.lt_trans (Nat.lt_trans (Nat.lt_trans o_we__wp_ o_wp__a0_) o_a0__x_starts) o_x_starts_x_nexts)
  have ne83 : we_ ≠ x_starts := Nat.ne_of_lt (Nat.lt_trans (Nat.lt_trans o_we__wp_ o_wp__a0_) o_a0__x_starts)
  have ne84 : we_ ≠ a0_ := Nat.ne_of_lt (Nat.lt_trans o_we__wp_ o_wp__a0_)
  have c85 := V_we.keep K66 (ninS ne84 (ninS ne83 (ninS ne82 (ninS ne81 (ninS ne80 (ninS ne79 (ninS ne78 (ninS ne77 (ninS ne76 (ninS ne75 (ninS ne74 (ninS ne73 nin0))))))))))))
  obtain ⟨cl86, Ar86, -, S86, M86, H86, -⟩ := id c85
  have hin86 : ¬ ((0 : Int32) < 0 ∨ cl86.slots.size ≤ ((0 : Int32)).toNatClampNeg) := inb_of S86 ⟨by decide, by decide⟩
  have hat86 : cl86.slots[((0 : Int32)).toNatClampNeg]? = some (.int e0_) := H86.at hin86 rfl
  refine Go.st (t' := T72.setTop (mkF m 237 #[.val (.ref a0_), .val (.int 0), .val (.int 0), .val (.int 0), .val (.double (FP.l2d (1 : Int64))), .second, .val (.ref we_), .val .null, .val (.ref wp_), .val (.int 1), .val (.int 1), .val (.int 0)] [(.int e0_), (.int 1), (.ref x_entries)])) (fun target kt => ?_) ?_
  · refine XS.iload X72.here hx rfl (hb hby d3_227) rfl ?_
    refine XS.iload X72.here hx rfl (hb hby d3_229) rfl ?_
    refine XS.iadd X72.here hx rfl (hb hby d3_231) rfl ?_
    refine XS.aload X72.here hx rfl (hb hby d3_232) rfl rfl ?_
    refine XS.iload X72.here hx rfl (hb hby d3_234) rfl ?_
    refine X72.iaload hx (j := (0 : Int32)) (v := (.int e0_)) (by rw [e72]; exact Ar86.1) (State.isArrayOf_alike hZ.alike Ar86.2.1) Ar86.2.2 hin86 hat86 (g := (mkF m 236 #[.val (.ref a0_), .val (.int 0), .val (.int 0), .val (.int 0), .val (.double (FP.l2d (1 : Int64))), .second, .val (.ref we_), .val .null, .val (.ref wp_), .val (.int 1), .val (.int 1), .val (.int 0)] [(.int 0), (.ref we_), (.int 1), (.ref x_entries)])) rfl rfl (hb hby d3_236) _ ?_
    exact kt
  have ne87 : a0_ ≠ x_entries := Nat.ne_of_lt (Nat.lt_trans (Nat.lt_trans (Nat.lt_trans (Nat.lt_trans (Nat.lt_trans (Nat.lt_trans (Nat.lt_trans (Nat.lt_trans o_a0__x_starts o_x_starts_x_nexts) o_x_nexts_x_ends) o_x_ends_x_bounds) o_x_bounds_x_windows) o_x_windows_x_heap) o_x_heap_x_heapBounds) o_x_heapBounds_x_heapStarts) o_x_heapStarts_x_entries)
  have ne88 : x_starts ≠ x_entries := Nat.ne_of_lt (Nat.lt_trans (Nat.lt_trans (Nat.lt_trans (Nat.lt_trans (Nat.lt_trans (Nat.lt_trans (Nat.lt_trans o_x_starts_x_nexts o_x_nexts_x_ends) o_x_ends_x_bounds) o_x_bounds_x_windows) o_x_windows_x_heap) o_x_heap_x_heapBounds) o_x_heapBounds_x_heapStarts) o_x_heapStarts_x_entries)
  have ne89 : x_nexts ≠ x_entries := Nat.ne_of_lt (Nat.lt_trans (Nat.lt_trans (Nat.lt_trans (Nat.lt_trans (Nat.lt_trans (Nat.lt_trans o_x_nexts_x_ends o_x_ends_x_bounds) o_x_bounds_x_windows) o_x_windows_x_heap) o_x_heap_x_heapBounds) o_x_heapBounds_x_heapStarts) o_x_heapStarts_x_entries)
  have ne90 : x_ends ≠ x_entries := Nat.ne_of_lt (Nat.lt_trans (Nat.lt_trans (Nat.lt_trans (Nat.lt_trans (Nat.lt_trans o_x_ends_x_bounds o_x_bounds_x_windows) o_x_windows_x_heap) o_x_heap_x_heapBounds) o_x_heapBounds_x_heapStarts) o_x_heapStarts_x_entries)
  have ne91 : x_bounds ≠ x_entries := Nat.ne_of_lt (Nat.lt_trans (Nat.lt_trans (Nat.lt_trans (Nat.lt_trans o_x_bounds_x_windows o_x_windows_x_heap) o_x_heap_x_heapBounds) o_x_heapBounds_x_heapStarts) o_x_heapStarts_x_entries)
  have ne92 : x_windows ≠ x_entries := Nat.ne_of_lt (Nat.lt_trans (Nat.lt_trans (Nat.lt_trans o_x_windows_x_heap o_x_heap_x_heapBounds) o_x_heapBounds_x_heapStarts) o_x_heapStarts_x_entries)
  have c93 := (((((V_entries.other W14 (Ne.symm ne87)).other W22 (Ne.symm ne88)).other W31 (Ne.symm ne89)).other W41 (Ne.symm ne90)).other W52 (Ne.symm ne91)).other W64 (Ne.symm ne92)
  obtain ⟨cl94, Ar94, q94, S94, M94, H94, G94⟩ := id c93
  have hin94 : ¬ ((1 : Int32) < 0 ∨ cl94.slots.size ≤ ((1 : Int32)).toNatClampNeg) := inb_of S94 ⟨by decide, by decide⟩
  obtain ⟨T94, h94, X94, e94, W94, st94⟩ := stI X72 hx hZ e72 Ar94 (j := (1 : Int32)) hin94 (g := (mkF m 237 #[.val (.ref a0_), .val (.int 0), .val (.int 0), .val (.int 0), .val (.double (FP.l2d (1 : Int64))), .second, .val (.ref we_), .val .null, .val (.ref wp_), .val (.int 1), .val (.int 1), .val (.int 0)] [(.int e0_), (.int 1), (.ref x_entries)])) rfl rfl (hb hby d3_237)
  have V95 : Arv Z h94 x_entries k_entries .int (16 : Int32) [(.int f0_), (.int e0_), (.int 0), (.int 0)] (.int 0) := Arv.set Ar94 q94 S94 M94 H94 G94 rfl W94 1 rfl (Nat.le_of_ble_eq_true rfl)
  have K96 := K66.wr W94 (Or.inl (List.mem_of_getElem? (i := 9) rfl))
  have O97 := O67.wr W94 g_entries
  have N94 := Fr.snoc X94 N64 g_entries
  refine Go.st st94 ?_
  refine Go.st (t' := T94.setTop (mkF m 239 #[.val (.ref a0_), .val (.int 0), .val (.int 0), .val (.int 0), .val (.double (FP.l2d (1 : Int64))), .second, .val (.ref we_), .val .null, .val (.ref wp_), .val (.int 1), .val (.int 1), .val (.int 0)] [(.ref a0_)])) (fun target kt => ?_) ?_
  · refine XS.aloadN X94.here hx rfl (hb hby d3_238) rfl rfl ?_
    exact kt
  have c98 := ((((((F_parts.other W14 (Or.inr (slot_ne (Or.inl (hw _ tw36)) (Or.inl (hw _ tw43)) (by decide) (t := (.array .double)) (t' := .int) (by decide) (by decide)))).other W22 (Or.inl ne20)).other W31 (Or.inl ne28)).other W41 (Or.inl ne37)).other W52 (Or.inl ne47)).other W64 (Or.inl ne58)).other W94 (Or.inl ne87)
  obtain ⟨T99, X99, e99, st99⟩ := getF X94 hx hZ hown (host := "") (Or.inl (hw _ tw35)) Via.refl e94 c98 (g := (mkF m 239 #[.val (.ref a0_), .val (.int 0), .val (.int 0), .val (.int 0), .val (.double (FP.l2d (1 : Int64))), .second, .val (.ref we_), .val .null, .val (.ref wp_), .val (.int 1), .val (.int 1), .val (.int 0)] [(.ref a0_)])) rfl rfl (hb hby d3_239)
  refine Go.st st99 ?_
  have ne100 : wp_ ≠ x_parts := Nat.ne_of_lt (Nat.lt_trans (Nat.lt_trans (Nat.lt_trans (Nat.lt_trans (Nat.lt_trans (Nat.lt_trans (Nat.lt_trans (Nat.lt_trans (Nat.lt_trans (Nat.lt_trans (Nat.lt_trans o_wp__a0_ o_a0__x_starts) o_x_starts_x_nexts) o_x_nexts_x_ends) o_x_ends_x_bounds) o_x_bounds_x_windows) o_x_windows_x_heap) o_x_heap_x_heapBounds) o_x_heapBounds_x_heapStarts) o_x_heapStarts_x_entries) o_x_entries_x_blocks) o_x_blocks_x_parts)
  have ne101 : wp_ ≠ x_blocks := Nat.ne_of_lt (Nat.lt_trans (Nat.lt_trans (Nat.lt_trans (Nat.lt_trans (Nat.lt_trans (Nat.lt_trans (Nat.lt_trans (Nat.lt_trans (Nat.lt_trans (Nat.lt_trans o_wp__a0_ o_a0__x_starts) o_x_starts_x_nexts) o_x_nexts_x_ends) o_x_ends_x_bounds) o_x_bounds_x_windows) o_x_windows_x_heap) o_x_heap_x_heapBounds) o_x_heapBounds_x_heapStarts) o_x_heapStarts_x_entries) o_x_entries_x_blocks)
  have ne102 : wp_ ≠ x_entries := Nat.ne_of_lt (Nat.lt_trans (Nat.lt_trans (Nat.lt_trans (Nat.lt_trans (Nat.lt_trans (Nat.lt_trans (Nat.lt_trans (Nat.lt_trans (Nat.lt_trans o_wp__a0_ o_a0__x_starts) o_x_starts_x_nexts) o_x_nexts_x_ends) o_x_ends_x_bounds) o_x_bounds_x_windows) o_x_windows_x_heap) o_x_heap_x_heapBounds) o_x_heapBounds_x_heapStarts) o_x_heapStarts_x_entries)
  have ne103 : wp_ ≠ x_heapStarts := Nat.ne_of_lt (Nat.lt_trans (Nat.lt_trans (Nat.lt_trans (Nat.lt_trans (Nat.lt_trans (Nat.lt_trans (Nat.lt_trans (Nat.lt_trans o_wp__a0_ o_a0__x_starts) o_x_starts_x_nexts) o_x_nexts_x_ends) o_x_ends_x_bounds) o_x_bounds_x_windows) o_x_windows_x_heap) o_x_heap_x_heapBounds) o_x_heapBounds_x_heapStarts)
  have ne104 : wp_ ≠ x_heapBounds := Nat.ne_of_lt (Nat.lt_trans (Nat.lt_trans (Nat.lt_trans (Nat.lt_trans (Nat.lt_trans (Nat.lt_trans (Nat.lt_trans o_wp__a0_ o_a0__x_starts) o_x_starts_x_nexts) o_x_nexts_x_ends) o_x_ends_x_bounds) o_x_bounds_x_windows) o_x_windows_x_heap) o_x_heap_x_heapBounds)
  have ne105 : wp_ ≠ x_heap := Nat.ne_of_lt (Nat.lt_trans (Nat.lt_trans (Nat.lt_trans (Nat.lt_trans (Nat.lt_trans (Nat.lt_trans o_wp__a0_ o_a0__x_starts) o_x_starts_x_nexts) o_x_nexts_x_ends) o_x_ends_x_bounds) o_x_bounds_x_windows) o_x_windows_x_heap)
  have ne106 : wp_ ≠ x_windows := Nat.ne_of_lt (Nat.lt_trans (Nat.lt_trans (Nat.lt_trans (Nat.lt_trans (Nat.lt_trans o_wp__a0_ o_a0__x_starts) o_x_starts_x_nexts) o_x_nexts_x_ends) o_x_ends_x_bounds) o_x_bounds_x_windows)
  have ne107 : wp_ ≠ x_bounds := Nat.ne_of_lt (Nat.lt_trans (Nat.lt_trans (Nat.lt_trans (Nat.lt_trans o_wp__a0_ o_a0__x_starts) o_x_starts_x_nexts) o_x_nexts_x_ends) o_x_ends_x_bounds)
  have ne108 : wp_ ≠ x_ends := Nat.ne_of_lt (Nat.lt_trans (Nat.lt_trans (Nat.lt_trans o_wp__a0_ o_a0__x_starts) o_x_starts_x_nexts) o_x_nexts_x_ends)
  have ne109 : wp_ ≠ x_nexts := Nat.ne_of_lt (Nat.lt_trans (Nat.lt_trans o_wp__a0_ o_a0__x_starts) o_x_starts_x_nexts)
  have ne110 : wp_ ≠ x_starts := Nat.ne_of_lt (Nat.lt_trans o_wp__a0_ o_a0__x_starts)
  have ne111 : wp_ ≠ a0_ := Nat.ne_of_lt o_wp__a0_
  have c112 := V_wp.keep K96 (ninS ne111 (ninS ne110 (ninS ne109 (ninS ne108 (ninS ne107 (ninS ne106 (ninS ne105 (ninS ne104 (ninS ne103 (ninS ne102 (ninS ne101 (ninS ne100 nin0))))))))))))
  obtain ⟨cl113, Ar113, -, S113, M113, H113, -⟩ := id c112
  have hin113 : ¬ ((0 : Int32) < 0 ∨ cl113.slots.size ≤ ((0 : Int32)).toNatClampNeg) := inb_of S113 ⟨by decide, by decide⟩
  have hat113 : cl113.slots[((0 : Int32)).toNatClampNeg]? = some (.double d0_) := H113.at hin113 rfl
  refine Go.st (t' := T99.setTop (mkF m 252 #[.val (.ref a0_), .val (.int 0), .val (.int 0), .val (.int 0), .val (.double (FP.l2d (1 : Int64))), .second, .val (.ref we_), .val .null, .val (.ref wp_), .val (.int 1), .val (.int 1), .val (.int 0)] [(.double d0_), (.int 1), (.ref x_parts)])) (fun target kt => ?_) ?_
  · refine XS.iload X99.here hx rfl (hb hby d3_242) rfl ?_
    refine XS.iload X99.here hx rfl (hb hby d3_244) rfl ?_
    refine XS.iadd X99.here hx rfl (hb hby d3_246) rfl ?_
    refine XS.aload X99.here hx rfl (hb hby d3_247) rfl rfl ?_
    refine XS.iload X99.here hx rfl (hb hby d3_249) rfl ?_
    refine X99.daload hx (j := (0 : Int32)) (v := (.double d0_)) (by rw [e99]; exact Ar113.1) (State.isArrayOf_alike hZ.alike Ar113.2.1) Ar113.2.2 hin113 hat113 (g := (mkF m 251 #[.val (.ref a0_), .val (.int 0), .val (.int 0), .val (.int 0), .val (.double (FP.l2d (1 : Int64))), .second, .val (.ref we_), .val .null, .val (.ref wp_), .val (.int 1), .val (.int 1), .val (.int 0)] [(.int 0), (.ref wp_), (.int 1), (.ref x_parts)])) rfl rfl (hb hby d3_251) _ ?_
    exact kt
  have ne114 : a0_ ≠ x_parts := Nat.ne_of_lt (Nat.lt_trans (Nat.lt_trans (Nat.lt_trans (Nat.lt_trans (Nat.lt_trans (Nat.lt_trans (Nat.lt_trans (Nat.lt_trans (Nat.lt_trans (Nat.lt_trans o_a0__x_starts o_x_starts_x_nexts) o_x_nexts_x_ends) o_x_ends_x_bounds) o_x_bounds_x_windows) o_x_windows_x_heap) o_x_heap_x_heapBounds) o_x_heapBounds_x_heapStarts) o_x_heapStarts_x_entries) o_x_entries_x_blocks) o_x_blocks_x_parts)
  have ne115 : x_starts ≠ x_parts := Nat.ne_of_lt (Nat.lt_trans (Nat.lt_trans (Nat.lt_trans (Nat.lt_trans (Nat.lt_trans (Nat.lt_trans (Nat.lt_trans (Nat.lt_trans (Nat.lt_trans o_x_starts_x_nexts o_x_nexts_x_ends) o_x_ends_x_bounds) o_x_bounds_x_windows) o_x_windows_x_heap) o_x_heap_x_heapBounds) o_x_heapBounds_x_heapStarts) o_x_heapStarts_x_entries) o_x_entries_x_blocks) o_x_blocks_x_parts)
  have ne116 : x_nexts ≠ x_parts := Nat.ne_of_lt (Nat.lt_trans (Nat.lt_trans (Nat.lt_trans (Nat.lt_trans (Nat.lt_trans (Nat.lt_trans (Nat.lt_trans (Nat.lt_trans o_x_nexts_x_ends o_x_ends_x_bounds) o_x_bounds_x_windows) o_x_windows_x_heap) o_x_heap_x_heapBounds) o_x_heapBounds_x_heapStarts) o_x_heapStarts_x_entries) o_x_entries_x_blocks) o_x_blocks_x_parts)
  have ne117 : x_ends ≠ x_parts := Nat.ne_of_lt (Nat.lt_trans (Nat.lt_trans (Nat.lt_trans (Nat.lt_trans (Nat.lt_trans (Nat.lt_trans (Nat.lt_trans o_x_ends_x_bounds o_x_bounds_x_windows) o_x_windows_x_heap) o_x_heap_x_heapBounds) o_x_heapBounds_x_heapStarts) o_x_heapStarts_x_entries) o_x_entries_x_blocks) o_x_blocks_x_parts)
  have ne118 : x_bounds ≠ x_parts := Nat.ne_of_lt (Nat.lt_trans (Nat.lt_trans (Nat.lt_trans (Nat.lt_trans (Nat.lt_trans (Nat.lt_trans o_x_bounds_x_windows o_x_windows_x_heap) o_x_heap_x_heapBounds) o_x_heapBounds_x_heapStarts) o_x_heapStarts_x_entries) o_x_entries_x_blocks) o_x_blocks_x_parts)
  have ne119 : x_windows ≠ x_parts := Nat.ne_of_lt (Nat.lt_trans (Nat.lt_trans (Nat.lt_trans (Nat.lt_trans (Nat.lt_trans o_x_windows_x_heap o_x_heap_x_heapBounds) o_x_heapBounds_x_heapStarts) o_x_heapStarts_x_entries) o_x_entries_x_blocks) o_x_blocks_x_parts)
  have ne120 : x_entries ≠ x_parts := Nat.ne_of_lt (Nat.lt_trans o_x_entries_x_blocks o_x_blocks_x_parts)
  have c121 := ((((((V_parts.other W14 (Ne.symm ne114)).other W22 (Ne.symm ne115)).other W31 (Ne.symm ne116)).other W41 (Ne.symm ne117)).other W52 (Ne.symm ne118)).other W64 (Ne.symm ne119)).other W94 (Ne.symm ne120)
  obtain ⟨cl122, Ar122, q122, S122, M122, H122, G122⟩ := id c121
  have hin122 : ¬ ((1 : Int32) < 0 ∨ cl122.slots.size ≤ ((1 : Int32)).toNatClampNeg) := inb_of S122 ⟨by decide, by decide⟩
  obtain ⟨T122, h122, X122, e122, W122, st122⟩ := stD X99 hx hZ e99 Ar122 (j := (1 : Int32)) hin122 (g := (mkF m 252 #[.val (.ref a0_), .val (.int 0), .val (.int 0), .val (.int 0), .val (.double (FP.l2d (1 : Int64))), .second, .val (.ref we_), .val .null, .val (.ref wp_), .val (.int 1), .val (.int 1), .val (.int 0)] [(.double d0_), (.int 1), (.ref x_parts)])) rfl rfl (hb hby d3_252)
  have V123 : Arv Z h122 x_parts k_parts .double (16 : Int32) [(.double u0_), (.double d0_), (.double (FP.l2d 0)), (.double (FP.l2d 0))] (.double (FP.l2d 0)) := Arv.set Ar122 q122 S122 M122 H122 G122 rfl W122 1 rfl (Nat.le_of_ble_eq_true rfl)
  have K124 := K96.wr W122 (Or.inl (List.mem_of_getElem? (i := 11) rfl))
  have O125 := O97.wr W122 g_parts
  have N122 := Fr.snoc X122 N94 g_parts
  refine Go.st st122 ?_
  refine Go.st (t' := T122.setTop (mkF m 217 #[.val (.ref a0_), .val (.int 0), .val (.int 0), .val (.int 0), .val (.double (FP.l2d (1 : Int64))), .second, .val (.ref we_), .val .null, .val (.ref wp_), .val (.int 1), .val (.int 1), .val (.int 1)] [(.ref a0_), (.int 1)])) (fun target kt => ?_) ?_
  · refine XS.iinc X122.here hx rfl (hb hby d3_253) rfl (l' := #[.val (.ref a0_), .val (.int 0), .val (.int 0), .val (.int 0), .val (.double (FP.l2d (1 : Int64))), .second, .val (.ref we_), .val .null, .val (.ref wp_), .val (.int 1), .val (.int 1), .val (.int 1)]) rfl ?_
    refine XS.goto X122.here hx rfl (pc0 := 256) (pc' := 214) rfl (hb hby d3_256) (by decide) (by decide) ?_
    refine XS.iload X122.here hx rfl (hb hby d3_214) rfl ?_
    refine XS.aloadN X122.here hx rfl (hb hby d3_216) rfl rfl ?_
    exact kt
  have S_126 : Keep h64 h122 [x_entries, x_parts] := (((Keep.refl h64 [x_entries, x_parts]).wr W94 (Or.inl mI0)).wr W122 (Or.inl mI1))
  have c127 := c68.keep S_126 (ninS ne87 (ninS ne114 nin0))
  obtain ⟨T128, X128, e128, st128⟩ := getF X122 hx hZ hown (host := "") (Or.inl (hw _ tw29)) Via.refl e122 c127 (g := (mkF m 217 #[.val (.ref a0_), .val (.int 0), .val (.int 0), .val (.int 0), .val (.double (FP.l2d (1 : Int64))), .second, .val (.ref we_), .val .null, .val (.ref wp_), .val (.int 1), .val (.int 1), .val (.int 1)] [(.ref a0_), (.int 1)])) rfl rfl (hb hby d3_217)
  refine Go.st st128 ?_
  refine Go.st (t' := T128.setTop (mkF m 300 #[.val (.ref a0_), .val (.int 0), .val (.int 0), .val (.int 0), .val (.double (FP.l2d (1 : Int64))), .second, .val (.ref we_), .val .null, .val (.ref wp_), .val (.int 1), .val (.int 1), .val (.int 1)] [(.int 1), (.ref a0_)])) (fun target kt => ?_) ?_
  · refine XS.icmpYes X128.here hx rfl (pc0 := 220) (pc' := 259) rfl (hb hby d3_220) rfl (flt (by decide : ¬ ((1 : Int32) < (1 : Int32)))).2.1 (by decide) (by decide) ?_
    refine XS.aload X128.here hx rfl (hb hby d3_259) rfl rfl ?_
    refine XS.ifnullYes X128.here hx rfl (pc0 := 261) (pc' := 297) rfl (hb hby d3_261) rfl (by decide) (by decide) ?_
    refine XS.aloadN X128.here hx rfl (hb hby d3_297) rfl rfl ?_
    refine XS.iload X128.here hx rfl (hb hby d3_298) rfl ?_
    exact kt
  have c129 := E0.keep K124
  have S_130 := (((((Keep.refl h14 [x_starts, x_nexts, x_ends, x_bounds, x_windows, x_entries, x_parts]).wr W22 (Or.inl mI0)).wr W31 (Or.inl mI1)).wr W41 (Or.inl mI2)).wr W52 (Or.inl mI3)).wr W64 (Or.inl mI4)
  have S_131 : Keep h14 h122 [x_starts, x_nexts, x_ends, x_bounds, x_windows, x_entries, x_parts] := (S_130.trans S_126 (allS (Or.inl mI5) (allS (Or.inl (List.mem_of_getElem? (i := 6) rfl)) all0)))
  have c132 := c18.keep S_131 (ninS ne20 (ninS ne28 (ninS ne37 (ninS ne47 (ninS ne58 (ninS ne87 (ninS ne114 nin0)))))))
  have S_133 := ((((Keep.refl h22 [x_nexts, x_ends, x_bounds, x_windows, x_entries, x_parts]).wr W31 (Or.inl mI0)).wr W41 (Or.inl mI1)).wr W52 (Or.inl mI2)).wr W64 (Or.inl mI3)
  have S_134 : Keep h22 h122 [x_nexts, x_ends, x_bounds, x_windows, x_entries, x_parts] := (S_133.trans S_126 (allS (Or.inl mI4) (allS (Or.inl mI5) all0)))
  have c135 := c26.keep S_134 (ninS ne28 (ninS ne37 (ninS ne47 (ninS ne58 (ninS ne87 (ninS ne114 nin0))))))
  have S_136 := (((Keep.refl h31 [x_ends, x_bounds, x_windows, x_entries, x_parts]).wr W41 (Or.inl mI0)).wr W52 (Or.inl mI1)).wr W64 (Or.inl mI2)
  have S_137 : Keep h31 h122 [x_ends, x_bounds, x_windows, x_entries, x_parts] := (S_136.trans S_126 (allS (Or.inl mI3) (allS (Or.inl mI4) all0)))
  have c138 := c35.keep S_137 (ninS ne37 (ninS ne47 (ninS ne58 (ninS ne87 (ninS ne114 nin0)))))
  have S_139 := ((Keep.refl h41 [x_bounds, x_windows, x_entries, x_parts]).wr W52 (Or.inl mI0)).wr W64 (Or.inl mI1)
  have S_140 : Keep h41 h122 [x_bounds, x_windows, x_entries, x_parts] := (S_139.trans S_126 (allS (Or.inl mI2) (allS (Or.inl mI3) all0)))
  have c141 := c45.keep S_140 (ninS ne47 (ninS ne58 (ninS ne87 (ninS ne114 nin0))))
  have S_142 := (Keep.refl h52 [x_windows, x_entries, x_parts]).wr W64 (Or.inl mI0)
  have S_143 : Keep h52 h122 [x_windows, x_entries, x_parts] := (S_142.trans S_126 (allS (Or.inl mI1) (allS (Or.inl mI2) all0)))
  have c144 := c56.keep S_143 (ninS ne58 (ninS ne87 (ninS ne114 nin0)))
  have c145 := (((((((F_heap.other W14 (Or.inr (slot_ne (Or.inl (hw _ tw24)) (Or.inl (hw _ tw43)) (by decide) (t := (.array .int)) (t' := .int) (by decide) (by decide)))).other W22 (Or.inl ne20)).other W31 (Or.inl ne28)).other W41 (Or.inl ne37)).other W52 (Or.inl ne47)).other W64 (Or.inl ne58)).other W94 (Or.inl ne87)).other W122 (Or.inl ne114)
  have c146 := (((((((F_heapBounds.other W14 (Or.inr (slot_ne (Or.inl (hw _ tw26)) (Or.inl (hw _ tw43)) (by decide) (t := (.array .double)) (t' := .int) (by decide) (by decide)))).other W22 (Or.inl ne20)).other W31 (Or.inl ne28)).other W41 (Or.inl ne37)).other W52 (Or.inl ne47)).other W64 (Or.inl ne58)).other W94 (Or.inl ne87)).other W122 (Or.inl ne114)
  have c147 := (((((((F_heapStarts.other W14 (Or.inr (slot_ne (Or.inl (hw _ tw28)) (Or.inl (hw _ tw43)) (by decide) (t := (.array .int)) (t' := .int) (by decide) (by decide)))).other W22 (Or.inl ne20)).other W31 (Or.inl ne28)).other W41 (Or.inl ne37)).other W52 (Or.inl ne47)).other W64 (Or.inl ne58)).other W94 (Or.inl ne87)).other W122 (Or.inl ne114)
  have c148 := c71.keep S_126 (ninS ne87 (ninS ne114 nin0))
  have c149 := (((((((F_blocks.other W14 (Or.inr (slot_ne (Or.inl (hw _ tw34)) (Or.inl (hw _ tw43)) (by decide) (t := (.array .int)) (t' := .int) (by decide) (by decide)))).other W22 (Or.inl ne20)).other W31 (Or.inl ne28)).other W41 (Or.inl ne37)).other W52 (Or.inl ne47)).other W64 (Or.inl ne58)).other W94 (Or.inl ne87)).other W122 (Or.inl ne114)
  have c150 := c98.other W122 (Or.inl ne114)
  have c151 := F15.keep S_131 (ninS ne20 (ninS ne28 (ninS ne37 (ninS ne47 (ninS ne58 (ninS ne87 (ninS ne114 nin0)))))))
  have c152 := (((((((F_size.other W14 (Or.inr (slot_ne (Or.inl (hw _ tw49)) (Or.inl (hw _ tw43)) (by decide) (t := .int) (t' := .int) (by decide) (by decide)))).other W22 (Or.inl ne20)).other W31 (Or.inl ne28)).other W41 (Or.inl ne37)).other W52 (Or.inl ne47)).other W64 (Or.inl ne58)).other W94 (Or.inl ne87)).other W122 (Or.inl ne114)
  have ne153 : a0_ ≠ x_heap := Nat.ne_of_lt (Nat.lt_trans (Nat.lt_trans (Nat.lt_trans (Nat.lt_trans (Nat.lt_trans o_a0__x_starts o_x_starts_x_nexts) o_x_nexts_x_ends) o_x_ends_x_bounds) o_x_bounds_x_windows) o_x_windows_x_heap)
  have ne154 : x_starts ≠ x_heap := Nat.ne_of_lt (Nat.lt_trans (Nat.lt_trans (Nat.lt_trans (Nat.lt_trans o_x_starts_x_nexts o_x_nexts_x_ends) o_x_ends_x_bounds) o_x_bounds_x_windows) o_x_windows_x_heap)
  have ne155 : x_nexts ≠ x_heap := Nat.ne_of_lt (Nat.lt_trans (Nat.lt_trans (Nat.lt_trans o_x_nexts_x_ends o_x_ends_x_bounds) o_x_bounds_x_windows) o_x_windows_x_heap)
  have ne156 : x_ends ≠ x_heap := Nat.ne_of_lt (Nat.lt_trans (Nat.lt_trans o_x_ends_x_bounds o_x_bounds_x_windows) o_x_windows_x_heap)
  have ne157 : x_bounds ≠ x_heap := Nat.ne_of_lt (Nat.lt_trans o_x_bounds_x_windows o_x_windows_x_heap)
  have ne158 : x_windows ≠ x_heap := Nat.ne_of_lt o_x_windows_x_heap
  have ne159 : x_heap ≠ x_entries := Nat.ne_of_lt (Nat.lt_trans (Nat.lt_trans o_x_heap_x_heapBounds o_x_heapBounds_x_heapStarts) o_x_heapStarts_x_entries)
  have ne160 : x_heap ≠ x_parts := Nat.ne_of_lt (Nat.lt_trans (Nat.lt_trans (Nat.lt_trans (Nat.lt_trans o_x_heap_x_heapBounds o_x_heapBounds_x_heapStarts) o_x_heapStarts_x_entries) o_x_entries_x_blocks) o_x_blocks_x_parts)
  have c161 := (((((((V_heap.other W14 (Ne.symm ne153)).other W22 (Ne.symm ne154)).other W31 (Ne.symm ne155)).other W41 (Ne.symm ne156)).other W52 (Ne.symm ne157)).other W64 (Ne.symm ne158)).other W94 ne159).other W122 ne160
  have ne162 : a0_ ≠ x_heapBounds := Nat.ne_of_lt (Nat.lt_trans (Nat.lt_trans (Nat.lt_trans (Nat.lt_trans (Nat.lt_trans (Nat.lt_trans o_a0__x_starts o_x_starts_x_nexts) o_x_nexts_x_ends) o_x_ends_x_bounds) o_x_bounds_x_windows) o_x_windows_x_heap) o_x_heap_x_heapBounds)
  have ne163 : x_starts ≠ x_heapBounds := Nat.ne_of_lt (Nat.lt_trans (Nat.lt_trans (Nat.lt_trans (Nat.lt_trans (Nat.lt_trans o_x_starts_x_nexts o_x_nexts_x_ends) o_x_ends_x_bounds) o_x_bounds_x_windows) o_x_windows_x_heap) o_x_heap_x_heapBounds)
  have ne164 : x_nexts ≠ x_heapBounds := Nat.ne_of_lt (Nat.lt_trans (Nat.lt_trans (Nat.lt_trans (Nat.lt_trans o_x_nexts_x_ends o_x_ends_x_bounds) o_x_bounds_x_windows) o_x_windows_x_heap) o_x_heap_x_heapBounds)
  have ne165 : x_ends ≠ x_heapBounds := Nat.ne_of_lt (Nat.lt_trans (Nat.lt_trans (Nat.lt_trans o_x_ends_x_bounds o_x_bounds_x_windows) o_x_windows_x_heap) o_x_heap_x_heapBounds)
  have ne166 : x_bounds ≠ x_heapBounds := Nat.ne_of_lt (Nat.lt_trans (Nat.lt_trans o_x_bounds_x_windows o_x_windows_x_heap) o_x_heap_x_heapBounds)
  have ne167 : x_windows ≠ x_heapBounds := Nat.ne_of_lt (Nat.lt_trans o_x_windows_x_heap o_x_heap_x_heapBounds)
  have ne168 : x_heapBounds ≠ x_entries := Nat.ne_of_lt (Nat.lt_trans o_x_heapBounds_x_heapStarts o_x_heapStarts_x_entries)
  have ne169 : x_heapBounds ≠ x_parts := Nat.ne_of_lt (Nat.lt_trans (Nat.lt_trans (Nat.lt_trans o_x_heapBounds_x_heapStarts o_x_heapStarts_x_entries) o_x_entries_x_blocks) o_x_blocks_x_parts)
  have c170 := (((((((V_heapBounds.other W14 (Ne.symm ne162)).other W22 (Ne.symm ne163)).other W31 (Ne.symm ne164)).other W41 (Ne.symm ne165)).other W52 (Ne.symm ne166)).other W64 (Ne.symm ne167)).other W94 ne168).other W122 ne169
  have ne171 : a0_ ≠ x_heapStarts := Nat.ne_of_lt (Nat.lt_trans (Nat.lt_trans (Nat.lt_trans (Nat.lt_trans (Nat.lt_trans (Nat.lt_trans (Nat.lt_trans o_a0__x_starts o_x_starts_x_nexts) o_x_nexts_x_ends) o_x_ends_x_bounds) o_x_bounds_x_windows) o_x_windows_x_heap) o_x_heap_x_heapBounds) o_x_heapBounds_x_heapStarts)
  have ne172 : x_starts ≠ x_heapStarts := Nat.ne_of_lt (Nat.lt_trans (Nat.lt_trans (Nat.lt_trans (Nat.lt_trans (Nat.lt_trans (Nat.lt_trans o_x_starts_x_nexts o_x_nexts_x_ends) o_x_ends_x_bounds) o_x_bounds_x_windows) o_x_windows_x_heap) o_x_heap_x_heapBounds) o_x_heapBounds_x_heapStarts)
  have ne173 : x_nexts ≠ x_heapStarts := Nat.ne_of_lt (Nat.lt_trans (Nat.lt_trans (Nat.lt_trans (Nat.lt_trans (Nat.lt_trans o_x_nexts_x_ends o_x_ends_x_bounds) o_x_bounds_x_windows) o_x_windows_x_heap) o_x_heap_x_heapBounds) o_x_heapBounds_x_heapStarts)
  have ne174 : x_ends ≠ x_heapStarts := Nat.ne_of_lt (Nat.lt_trans (Nat.lt_trans (Nat.lt_trans (Nat.lt_trans o_x_ends_x_bounds o_x_bounds_x_windows) o_x_windows_x_heap) o_x_heap_x_heapBounds) o_x_heapBounds_x_heapStarts)
  have ne175 : x_bounds ≠ x_heapStarts := Nat.ne_of_lt (Nat.lt_trans (Nat.lt_trans (Nat.lt_trans o_x_bounds_x_windows o_x_windows_x_heap) o_x_heap_x_heapBounds) o_x_heapBounds_x_heapStarts)
  have ne176 : x_windows ≠ x_heapStarts := Nat.ne_of_lt (Nat.lt_trans (Nat.lt_trans o_x_windows_x_heap o_x_heap_x_heapBounds) o_x_heapBounds_x_heapStarts)
  have ne177 : x_heapStarts ≠ x_entries := Nat.ne_of_lt o_x_heapStarts_x_entries
  have ne178 : x_heapStarts ≠ x_parts := Nat.ne_of_lt (Nat.lt_trans (Nat.lt_trans o_x_heapStarts_x_entries o_x_entries_x_blocks) o_x_blocks_x_parts)
  have c179 := (((((((V_heapStarts.other W14 (Ne.symm ne171)).other W22 (Ne.symm ne172)).other W31 (Ne.symm ne173)).other W41 (Ne.symm ne174)).other W52 (Ne.symm ne175)).other W64 (Ne.symm ne176)).other W94 ne177).other W122 ne178
  have c180 := V23.keep S_134 (ninS ne29 (ninS ne38 (ninS ne48 (ninS ne59 (ninS ne88 (ninS ne115 nin0))))))
  have c181 := V53.keep S_143 (ninS ne62 (ninS ne91 (ninS ne118 nin0)))
  refine Go.cps (own_cp (W := 0) (b := a0_) (argsL := [(.int 1)]) (rest := []) X128 hx hZ hown (hw _ tw44) (hw _ tw45) (own_selp (y := (⟨sq0, "push", "(I)V"⟩ : MethodName)) (hw _ tw4) (hw _ tw46) (hw _ tw45) (by decide)) (hw _ tw46) (hw _ tw47) (hw _ tw5) (by decide) e128 c129 (rm4_1 l Z a0 hw [] a0_ x_starts x_nexts x_ends x_bounds x_windows x_heap x_heapBounds x_heapStarts x_entries x_blocks x_parts k_heap k_heapBounds k_heapStarts k_starts k_bounds (1 : Int32) (2 : Int32) h122 n0 (Nat.le_trans Z0 K124.1) O125  c129 c132 c135 c138 c141 c144 c145 c146 c147 c148 c149 c150 c127 c151 c152 c161 c170 c179 c180 c181 g_a0 g_heap g_heapBounds g_heapStarts o_a0__x_starts (Nat.lt_trans (Nat.lt_trans o_x_starts_x_nexts o_x_nexts_x_ends) o_x_ends_x_bounds) (Nat.lt_trans o_x_bounds_x_windows o_x_windows_x_heap) o_x_heap_x_heapBounds o_x_heapBounds_x_heapStarts) rfl (by rw [hml]; rfl) (lenOf pd2 rfl) rfl (Nat.le_of_eq rfl) (hb hby d3_300) rfl (by decide) (by decide) (by decide) (by decide)) ?_
  rintro T182 _ L182 X182 ⟨rfl, Nq182, Kq182, q183, q184, q185, q186, q187, q188, q189, q190, q191, q192, q193, q194, q195, q196, q197, q198, q199, q200⟩
  have N182 := Fr.app N122 Nq182
  have K201 := K124.trans Kq182 (allS (Or.inl mI0) (allS (Or.inl (List.mem_of_getElem? (i := 6) rfl)) (allS (Or.inl (List.mem_of_getElem? (i := 7) rfl)) (allS (Or.inl (List.mem_of_getElem? (i := 8) rfl)) all0))))
  have O202 := O125.keep Kq182 (allS g_a0 (allS g_heap (allS g_heapBounds (allS g_heapStarts all0))))
  have c203 := c180.keep Kq182 (ninS (Ne.symm ne20) (ninS ne154 (ninS ne163 (ninS ne172 nin0))))
  have S_204 : Keep h31 T182.heap [x_ends, x_bounds, x_windows, x_entries, x_parts, a0_, x_heap, x_heapBounds, x_heapStarts] := (((((((Keep.refl h31 [x_ends, x_bounds, x_windows, x_entries, x_parts, a0_, x_heap, x_heapBounds, x_heapStarts]).wr W41 (Or.inl mI0)).wr W52 (Or.inl mI1)).wr W64 (Or.inl mI2)).wr W94 (Or.inl mI3)).wr W122 (Or.inl mI4)).trans Kq182 (allS (Or.inl mI5) (allS (Or.inl (List.mem_of_getElem? (i := 6) rfl)) (allS (Or.inl (List.mem_of_getElem? (i := 7) rfl)) (allS (Or.inl (List.mem_of_getElem? (i := 8) rfl)) all0)))))
  have c205 := V32.keep S_204 (ninS ne39 (ninS ne49 (ninS ne60 (ninS ne89 (ninS ne116 (ninS (Ne.symm ne28) (ninS ne155 (ninS ne164 (ninS ne173 nin0)))))))))
  have S_206 : Keep h41 T182.heap [x_bounds, x_windows, x_entries, x_parts, a0_, x_heap, x_heapBounds, x_heapStarts] := ((((((Keep.refl h41 [x_bounds, x_windows, x_entries, x_parts, a0_, x_heap, x_heapBounds, x_heapStarts]).wr W52 (Or.inl mI0)).wr W64 (Or.inl mI1)).wr W94 (Or.inl mI2)).wr W122 (Or.inl mI3)).trans Kq182 (allS (Or.inl mI4) (allS (Or.inl mI5) (allS (Or.inl (List.mem_of_getElem? (i := 6) rfl)) (allS (Or.inl (List.mem_of_getElem? (i := 7) rfl)) all0)))))
  have c207 := V42.keep S_206 (ninS ne50 (ninS ne61 (ninS ne90 (ninS ne117 (ninS (Ne.symm ne37) (ninS ne156 (ninS ne165 (ninS ne174 nin0))))))))
  have c208 := c181.keep Kq182 (ninS (Ne.symm ne47) (ninS ne157 (ninS ne166 (ninS ne175 nin0))))
  have S_209 : Keep h64 T182.heap [x_entries, x_parts, a0_, x_heap, x_heapBounds, x_heapStarts] := ((((Keep.refl h64 [x_entries, x_parts, a0_, x_heap, x_heapBounds, x_heapStarts]).wr W94 (Or.inl mI0)).wr W122 (Or.inl mI1)).trans Kq182 (allS (Or.inl mI2) (allS (Or.inl mI3) (allS (Or.inl mI4) (allS (Or.inl mI5) all0)))))
  have c210 := V65.keep S_209 (ninS ne92 (ninS ne119 (ninS (Ne.symm ne58) (ninS ne158 (ninS ne167 (ninS ne176 nin0))))))
  have S_211 : Keep h94 T182.heap [x_parts, a0_, x_heap, x_heapBounds, x_heapStarts] := (((Keep.refl h94 [x_parts, a0_, x_heap, x_heapBounds, x_heapStarts]).wr W122 (Or.inl mI0)).trans Kq182 (allS (Or.inl mI1) (allS (Or.inl mI2) (allS (Or.inl mI3) (allS (Or.inl mI4) all0)))))
  have c212 := V95.keep S_211 (ninS ne120 (ninS (Ne.symm ne87) (ninS (Ne.symm ne159) (ninS (Ne.symm ne168) (ninS (Ne.symm ne177) nin0)))))
  have ne213 : a0_ ≠ x_blocks := Nat.ne_of_lt (Nat.lt_trans (Nat.lt_trans (Nat.lt_trans (Nat.lt_trans (Nat.lt_trans (Nat.lt_trans (Nat.lt_trans (Nat.lt_trans (Nat.lt_trans o_a0__x_starts o_x_starts_x_nexts) o_x_nexts_x_ends) o_x_ends_x_bounds) o_x_bounds_x_windows) o_x_windows_x_heap) o_x_heap_x_heapBounds) o_x_heapBounds_x_heapStarts) o_x_heapStarts_x_entries) o_x_entries_x_blocks)
  have ne214 : x_starts ≠ x_blocks := Nat.ne_of_lt (Nat.lt_trans (Nat.lt_trans (Nat.lt_trans (Nat.lt_trans (Nat.lt_trans (Nat.lt_trans (Nat.lt_trans (Nat.lt_trans o_x_starts_x_nexts o_x_nexts_x_ends) o_x_ends_x_bounds) o_x_bounds_x_windows) o_x_windows_x_heap) o_x_heap_x_heapBounds) o_x_heapBounds_x_heapStarts) o_x_heapStarts_x_entries) o_x_entries_x_blocks)
  have ne215 : x_nexts ≠ x_blocks := Nat.ne_of_lt (Nat.lt_trans (Nat.lt_trans (Nat.lt_trans (Nat.lt_trans (Nat.lt_trans (Nat.lt_trans (Nat.lt_trans o_x_nexts_x_ends o_x_ends_x_bounds) o_x_bounds_x_windows) o_x_windows_x_heap) o_x_heap_x_heapBounds) o_x_heapBounds_x_heapStarts) o_x_heapStarts_x_entries) o_x_entries_x_blocks)
  have ne216 : x_ends ≠ x_blocks := Nat.ne_of_lt (Nat.lt_trans (Nat.lt_trans (Nat.lt_trans (Nat.lt_trans (Nat.lt_trans (Nat.lt_trans o_x_ends_x_bounds o_x_bounds_x_windows) o_x_windows_x_heap) o_x_heap_x_heapBounds) o_x_heapBounds_x_heapStarts) o_x_heapStarts_x_entries) o_x_entries_x_blocks)
  have ne217 : x_bounds ≠ x_blocks := Nat.ne_of_lt (Nat.lt_trans (Nat.lt_trans (Nat.lt_trans (Nat.lt_trans (Nat.lt_trans o_x_bounds_x_windows o_x_windows_x_heap) o_x_heap_x_heapBounds) o_x_heapBounds_x_heapStarts) o_x_heapStarts_x_entries) o_x_entries_x_blocks)
  have ne218 : x_windows ≠ x_blocks := Nat.ne_of_lt (Nat.lt_trans (Nat.lt_trans (Nat.lt_trans (Nat.lt_trans o_x_windows_x_heap o_x_heap_x_heapBounds) o_x_heapBounds_x_heapStarts) o_x_heapStarts_x_entries) o_x_entries_x_blocks)
  have ne219 : x_entries ≠ x_blocks := Nat.ne_of_lt o_x_entries_x_blocks
  have ne220 : x_blocks ≠ x_parts := Nat.ne_of_lt o_x_blocks_x_parts
  have ne221 : x_heapStarts ≠ x_blocks := Nat.ne_of_lt (Nat.lt_trans o_x_heapStarts_x_entries o_x_entries_x_blocks)
  have ne222 : x_heapBounds ≠ x_blocks := Nat.ne_of_lt (Nat.lt_trans (Nat.lt_trans o_x_heapBounds_x_heapStarts o_x_heapStarts_x_entries) o_x_entries_x_blocks)
  have ne223 : x_heap ≠ x_blocks := Nat.ne_of_lt (Nat.lt_trans (Nat.lt_trans (Nat.lt_trans o_x_heap_x_heapBounds o_x_heapBounds_x_heapStarts) o_x_heapStarts_x_entries) o_x_entries_x_blocks)
  have c224 := ((((((((V_blocks.other W14 (Ne.symm ne213)).other W22 (Ne.symm ne214)).other W31 (Ne.symm ne215)).other W41 (Ne.symm ne216)).other W52 (Ne.symm ne217)).other W64 (Ne.symm ne218)).other W94 (Ne.symm ne219)).other W122 ne220).keep Kq182 (ninS (Ne.symm ne213) (ninS (Ne.symm ne223) (ninS (Ne.symm ne222) (ninS (Ne.symm ne221) nin0))))
  have c225 := V123.keep Kq182 (ninS (Ne.symm ne114) (ninS (Ne.symm ne160) (ninS (Ne.symm ne169) (ninS (Ne.symm ne178) nin0))))
  refine Go.ret X182 (v := none) (fun _ => rfl) hlk (fun fs hr => X182.returnOut hx hret (hb hby d3_303) hr) ?_ (by decide) (by decide)
  show Q3_1_1 Z a0_ we_ wp_ x_starts x_nexts x_ends x_bounds x_windows x_heap x_heapBounds x_heapStarts x_entries x_blocks x_parts k_starts k_nexts k_ends k_bounds k_windows k_heap k_heapBounds k_heapStarts k_entries k_blocks k_parts e0_ e1_ d0_ d1_ f0_ c0_ u0_ ke_ kp_ h0 n0 _ T182.heap _
  exact ⟨rfl, N182, K201, q183, q195, q196, q197, q184, c203, q185, c205, q186, c207, q187, c208, q188, c210, q189, q198, q190, q199, q191, q200, q192, c212, q193, c224, q194, c225⟩
theorem ef3_2_0 (m : MethodId) (x0 : Addr) (x5 : Addr) (x6 : Addr) (x7 : Addr) : entryFrame m #[(.ref x0), (.int 0), (.int 0), (.int 0), (.double (FP.l2d (1 : Int64))), (.ref x5), (.ref x6), (.ref x7)] 12 = mkF m 0 #[.val (.ref x0), .val (.int 0), .val (.int 0), .val (.int 0), .val (.double (FP.l2d (1 : Int64))), .second, .val (.ref x5), .val (.ref x6), .val (.ref x7), .unset, .unset, .unset] [] := by first | (simp [entryFrame, mkF, argsToLocals, Value.category]; done) | rfl
def Q3_2_0 (Z : State) (a0_ : Addr) (we_ : Addr) (wb_ : Addr) (wp_ : Addr) (x_starts : Addr) (x_nexts : Addr) (x_ends : Addr) (x_bounds : Addr) (x_windows : Addr) (x_heap : Addr) (x_heapBounds : Addr) (x_heapStarts : Addr) (x_entries : Addr) (x_blocks : Addr) (x_parts : Addr) (k_starts : ClassId) (k_nexts : ClassId) (k_ends : ClassId) (k_bounds : ClassId) (k_windows : ClassId) (k_heap : ClassId) (k_heapBounds : ClassId) (k_heapStarts : ClassId) (k_entries : ClassId) (k_blocks : ClassId) (k_parts : ClassId) (e0_ : Int32) (e1_ : Int32) (b0_ : Int32) (b1_ : Int32) (d0_ : UInt64) (d1_ : UInt64) (ke_ : ClassId) (kp_ : ClassId) (kb_ : ClassId) (h0 : Heap) (n0 : Nat) (v : Option Value) (h : Heap) (L : List Loc) : Prop := v = none ∧ Fr n0 L ∧ Keep h0 h [a0_, x_starts, x_nexts, x_ends, x_bounds, x_windows, x_heap, x_heapBounds, x_heapStarts, x_entries, x_blocks, x_parts] ∧ Exa Z h a0_ sq0 ∧ Fld Z h a0_ sq0 "count" "I" (.int 2) ∧ Fld Z h a0_ sq0 "added" "I" (.int 1) ∧ Fld Z h a0_ sq0 "size" "I" (.int 1) ∧ Fld Z h a0_ sq0 "starts" "[I" (.ref x_starts) ∧ Arv Z h x_starts k_starts .int (16 : Int32) [(.int 0), (.int 0), (.int 0), (.int 0)] (.int 0) ∧ Fld Z h a0_ sq0 "nexts" "[I" (.ref x_nexts) ∧ Arv Z h x_nexts k_nexts .int (16 : Int32) [(.int 0), (.int 0), (.int 0), (.int 0)] (.int 0) ∧ Fld Z h a0_ sq0 "ends" "[I" (.ref x_ends) ∧ Arv Z h x_ends k_ends .int (16 : Int32) [(.int 0), (.int 0), (.int 0), (.int 0)] (.int 0) ∧ Fld Z h a0_ sq0 "bounds" "[D" (.ref x_bounds) ∧ Arv Z h x_bounds k_bounds .double (16 : Int32) [(.double (FP.l2d (1 : Int64))), (.double (FP.l2d 0)), (.double (FP.l2d 0)), (.double (FP.l2d 0))] (.double (FP.l2d 0)) ∧ Fld Z h a0_ sq0 "windows" "[Z" (.ref x_windows) ∧ Arv Z h x_windows k_windows .boolean (16 : Int32) [(.int 1), (.int 0), (.int 0), (.int 0)] (.int 0) ∧ Fld Z h a0_ sq0 "heap" "[I" (.ref x_heap) ∧ Arv Z h x_heap k_heap .int (16 : Int32) [(.int 0), (.int 0), (.int 0), (.int 0)] (.int 0) ∧ Fld Z h a0_ sq0 "heapBounds" "[D" (.ref x_heapBounds) ∧ Arv Z h x_heapBounds k_heapBounds .double (16 : Int32) [(.double (FP.l2d (1 : Int64))), (.double (FP.l2d 0)), (.double (FP.l2d 0)), (.double (FP.l2d 0))] (.double (FP.l2d 0)) ∧ Fld Z h a0_ sq0 "heapStarts" "[I" (.ref x_heapStarts) ∧ Arv Z h x_heapStarts k_heapStarts .int (16 : Int32) [(.int 0), (.int 0), (.int 0), (.int 0)] (.int 0) ∧ Fld Z h a0_ sq0 "entries" "[I" (.ref x_entries) ∧ Arv Z h x_entries k_entries .int (32 : Int32) [(.int e0_), (.int e1_), (.int 0), (.int 0)] (.int 0) ∧ Fld Z h a0_ sq0 "blocks" "[I" (.ref x_blocks) ∧ Arv Z h x_blocks k_blocks .int (32 : Int32) [(.int b0_), (.int b1_), (.int 0), (.int 0)] (.int 0) ∧ Fld Z h a0_ sq0 "parts" "[D" (.ref x_parts) ∧ Arv Z h x_parts k_parts .double (32 : Int32) [(.double d0_), (.double d1_), (.double (FP.l2d 0)), (.double (FP.l2d 0))] (.double (FP.l2d 0))
theorem rm3_2_0 (l : Launch) (Z : State) (a0 : Array Value) (hw : ∀ d ∈ tables_1, d.before a0 Z = true) (ws : List Jvm.Cond) (a0_ : Addr) (we_ : Addr) (wb_ : Addr) (wp_ : Addr) (x_starts : Addr) (x_nexts : Addr) (x_ends : Addr) (x_bounds : Addr) (x_windows : Addr) (x_heap : Addr) (x_heapBounds : Addr) (x_heapStarts : Addr) (x_entries : Addr) (x_blocks : Addr) (x_parts : Addr) (k_starts : ClassId) (k_nexts : ClassId) (k_ends : ClassId) (k_bounds : ClassId) (k_windows : ClassId) (k_heap : ClassId) (k_heapBounds : ClassId) (k_heapStarts : ClassId) (k_entries : ClassId) (k_blocks : ClassId) (k_parts : ClassId) (e0_ : Int32) (e1_ : Int32) (b0_ : Int32) (b1_ : Int32) (d0_ : UInt64) (d1_ : UInt64) (ke_ : ClassId) (kp_ : ClassId) (kb_ : ClassId) (h0 : Heap) (n0 : Nat) (Z0 : n0 ≤ h0.size) (O0 : Old Z n0 h0) (E0 : Exa Z h0 a0_ sq0) (F_count : Fld Z h0 a0_ sq0 "count" "I" (.int 2)) (F_added : Fld Z h0 a0_ sq0 "added" "I" (.int 0)) (F_size : Fld Z h0 a0_ sq0 "size" "I" (.int 0)) (F_starts : Fld Z h0 a0_ sq0 "starts" "[I" (.ref x_starts)) (V_starts : Arv Z h0 x_starts k_starts .int (16 : Int32) [(.int 0), (.int 0), (.int 0), (.int 0)] (.int 0)) (F_nexts : Fld Z h0 a0_ sq0 "nexts" "[I" (.ref x_nexts)) (V_nexts : Arv Z h0 x_nexts k_nexts .int (16 : Int32) [(.int 0), (.int 0), (.int 0), (.int 0)] (.int 0)) (F_ends : Fld Z h0 a0_ sq0 "ends" "[I" (.ref x_ends)) (V_ends : Arv Z h0 x_ends k_ends .int (16 : Int32) [(.int 0), (.int 0), (.int 0), (.int 0)] (.int 0)) (F_bounds : Fld Z h0 a0_ sq0 "bounds" "[D" (.ref x_bounds)) (V_bounds : Arv Z h0 x_bounds k_bounds .double (16 : Int32) [(.double (FP.l2d 0)), (.double (FP.l2d 0)), (.double (FP.l2d 0)), (.double (FP.l2d 0))] (.double (FP.l2d 0))) (F_windows : Fld Z h0 a0_ sq0 "windows" "[Z" (.ref x_windows)) (V_windows : Arv Z h0 x_windows k_windows .boolean (16 : Int32) [(.int 0), (.int 0), (.int 0), (.int 0)] (.int 0)) (F_heap : Fld Z h0 a0_ sq0 "heap" "[I" (.ref x_heap)) (V_heap : Arv Z h0 x_heap k_heap .int (16 : Int32) [(.int 0), (.int 0), (.int 0), (.int 0)] (.int 0)) (F_heapBounds : Fld Z h0 a0_ sq0 "heapBounds" "[D" (.ref x_heapBounds)) (V_heapBounds : Arv Z h0 x_heapBounds k_heapBounds .double (16 : Int32) [(.double (FP.l2d 0)), (.double (FP.l2d 0)), (.double (FP.l2d 0)), (.double (FP.l2d 0))] (.double (FP.l2d 0))) (F_heapStarts : Fld Z h0 a0_ sq0 "heapStarts" "[I" (.ref x_heapStarts)) (V_heapStarts : Arv Z h0 x_heapStarts k_heapStarts .int (16 : Int32) [(.int 0), (.int 0), (.int 0), (.int 0)] (.int 0)) (F_entries : Fld Z h0 a0_ sq0 "entries" "[I" (.ref x_entries)) (V_entries : Arv Z h0 x_entries k_entries .int (32 : Int32) [(.int 0), (.int 0), (.int 0), (.int 0)] (.int 0)) (F_blocks : Fld Z h0 a0_ sq0 "blocks" "[I" (.ref x_blocks)) (V_blocks : Arv Z h0 x_blocks k_blocks .int (32 : Int32) [(.int 0), (.int 0), (.int 0), (.int 0)] (.int 0)) (F_parts : Fld Z h0 a0_ sq0 "parts" "[D" (.ref x_parts)) (V_parts : Arv Z h0 x_parts k_parts .double (32 : Int32) [(.double (FP.l2d 0)), (.double (FP.l2d 0)), (.double (FP.l2d 0)), (.double (FP.l2d 0))] (.double (FP.l2d 0))) (V_we : Arv Z h0 we_ ke_ .int (2 : Int32) [(.int e0_), (.int e1_)] (.int 0)) (V_wb : Arv Z h0 wb_ kb_ .int (2 : Int32) [(.int b0_), (.int b1_)] (.int 0)) (V_wp : Arv Z h0 wp_ kp_ .double (2 : Int32) [(.double d0_), (.double d1_)] (.double (FP.l2d 0))) (g_a0 : n0 ≤ a0_) (g_starts : n0 ≤ x_starts) (g_nexts : n0 ≤ x_nexts) (g_ends : n0 ≤ x_ends) (g_bounds : n0 ≤ x_bounds) (g_windows : n0 ≤ x_windows) (g_heap : n0 ≤ x_heap) (g_heapBounds : n0 ≤ x_heapBounds) (g_heapStarts : n0 ≤ x_heapStarts) (g_entries : n0 ≤ x_entries) (g_blocks : n0 ≤ x_blocks) (g_parts : n0 ≤ x_parts) (o_we__wb_ : we_ < wb_) (o_wb__wp_ : wb_ < wp_) (o_wp__a0_ : wp_ < a0_) (o_a0__x_starts : a0_ < x_starts) (o_x_starts_x_nexts : x_starts < x_nexts) (o_x_nexts_x_ends : x_nexts < x_ends) (o_x_ends_x_bounds : x_ends < x_bounds) (o_x_bounds_x_windows : x_bounds < x_windows) (o_x_windows_x_heap : x_windows < x_heap) (o_x_heap_x_heapBounds : x_heap < x_heapBounds) (o_x_heapBounds_x_heapStarts : x_heapBounds < x_heapStarts) (o_x_heapStarts_x_entries : x_heapStarts < x_entries) (o_x_entries_x_blocks : x_entries < x_blocks) (o_x_blocks_x_parts : x_blocks < x_parts) :
    Met l Z ws (⟨sq0, "add", "(IIID[I[I[D)V"⟩ : MethodName) prog_63_method_10_code 12 none (Rm 2 0 0 35) #[(.ref a0_), (.int 0), (.int 0), (.int 0), (.double (FP.l2d (1 : Int64))), (.ref we_), (.ref wb_), (.ref wp_)] h0 (Q3_2_0 Z a0_ we_ wb_ wp_ x_starts x_nexts x_ends x_bounds x_windows x_heap x_heapBounds x_heapStarts x_entries x_blocks x_parts k_starts k_nexts k_ends k_bounds k_windows k_heap k_heapBounds k_heapStarts k_entries k_blocks k_parts e0_ e1_ b0_ b1_ d0_ d1_ ke_ kp_ kb_ h0 n0) := by
  refine Met.enter (L0 := #[.val (.ref a0_), .val (.int 0), .val (.int 0), .val (.int 0), .val (.double (FP.l2d (1 : Int64))), .second, .val (.ref we_), .val (.ref wb_), .val (.ref wp_), .unset, .unset, .unset]) (plainFor_of_name pn56) (fun m => ef3_2_0 m a0_ we_ wb_ wp_) ?_
  intro p e s m below meth c s₁ hx hby hml hown hnm hret hlk hZ X0 e0
  have N0 := Fr.nil n0
  have K0 : Keep h0 h0 [a0_, x_starts, x_nexts, x_ends, x_bounds, x_windows, x_heap, x_heapBounds, x_heapStarts, x_entries, x_blocks, x_parts] := Keep.refl h0 _
  refine Go.st (t' := s₁.setTop (mkF m 1 #[.val (.ref a0_), .val (.int 0), .val (.int 0), .val (.int 0), .val (.double (FP.l2d (1 : Int64))), .second, .val (.ref we_), .val (.ref wb_), .val (.ref wp_), .unset, .unset, .unset] [(.ref a0_)])) (fun target kt => ?_) ?_
  · refine XS.aloadN X0.here hx rfl (hb hby d3_0) rfl rfl ?_
    exact kt
  obtain ⟨T10, X10, e10, st10⟩ := getF X0 hx hZ hown (host := "") (Or.inl (hw _ tw42)) Via.refl e0 F_added (g := (mkF m 1 #[.val (.ref a0_), .val (.int 0), .val (.int 0), .val (.int 0), .val (.double (FP.l2d (1 : Int64))), .second, .val (.ref we_), .val (.ref wb_), .val (.ref wp_), .unset, .unset, .unset] [(.ref a0_)])) rfl rfl (hb hby d3_1)
  refine Go.st st10 ?_
  refine Go.st (t' := T10.setTop (mkF m 5 #[.val (.ref a0_), .val (.int 0), .val (.int 0), .val (.int 0), .val (.double (FP.l2d (1 : Int64))), .second, .val (.ref we_), .val (.ref wb_), .val (.ref wp_), .unset, .unset, .unset] [(.ref a0_), (.int 0)])) (fun target kt => ?_) ?_
  · refine XS.aloadN X10.here hx rfl (hb hby d3_4) rfl rfl ?_
    exact kt
  obtain ⟨T11, X11, e11, st11⟩ := getF X10 hx hZ hown (host := "") (Or.inl (hw _ tw12)) Via.refl e10 F_starts (g := (mkF m 5 #[.val (.ref a0_), .val (.int 0), .val (.int 0), .val (.int 0), .val (.double (FP.l2d (1 : Int64))), .second, .val (.ref we_), .val (.ref wb_), .val (.ref wp_), .unset, .unset, .unset] [(.ref a0_), (.int 0)])) rfl rfl (hb hby d3_5)
  refine Go.st st11 ?_
  obtain ⟨cl12, Ar12, -, S12, M12, -, -⟩ := id V_starts
  refine Go.st (t' := T11.setTop (mkF m 141 #[.val (.ref a0_), .val (.int 0), .val (.int 0), .val (.int 0), .val (.double (FP.l2d (1 : Int64))), .second, .val (.ref we_), .val (.ref wb_), .val (.ref wp_), .unset, .unset, .unset] [(.ref a0_), (.ref a0_)])) (fun target kt => ?_) ?_
  · refine X11.arraylength hx (by rw [e11]; exact Ar12.1) (State.isArrayOf_alike hZ.alike Ar12.2.1) (g := (mkF m 8 #[.val (.ref a0_), .val (.int 0), .val (.int 0), .val (.int 0), .val (.double (FP.l2d (1 : Int64))), .second, .val (.ref we_), .val (.ref wb_), .val (.ref wp_), .unset, .unset, .unset] [(.ref x_starts), (.int 0)])) rfl rfl (hb hby d3_8) _ ?_
    rw [len_of S12 M12]
    refine XS.icmpYes X11.here hx rfl (pc0 := 9) (pc' := 139) rfl (hb hby d3_9) rfl (feq (by decide : ¬ ((0 : Int32) = (16 : Int32)))).2 (by decide) (by decide) ?_
    refine XS.aloadN X11.here hx rfl (hb hby d3_139) rfl rfl ?_
    refine XS.dup X11.here hx rfl (hb hby d3_140) rfl rfl ?_
    exact kt
  obtain ⟨T13, X13, e13, st13⟩ := getF X11 hx hZ hown (host := "") (Or.inl (hw _ tw42)) Via.refl e11 F_added (g := (mkF m 141 #[.val (.ref a0_), .val (.int 0), .val (.int 0), .val (.int 0), .val (.double (FP.l2d (1 : Int64))), .second, .val (.ref we_), .val (.ref wb_), .val (.ref wp_), .unset, .unset, .unset] [(.ref a0_), (.ref a0_)])) rfl rfl (hb hby d3_141)
  refine Go.st st13 ?_
  refine Go.st (t' := T13.setTop (mkF m 147 #[.val (.ref a0_), .val (.int 0), .val (.int 0), .val (.int 0), .val (.double (FP.l2d (1 : Int64))), .second, .val (.ref we_), .val (.ref wb_), .val (.ref wp_), .unset, .unset, .unset] [(.int 1), (.ref a0_), (.int 0)])) (fun target kt => ?_) ?_
  · refine XS.dupX1 X13.here hx rfl (hb hby d3_144) rfl rfl rfl ?_
    refine XS.iconst X13.here hx rfl (hb hby d3_145) ?_
    refine XS.iadd X13.here hx rfl (hb hby d3_146) rfl ?_
    exact kt
  obtain ⟨T14, h14, X14, e14, W14, st14⟩ := putF X13 hx hZ hown (host := "") (Or.inl (hw _ tw42)) Via.refl e13 F_added E0 (Or.inl (hw _ tw43)) (hw _ tw4) (ty := .int) (by decide) rfl rfl (g := (mkF m 147 #[.val (.ref a0_), .val (.int 0), .val (.int 0), .val (.int 0), .val (.double (FP.l2d (1 : Int64))), .second, .val (.ref we_), .val (.ref wb_), .val (.ref wp_), .unset, .unset, .unset] [(.int 1), (.ref a0_), (.int 0)])) rfl rfl (hb hby d3_147)
  have F15 : Fld Z h14 a0_ sq0 "added" "I" (.int 1) := F_added.same W14
  have K16 := K0.wr W14 (Or.inl mI0)
  have O17 := O0.wr W14 g_a0
  have N14 := Fr.snoc X14 N0 g_a0
  refine Go.st st14 ?_
  refine Go.st (t' := T14.setTop (mkF m 153 #[.val (.ref a0_), .val (.int 0), .val (.int 0), .val (.int 0), .val (.double (FP.l2d (1 : Int64))), .second, .val (.ref we_), .val (.ref wb_), .val (.ref wp_), .val (.int 0), .unset, .unset] [(.ref a0_)])) (fun target kt => ?_) ?_
  · refine XS.istore X14.here hx rfl (hb hby d3_150) rfl (l' := #[.val (.ref a0_), .val (.int 0), .val (.int 0), .val (.int 0), .val (.double (FP.l2d (1 : Int64))), .second, .val (.ref we_), .val (.ref wb_), .val (.ref wp_), .val (.int 0), .unset, .unset]) rfl ?_
    refine XS.aloadN X14.here hx rfl (hb hby d3_152) rfl rfl ?_
    exact kt
  have c18 := F_starts.other W14 (Or.inr (slot_ne (Or.inl (hw _ tw13)) (Or.inl (hw _ tw43)) (by decide) (t := (.array .int)) (t' := .int) (by decide) (by decide)))
  obtain ⟨T19, X19, e19, st19⟩ := getF X14 hx hZ hown (host := "") (Or.inl (hw _ tw12)) Via.refl e14 c18 (g := (mkF m 153 #[.val (.ref a0_), .val (.int 0), .val (.int 0), .val (.int 0), .val (.double (FP.l2d (1 : Int64))), .second, .val (.ref we_), .val (.ref wb_), .val (.ref wp_), .val (.int 0), .unset, .unset] [(.ref a0_)])) rfl rfl (hb hby d3_153)
  refine Go.st st19 ?_
  refine Go.st (t' := T19.setTop (mkF m 159 #[.val (.ref a0_), .val (.int 0), .val (.int 0), .val (.int 0), .val (.double (FP.l2d (1 : Int64))), .second, .val (.ref we_), .val (.ref wb_), .val (.ref wp_), .val (.int 0), .unset, .unset] [(.int 0), (.int 0), (.ref x_starts)])) (fun target kt => ?_) ?_
  · refine XS.iload X19.here hx rfl (hb hby d3_156) rfl ?_
    refine XS.iloadN X19.here hx rfl (hb hby d3_158) rfl ?_
    exact kt
  have ne20 : a0_ ≠ x_starts := Nat.ne_of_lt o_a0__x_starts
  have c21 := V_starts.other W14 (Ne.symm ne20)
  obtain ⟨cl22, Ar22, q22, S22, M22, H22, G22⟩ := id c21
  have hin22 : ¬ ((0 : Int32) < 0 ∨ cl22.slots.size ≤ ((0 : Int32)).toNatClampNeg) := inb_of S22 ⟨by decide, by decide⟩
  obtain ⟨T22, h22, X22, e22, W22, st22⟩ := stI X19 hx hZ e19 Ar22 (j := (0 : Int32)) hin22 (g := (mkF m 159 #[.val (.ref a0_), .val (.int 0), .val (.int 0), .val (.int 0), .val (.double (FP.l2d (1 : Int64))), .second, .val (.ref we_), .val (.ref wb_), .val (.ref wp_), .val (.int 0), .unset, .unset] [(.int 0), (.int 0), (.ref x_starts)])) rfl rfl (hb hby d3_159)
  have V23 : Arv Z h22 x_starts k_starts .int (16 : Int32) [(.int 0), (.int 0), (.int 0), (.int 0)] (.int 0) := Arv.set Ar22 q22 S22 M22 H22 G22 rfl W22 0 rfl (Nat.le_of_ble_eq_true rfl)
  have K24 := K16.wr W22 (Or.inl mI1)
  have O25 := O17.wr W22 g_starts
  have N22 := Fr.snoc X22 N14 g_starts
  refine Go.st st22 ?_
  refine Go.st (t' := T22.setTop (mkF m 161 #[.val (.ref a0_), .val (.int 0), .val (.int 0), .val (.int 0), .val (.double (FP.l2d (1 : Int64))), .second, .val (.ref we_), .val (.ref wb_), .val (.ref wp_), .val (.int 0), .unset, .unset] [(.ref a0_)])) (fun target kt => ?_) ?_
  · refine XS.aloadN X22.here hx rfl (hb hby d3_160) rfl rfl ?_
    exact kt
  have c26 := (F_nexts.other W14 (Or.inr (slot_ne (Or.inl (hw _ tw15)) (Or.inl (hw _ tw43)) (by decide) (t := (.array .int)) (t' := .int) (by decide) (by decide)))).other W22 (Or.inl ne20)
  obtain ⟨T27, X27, e27, st27⟩ := getF X22 hx hZ hown (host := "") (Or.inl (hw _ tw14)) Via.refl e22 c26 (g := (mkF m 161 #[.val (.ref a0_), .val (.int 0), .val (.int 0), .val (.int 0), .val (.double (FP.l2d (1 : Int64))), .second, .val (.ref we_), .val (.ref wb_), .val (.ref wp_), .val (.int 0), .unset, .unset] [(.ref a0_)])) rfl rfl (hb hby d3_161)
  refine Go.st st27 ?_
  refine Go.st (t' := T27.setTop (mkF m 167 #[.val (.ref a0_), .val (.int 0), .val (.int 0), .val (.int 0), .val (.double (FP.l2d (1 : Int64))), .second, .val (.ref we_), .val (.ref wb_), .val (.ref wp_), .val (.int 0), .unset, .unset] [(.int 0), (.int 0), (.ref x_nexts)])) (fun target kt => ?_) ?_
  · refine XS.iload X27.here hx rfl (hb hby d3_164) rfl ?_
    refine XS.iloadN X27.here hx rfl (hb hby d3_166) rfl ?_
    exact kt
  have ne28 : a0_ ≠ x_nexts := Nat.ne_of_lt (Nat.lt_trans o_a0__x_starts o_x_starts_x_nexts)
  have ne29 : x_starts ≠ x_nexts := Nat.ne_of_lt o_x_starts_x_nexts
  have c30 := (V_nexts.other W14 (Ne.symm ne28)).other W22 (Ne.symm ne29)
  obtain ⟨cl31, Ar31, q31, S31, M31, H31, G31⟩ := id c30
  have hin31 : ¬ ((0 : Int32) < 0 ∨ cl31.slots.size ≤ ((0 : Int32)).toNatClampNeg) := inb_of S31 ⟨by decide, by decide⟩
  obtain ⟨T31, h31, X31, e31, W31, st31⟩ := stI X27 hx hZ e27 Ar31 (j := (0 : Int32)) hin31 (g := (mkF m 167 #[.val (.ref a0_), .val (.int 0), .val (.int 0), .val (.int 0), .val (.double (FP.l2d (1 : Int64))), .second, .val (.ref we_), .val (.ref wb_), .val (.ref wp_), .val (.int 0), .unset, .unset] [(.int 0), (.int 0), (.ref x_nexts)])) rfl rfl (hb hby d3_167)
  have V32 : Arv Z h31 x_nexts k_nexts .int (16 : Int32) [(.int 0), (.int 0), (.int 0), (.int 0)] (.int 0) := Arv.set Ar31 q31 S31 M31 H31 G31 rfl W31 0 rfl (Nat.le_of_ble_eq_true rfl)
  have K33 := K24.wr W31 (Or.inl mI2)
  have O34 := O25.wr W31 g_nexts
  have N31 := Fr.snoc X31 N22 g_nexts
  refine Go.st st31 ?_
  refine Go.st (t' := T31.setTop (mkF m 169 #[.val (.ref a0_), .val (.int 0), .val (.int 0), .val (.int 0), .val (.double (FP.l2d (1 : Int64))), .second, .val (.ref we_), .val (.ref wb_), .val (.ref wp_), .val (.int 0), .unset, .unset] [(.ref a0_)])) (fun target kt => ?_) ?_
  · refine XS.aloadN X31.here hx rfl (hb hby d3_168) rfl rfl ?_
    exact kt
  have c35 := ((F_ends.other W14 (Or.inr (slot_ne (Or.inl (hw _ tw17)) (Or.inl (hw _ tw43)) (by decide) (t := (.array .int)) (t' := .int) (by decide) (by decide)))).other W22 (Or.inl ne20)).other W31 (Or.inl ne28)
  obtain ⟨T36, X36, e36, st36⟩ := getF X31 hx hZ hown (host := "") (Or.inl (hw _ tw16)) Via.refl e31 c35 (g := (mkF m 169 #[.val (.ref a0_), .val (.int 0), .val (.int 0), .val (.int 0), .val (.double (FP.l2d (1 : Int64))), .second, .val (.ref we_), .val (.ref wb_), .val (.ref wp_), .val (.int 0), .unset, .unset] [(.ref a0_)])) rfl rfl (hb hby d3_169)
  refine Go.st st36 ?_
  refine Go.st (t' := T36.setTop (mkF m 175 #[.val (.ref a0_), .val (.int 0), .val (.int 0), .val (.int 0), .val (.double (FP.l2d (1 : Int64))), .second, .val (.ref we_), .val (.ref wb_), .val (.ref wp_), .val (.int 0), .unset, .unset] [(.int 0), (.int 0), (.ref x_ends)])) (fun target kt => ?_) ?_
  · refine XS.iload X36.here hx rfl (hb hby d3_172) rfl ?_
    refine XS.iloadN X36.here hx rfl (hb hby d3_174) rfl ?_
    exact kt
  have ne37 : a0_ ≠ x_ends := Nat.ne_of_lt (Nat.lt_trans (Nat.lt_trans o_a0__x_starts o_x_starts_x_nexts) o_x_nexts_x_ends)
  have ne38 : x_starts ≠ x_ends := Nat.ne_of_lt (Nat.lt_trans o_x_starts_x_nexts o_x_nexts_x_ends)
  have ne39 : x_nexts ≠ x_ends := Nat.ne_of_lt o_x_nexts_x_ends
  have c40 := ((V_ends.other W14 (Ne.symm ne37)).other W22 (Ne.symm ne38)).other W31 (Ne.symm ne39)
  obtain ⟨cl41, Ar41, q41, S41, M41, H41, G41⟩ := id c40
  have hin41 : ¬ ((0 : Int32) < 0 ∨ cl41.slots.size ≤ ((0 : Int32)).toNatClampNeg) := inb_of S41 ⟨by decide, by decide⟩
  obtain ⟨T41, h41, X41, e41, W41, st41⟩ := stI X36 hx hZ e36 Ar41 (j := (0 : Int32)) hin41 (g := (mkF m 175 #[.val (.ref a0_), .val (.int 0), .val (.int 0), .val (.int 0), .val (.double (FP.l2d (1 : Int64))), .second, .val (.ref we_), .val (.ref wb_), .val (.ref wp_), .val (.int 0), .unset, .unset] [(.int 0), (.int 0), (.ref x_ends)])) rfl rfl (hb hby d3_175)
  have V42 : Arv Z h41 x_ends k_ends .int (16 : Int32) [(.int 0), (.int 0), (.int 0), (.int 0)] (.int 0) := Arv.set Ar41 q41 S41 M41 H41 G41 rfl W41 0 rfl (Nat.le_of_ble_eq_true rfl)
  have K43 := K33.wr W41 (Or.inl mI3)
  have O44 := O34.wr W41 g_ends
  have N41 := Fr.snoc X41 N31 g_ends
  refine Go.st st41 ?_
  refine Go.st (t' := T41.setTop (mkF m 177 #[.val (.ref a0_), .val (.int 0), .val (.int 0), .val (.int 0), .val (.double (FP.l2d (1 : Int64))), .second, .val (.ref we_), .val (.ref wb_), .val (.ref wp_), .val (.int 0), .unset, .unset] [(.ref a0_)])) (fun target kt => ?_) ?_
  · refine XS.aloadN X41.here hx rfl (hb hby d3_176) rfl rfl ?_
    exact kt
  have c45 := (((F_bounds.other W14 (Or.inr (slot_ne (Or.inl (hw _ tw19)) (Or.inl (hw _ tw43)) (by decide) (t := (.array .double)) (t' := .int) (by decide) (by decide)))).other W22 (Or.inl ne20)).other W31 (Or.inl ne28)).other W41 (Or.inl ne37)
  obtain ⟨T46, X46, e46, st46⟩ := getF X41 hx hZ hown (host := "") (Or.inl (hw _ tw18)) Via.refl e41 c45 (g := (mkF m 177 #[.val (.ref a0_), .val (.int 0), .val (.int 0), .val (.int 0), .val (.double (FP.l2d (1 : Int64))), .second, .val (.ref we_), .val (.ref wb_), .val (.ref wp_), .val (.int 0), .unset, .unset] [(.ref a0_)])) rfl rfl (hb hby d3_177)
  refine Go.st st46 ?_
  refine Go.st (t' := T46.setTop (mkF m 184 #[.val (.ref a0_), .val (.int 0), .val (.int 0), .val (.int 0), .val (.double (FP.l2d (1 : Int64))), .second, .val (.ref we_), .val (.ref wb_), .val (.ref wp_), .val (.int 0), .unset, .unset] [(.double (FP.l2d (1 : Int64))), (.int 0), (.ref x_bounds)])) (fun target kt => ?_) ?_
  · refine XS.iload X46.here hx rfl (hb hby d3_180) rfl ?_
    refine XS.dload X46.here hx rfl (hb hby d3_182) rfl ?_
    exact kt
  have ne47 : a0_ ≠ x_bounds := Nat.ne_of_lt (Nat.lt_trans (Nat.lt_trans (Nat.lt_trans o_a0__x_starts o_x_starts_x_nexts) o_x_nexts_x_ends) o_x_ends_x_bounds)
  have ne48 : x_starts ≠ x_bounds := Nat.ne_of_lt (Nat.lt_trans (Nat.lt_trans o_x_starts_x_nexts o_x_nexts_x_ends) o_x_ends_x_bounds)
  have ne49 : x_nexts ≠ x_bounds := Nat.ne_of_lt (Nat.lt_trans o_x_nexts_x_ends o_x_ends_x_bounds)
  have ne50 : x_ends ≠ x_bounds := Nat.ne_of_lt o_x_ends_x_bounds
  have c51 := (((V_bounds.other W14 (Ne.symm ne47)).other W22 (Ne.symm ne48)).other W31 (Ne.symm ne49)).other W41 (Ne.symm ne50)
  obtain ⟨cl52, Ar52, q52, S52, M52, H52, G52⟩ := id c51
  have hin52 : ¬ ((0 : Int32) < 0 ∨ cl52.slots.size ≤ ((0 : Int32)).toNatClampNeg) := inb_of S52 ⟨by decide, by decide⟩
  obtain ⟨T52, h52, X52, e52, W52, st52⟩ := stD X46 hx hZ e46 Ar52 (j := (0 : Int32)) hin52 (g := (mkF m 184 #[.val (.ref a0_), .val (.int 0), .val (.int 0), .val (.int 0), .val (.double (FP.l2d (1 : Int64))), .second, .val (.ref we_), .val (.ref wb_), .val (.ref wp_), .val (.int 0), .unset, .unset] [(.double (FP.l2d (1 : Int64))), (.int 0), (.ref x_bounds)])) rfl rfl (hb hby d3_184)
  have V53 : Arv Z h52 x_bounds k_bounds .double (16 : Int32) [(.double (FP.l2d (1 : Int64))), (.double (FP.l2d 0)), (.double (FP.l2d 0)), (.double (FP.l2d 0))] (.double (FP.l2d 0)) := Arv.set Ar52 q52 S52 M52 H52 G52 rfl W52 0 rfl (Nat.le_of_ble_eq_true rfl)
  have K54 := K43.wr W52 (Or.inl mI4)
  have O55 := O44.wr W52 g_bounds
  have N52 := Fr.snoc X52 N41 g_bounds
  refine Go.st st52 ?_
  refine Go.st (t' := T52.setTop (mkF m 186 #[.val (.ref a0_), .val (.int 0), .val (.int 0), .val (.int 0), .val (.double (FP.l2d (1 : Int64))), .second, .val (.ref we_), .val (.ref wb_), .val (.ref wp_), .val (.int 0), .unset, .unset] [(.ref a0_)])) (fun target kt => ?_) ?_
  · refine XS.aloadN X52.here hx rfl (hb hby d3_185) rfl rfl ?_
    exact kt
  have c56 := ((((F_windows.other W14 (Or.inr (slot_ne (Or.inl (hw _ tw22)) (Or.inl (hw _ tw43)) (by decide) (t := (.array .boolean)) (t' := .int) (by decide) (by decide)))).other W22 (Or.inl ne20)).other W31 (Or.inl ne28)).other W41 (Or.inl ne37)).other W52 (Or.inl ne47)
  obtain ⟨T57, X57, e57, st57⟩ := getF X52 hx hZ hown (host := "") (Or.inl (hw _ tw21)) Via.refl e52 c56 (g := (mkF m 186 #[.val (.ref a0_), .val (.int 0), .val (.int 0), .val (.int 0), .val (.double (FP.l2d (1 : Int64))), .second, .val (.ref we_), .val (.ref wb_), .val (.ref wp_), .val (.int 0), .unset, .unset] [(.ref a0_)])) rfl rfl (hb hby d3_186)
  refine Go.st st57 ?_
  refine Go.st (t' := T57.setTop (mkF m 201 #[.val (.ref a0_), .val (.int 0), .val (.int 0), .val (.int 0), .val (.double (FP.l2d (1 : Int64))), .second, .val (.ref we_), .val (.ref wb_), .val (.ref wp_), .val (.int 0), .unset, .unset] [(.int 1), (.int 0), (.ref x_windows)])) (fun target kt => ?_) ?_
  · refine XS.iload X57.here hx rfl (hb hby d3_189) rfl ?_
    refine XS.aload X57.here hx rfl (hb hby d3_191) rfl rfl ?_
    refine XS.ifnullNo X57.here hx rfl (hb hby d3_193) rfl ?_
    refine XS.iconst X57.here hx rfl (hb hby d3_196) ?_
    refine XS.goto X57.here hx rfl (pc0 := 197) (pc' := 201) rfl (hb hby d3_197) (by decide) (by decide) ?_
    exact kt
  have ne58 : a0_ ≠ x_windows := Nat.ne_of_lt (Nat.lt_trans (Nat.lt_trans (Nat.lt_trans (Nat.lt_trans o_a0__x_starts o_x_starts_x_nexts) o_x_nexts_x_ends) o_x_ends_x_bounds) o_x_bounds_x_windows)
  have ne59 : x_starts ≠ x_windows := Nat.ne_of_lt (Nat.lt_trans (Nat.lt_trans (Nat.lt_trans o_x_starts_x_nexts o_x_nexts_x_ends) o_x_ends_x_bounds) o_x_bounds_x_windows)
  have ne60 : x_nexts ≠ x_windows := Nat.ne_of_lt (Nat.lt_trans (Nat.lt_trans o_x_nexts_x_ends o_x_ends_x_bounds) o_x_bounds_x_windows)
  have ne61 : x_ends ≠ x_windows := Nat.ne_of_lt (Nat.lt_trans o_x_ends_x_bounds o_x_bounds_x_windows)
  have ne62 : x_bounds ≠ x_windows := Nat.ne_of_lt o_x_bounds_x_windows
  have c63 := ((((V_windows.other W14 (Ne.symm ne58)).other W22 (Ne.symm ne59)).other W31 (Ne.symm ne60)).other W41 (Ne.symm ne61)).other W52 (Ne.symm ne62)
  obtain ⟨cl64, Ar64, q64, S64, M64, H64, G64⟩ := id c63
  have hin64 : ¬ ((0 : Int32) < 0 ∨ cl64.slots.size ≤ ((0 : Int32)).toNatClampNeg) := inb_of S64 ⟨by decide, by decide⟩
  obtain ⟨T64, h64, X64, e64, W64, st64⟩ := stZ X57 hx hZ e57 Ar64 (j := (0 : Int32)) hin64 (g := (mkF m 201 #[.val (.ref a0_), .val (.int 0), .val (.int 0), .val (.int 0), .val (.double (FP.l2d (1 : Int64))), .second, .val (.ref we_), .val (.ref wb_), .val (.ref wp_), .val (.int 0), .unset, .unset] [(.int 1), (.int 0), (.ref x_windows)])) rfl rfl (hb hby d3_201)
  have V65 : Arv Z h64 x_windows k_windows .boolean (16 : Int32) [(.int 1), (.int 0), (.int 0), (.int 0)] (.int 0) := Arv.set Ar64 q64 S64 M64 H64 G64 rfl W64 0 rfl (Nat.le_of_ble_eq_true rfl)
  have K66 := K54.wr W64 (Or.inl mI5)
  have O67 := O55.wr W64 g_windows
  have N64 := Fr.snoc X64 N52 g_windows
  refine Go.st st64 ?_
  refine Go.st (t' := T64.setTop (mkF m 205 #[.val (.ref a0_), .val (.int 0), .val (.int 0), .val (.int 0), .val (.double (FP.l2d (1 : Int64))), .second, .val (.ref we_), .val (.ref wb_), .val (.ref wp_), .val (.int 0), .unset, .unset] [(.ref a0_), (.int 0)])) (fun target kt => ?_) ?_
  · refine XS.iload X64.here hx rfl (hb hby d3_202) rfl ?_
    refine XS.aloadN X64.here hx rfl (hb hby d3_204) rfl rfl ?_
    exact kt
  have c68 := (((((F_count.other W14 (Or.inr (slot_ne (Or.inr (hw _ tw30)) (Or.inl (hw _ tw43)) (by decide) (t := .int) (t' := .int) (by decide) (by decide)))).other W22 (Or.inl ne20)).other W31 (Or.inl ne28)).other W41 (Or.inl ne37)).other W52 (Or.inl ne47)).other W64 (Or.inl ne58)
  obtain ⟨T69, X69, e69, st69⟩ := getF X64 hx hZ hown (host := "") (Or.inl (hw _ tw29)) Via.refl e64 c68 (g := (mkF m 205 #[.val (.ref a0_), .val (.int 0), .val (.int 0), .val (.int 0), .val (.double (FP.l2d (1 : Int64))), .second, .val (.ref we_), .val (.ref wb_), .val (.ref wp_), .val (.int 0), .unset, .unset] [(.ref a0_), (.int 0)])) rfl rfl (hb hby d3_205)
  refine Go.st st69 ?_
  refine Go.st (t' := T69.setTop (mkF m 217 #[.val (.ref a0_), .val (.int 0), .val (.int 0), .val (.int 0), .val (.double (FP.l2d (1 : Int64))), .second, .val (.ref we_), .val (.ref wb_), .val (.ref wp_), .val (.int 0), .val (.int 0), .val (.int 0)] [(.ref a0_), (.int 0)])) (fun target kt => ?_) ?_
  · refine XS.imul X69.here hx rfl (hb hby d3_208) rfl ?_
    refine XS.istore X69.here hx rfl (hb hby d3_209) rfl (l' := #[.val (.ref a0_), .val (.int 0), .val (.int 0), .val (.int 0), .val (.double (FP.l2d (1 : Int64))), .second, .val (.ref we_), .val (.ref wb_), .val (.ref wp_), .val (.int 0), .val (.int 0), .unset]) rfl ?_
    refine XS.iconst X69.here hx rfl (hb hby d3_211) ?_
    refine XS.istore X69.here hx rfl (hb hby d3_212) rfl (l' := #[.val (.ref a0_), .val (.int 0), .val (.int 0), .val (.int 0), .val (.double (FP.l2d (1 : Int64))), .second, .val (.ref we_), .val (.ref wb_), .val (.ref wp_), .val (.int 0), .val (.int 0), .val (.int 0)]) rfl ?_
    refine XS.iload X69.here hx rfl (hb hby d3_214) rfl ?_
    refine XS.aloadN X69.here hx rfl (hb hby d3_216) rfl rfl ?_
    exact kt
  obtain ⟨T70, X70, e70, st70⟩ := getF X69 hx hZ hown (host := "") (Or.inl (hw _ tw29)) Via.refl e69 c68 (g := (mkF m 217 #[.val (.ref a0_), .val (.int 0), .val (.int 0), .val (.int 0), .val (.double (FP.l2d (1 : Int64))), .second, .val (.ref we_), .val (.ref wb_), .val (.ref wp_), .val (.int 0), .val (.int 0), .val (.int 0)] [(.ref a0_), (.int 0)])) rfl rfl (hb hby d3_217)
  refine Go.st st70 ?_
  refine Go.st (t' := T70.setTop (mkF m 224 #[.val (.ref a0_), .val (.int 0), .val (.int 0), .val (.int 0), .val (.double (FP.l2d (1 : Int64))), .second, .val (.ref we_), .val (.ref wb_), .val (.ref wp_), .val (.int 0), .val (.int 0), .val (.int 0)] [(.ref a0_)])) (fun target kt => ?_) ?_
  · refine XS.icmpNo X70.here hx rfl (hb hby d3_220) rfl (tlt (by decide : (0 : Int32) < (2 : Int32))).2.1 ?_
    refine XS.aloadN X70.here hx rfl (hb hby d3_223) rfl rfl ?_
    exact kt
  have c71 := (((((F_entries.other W14 (Or.inr (slot_ne (Or.inl (hw _ tw32)) (Or.inl (hw _ tw43)) (by decide) (t := (.array .int)) (t' := .int) (by decide) (by decide)))).other W22 (Or.inl ne20)).other W31 (Or.inl ne28)).other W41 (Or.inl ne37)).other W52 (Or.inl ne47)).other W64 (Or.inl ne58)
  obtain ⟨T72, X72, e72, st72⟩ := getF X70 hx hZ hown (host := "") (Or.inl (hw _ tw31)) Via.refl e70 c71 (g := (mkF m 224 #[.val (.ref a0_), .val (.int 0), .val (.int 0), .val (.int 0), .val (.double (FP.l2d (1 : Int64))), .second, .val (.ref we_), .val (.ref wb_), .val (.ref wp_), .val (.int 0), .val (.int 0), .val (.int 0)] [(.ref a0_)])) rfl rfl (hb hby d3_224)
  refine Go.st st72 ?_
  have ne73 : we_ ≠ x_parts := Nat.ne_of_lt (Nat.lt_trans (Nat.lt_trans (Nat.lt_trans (Nat.lt_trans (Nat.lt_trans (Nat.lt_trans (Nat.lt_trans (Nat.lt_trans (Nat.lt_trans (Nat.lt_trans (Nat.lt_trans (Nat.lt_trans (Nat.lt_trans o_we__wb_ o_wb__wp_) o_wp__a0_) o_a0__x_starts) o_x_starts_x_nexts) o_x_nexts_x_ends) o_x_ends_x_bounds) o_x_bounds_x_windows) o_x_windows_x_heap) o_x_heap_x_heapBounds) o_x_heapBounds_x_heapStarts) o_x_heapStarts_x_entries) o_x_entries_x_blocks) o_x_blocks_x_parts)
  have ne74 : we_ ≠ x_blocks := Nat.ne_of_lt (Nat.lt_trans (Nat.lt_trans (Nat.lt_trans (Nat.lt_trans (Nat.lt_trans (Nat.lt_trans (Nat.lt_trans (Nat.lt_trans (Nat.lt_trans (Nat.lt_trans (Nat.lt_trans (Nat.lt_trans o_we__wb_ o_wb__wp_) o_wp__a0_) o_a0__x_starts) o_x_starts_x_nexts) o_x_nexts_x_ends) o_x_ends_x_bounds) o_x_bounds_x_windows) o_x_windows_x_heap) o_x_heap_x_heapBounds) o_x_heapBounds_x_heapStarts) o_x_heapStarts_x_entries) o_x_entries_x_blocks)
  have ne75 : we_ ≠ x_entries := Nat.ne_of_lt (Nat.lt_trans (Nat.lt_trans (Nat.lt_trans (Nat.lt_trans (Nat.lt_trans (Nat.lt_trans (Nat.lt_trans (Nat.lt_trans (Nat.lt_trans (Nat.lt_trans (Nat.lt_trans o_we__wb_ o_wb__wp_) o_wp__a0_) o_a0__x_starts) o_x_starts_x_nexts) o_x_nexts_x_ends) o_x_ends_x_bounds) o_x_bounds_x_windows) o_x_windows_x_heap) o_x_heap_x_heapBounds) o_x_heapBounds_x_heapStarts) o_x_heapStarts_x_entries)
  have ne76 : we_ ≠ x_heapStarts := Nat.ne_of_lt (Nat.lt_trans (Nat.lt_trans (Nat.lt_trans (Nat.lt_trans (Nat.lt_trans (Nat.lt_trans (Nat.lt_trans (Nat.lt_trans (Nat.lt_trans (Nat.lt_trans o_we__wb_ o_wb__wp_) o_wp__a0_) o_a0__x_starts) o_x_starts_x_nexts) o_x_nexts_x_ends) o_x_ends_x_bounds) o_x_bounds_x_windows) o_x_windows_x_heap) o_x_heap_x_heapBounds) o_x_heapBounds_x_heapStarts)
  have ne77 : we_ ≠ x_heapBounds := Nat.ne_of_lt (Nat.lt_trans (Nat.lt_trans (Nat.lt_trans (Nat.lt_trans (Nat.lt_trans (Nat.lt_trans (Nat.lt_trans (Nat.lt_trans (Nat.lt_trans o_we__wb_ o_wb__wp_) o_wp__a0_) o_a0__x_starts) o_x_starts_x_nexts) o_x_nexts_x_ends) o_x_ends_x_bounds) o_x_bounds_x_windows) o_x_windows_x_heap) o_x_heap_x_heapBounds)
  have ne78 : we_ ≠ x_heap := Nat.ne_of_lt (Nat.lt_trans (Nat.lt_trans (Nat.lt_trans (Nat.lt_trans (Nat.lt_trans (Nat.lt_trans (Nat.lt_trans (Nat.lt_trans o_we__wb_ o_wb__wp_) o_wp__a0_) o_a0__x_starts) o_x_starts_x_nexts) o_x_nexts_x_ends) o_x_ends_x_bounds) o_x_bounds_x_windows) o_x_windows_x_heap)
  have ne79 : we_ ≠ x_windows := Nat.ne_of_lt (Nat.lt_trans (Nat.lt_trans (Nat.lt_trans (Nat.lt_trans (Nat.lt_trans (Nat.lt_trans (Nat.lt_trans o_we__wb_ o_wb__wp_) o_wp__a0_) o_a0__x_starts) o_x_starts_x_nexts) o_x_nexts_x_ends) o_x_ends_x_bounds) o_x_bounds_x_windows)
  have ne80 : we_ ≠ x_bounds := Nat.ne_of_lt (Nat.lt_trans (Nat.lt_trans (Nat.lt_trans (Nat.lt_trans (Nat.lt_trans (Nat.lt_trans o_we__wb_ o_wb__wp_) o_wp__a0_) o_a0__x_starts) o_x_starts_x_nexts) o_x_nexts_x_ends) o_x_ends_x_bounds)
  have ne81 : we_ ≠ x_ends := Nat.ne_of_lt (Nat.lt_trans (Nat.lt_trans (Nat.lt_trans (Nat.lt_trans (Nat.lt_trans o_we__wb_ o_wb__wp_) o_wp__a0_) o_a0__x_starts) o_x_starts_x_nexts) o_x_nexts_x_ends)
  have ne82 : we_ ≠ x_nexts := Nat.ne_of_lt (Nat.lt_trans (Nat.lt_trans (Nat.lt_trans (Nat.lt_trans o_we__wb_ o_wb__wp_) o_wp__a0_) o_a0__x_starts) o_x_starts_x_nexts)
  have ne83 : we_ ≠ x_starts := Nat.ne_of_lt (Nat.lt_trans (Nat.lt_trans (Nat.lt_trans o_we__wb_ o_wb__wp_) o_wp__a0_) o_a0__x_starts)
  have ne84 : we_ ≠ a0_ := Nat.ne_of_lt (Nat.lt_trans (Nat.lt_trans o_we__wb_ o_wb__wp_) o_wp__a0_)
  have c85 := V_we.keep K66 (ninS ne84 (ninS ne83 (ninS ne82 (ninS ne81 (ninS ne80 (ninS ne79 (ninS ne78 (ninS ne77 (ninS ne76 (ninS ne75 (ninS ne74 (ninS ne73 nin0))))))))))))
  obtain ⟨cl86, Ar86, -, S86, M86, H86, -⟩ := id c85
  have hin86 : ¬ ((0 : Int32) < 0 ∨ cl86.slots.size ≤ ((0 : Int32)).toNatClampNeg) := inb_of S86 ⟨by decide, by decide⟩
  have hat86 : cl86.slots[((0 : Int32)).toNatClampNeg]? = some (.int e0_) := H86.at hin86 rfl
  refine Go.st (t' := T72.setTop (mkF m 237 #[.val (.ref a0_), .val (.int 0), .val (.int 0), .val (.int 0), .val (.double (FP.l2d (1 : Int64))), .second, .val (.ref we_), .val (.ref wb_), .val (.ref wp_), .val (.int 0), .val (.int 0), .val (.int 0)] [(.int e0_), (.int 0), (.ref x_entries)])) (fun target kt => ?_) ?_
  · refine XS.iload X72.here hx rfl (hb hby d3_227) rfl ?_
    refine XS.iload X72.here hx rfl (hb hby d3_229) rfl ?_
    refine XS.iadd X72.here hx rfl (hb hby d3_231) rfl ?_
    refine XS.aload X72.here hx rfl (hb hby d3_232) rfl rfl ?_
    refine XS.iload X72.here hx rfl (hb hby d3_234) rfl ?_
    refine X72.iaload hx (j := (0 : Int32)) (v := (.int e0_)) (by rw [e72]; exact Ar86.1) (State.isArrayOf_alike hZ.alike Ar86.2.1) Ar86.2.2 hin86 hat86 (g := (mkF m 236 #[.val (.ref a0_), .val (.int 0), .val (.int 0), .val (.int 0), .val (.double (FP.l2d (1 : Int64))), .second, .val (.ref we_), .val (.ref wb_), .val (.ref wp_), .val (.int 0), .val (.int 0), .val (.int 0)] [(.int 0), (.ref we_), (.int 0), (.ref x_entries)])) rfl rfl (hb hby d3_236) _ ?_
    exact kt
  have ne87 : a0_ ≠ x_entries := Nat.ne_of_lt (Nat.lt_trans (Nat.lt_trans (Nat.lt_trans (Nat.lt_trans (Nat.lt_trans (Nat.lt_trans (Nat.lt_trans (Nat.lt_trans o_a0__x_starts o_x_starts_x_nexts) o_x_nexts_x_ends) o_x_ends_x_bounds) o_x_bounds_x_windows) o_x_windows_x_heap) o_x_heap_x_heapBounds) o_x_heapBounds_x_heapStarts) o_x_heapStarts_x_entries)
  have ne88 : x_starts ≠ x_entries := Nat.ne_of_lt (Nat.lt_trans (Nat.lt_trans (Nat.lt_trans (Nat.lt_trans (Nat.lt_trans (Nat.lt_trans (Nat.lt_trans o_x_starts_x_nexts o_x_nexts_x_ends) o_x_ends_x_bounds) o_x_bounds_x_windows) o_x_windows_x_heap) o_x_heap_x_heapBounds) o_x_heapBounds_x_heapStarts) o_x_heapStarts_x_entries)
  have ne89 : x_nexts ≠ x_entries := Nat.ne_of_lt (Nat.lt_trans (Nat.lt_trans (Nat.lt_trans (Nat.lt_trans (Nat.lt_trans (Nat.lt_trans o_x_nexts_x_ends o_x_ends_x_bounds) o_x_bounds_x_windows) o_x_windows_x_heap) o_x_heap_x_heapBounds) o_x_heapBounds_x_heapStarts) o_x_heapStarts_x_entries)
  have ne90 : x_ends ≠ x_entries := Nat.ne_of_lt (Nat.lt_trans (Nat.lt_trans (Nat.lt_trans (Nat.lt_trans (Nat.lt_trans o_x_ends_x_bounds o_x_bounds_x_windows) o_x_windows_x_heap) o_x_heap_x_heapBounds) o_x_heapBounds_x_heapStarts) o_x_heapStarts_x_entries)
  have ne91 : x_bounds ≠ x_entries := Nat.ne_of_lt (Nat.lt_trans (Nat.lt_trans (Nat.lt_trans (Nat.lt_trans o_x_bounds_x_windows o_x_windows_x_heap) o_x_heap_x_heapBounds) o_x_heapBounds_x_heapStarts) o_x_heapStarts_x_entries)
  have ne92 : x_windows ≠ x_entries := Nat.ne_of_lt (Nat.lt_trans (Nat.lt_trans (Nat.lt_trans o_x_windows_x_heap o_x_heap_x_heapBounds) o_x_heapBounds_x_heapStarts) o_x_heapStarts_x_entries)
  have c93 := (((((V_entries.other W14 (Ne.symm ne87)).other W22 (Ne.symm ne88)).other W31 (Ne.symm ne89)).other W41 (Ne.symm ne90)).other W52 (Ne.symm ne91)).other W64 (Ne.symm ne92)
  obtain ⟨cl94, Ar94, q94, S94, M94, H94, G94⟩ := id c93
  have hin94 : ¬ ((0 : Int32) < 0 ∨ cl94.slots.size ≤ ((0 : Int32)).toNatClampNeg) := inb_of S94 ⟨by decide, by decide⟩
  obtain ⟨T94, h94, X94, e94, W94, st94⟩ := stI X72 hx hZ e72 Ar94 (j := (0 : Int32)) hin94 (g := (mkF m 237 #[.val (.ref a0_), .val (.int 0), .val (.int 0), .val (.int 0), .val (.double (FP.l2d (1 : Int64))), .second, .val (.ref we_), .val (.ref wb_), .val (.ref wp_), .val (.int 0), .val (.int 0), .val (.int 0)] [(.int e0_), (.int 0), (.ref x_entries)])) rfl rfl (hb hby d3_237)
  have V95 : Arv Z h94 x_entries k_entries .int (32 : Int32) [(.int e0_), (.int 0), (.int 0), (.int 0)] (.int 0) := Arv.set Ar94 q94 S94 M94 H94 G94 rfl W94 0 rfl (Nat.le_of_ble_eq_true rfl)
  have K96 := K66.wr W94 (Or.inl (List.mem_of_getElem? (i := 9) rfl))
  have O97 := O67.wr W94 g_entries
  have N94 := Fr.snoc X94 N64 g_entries
  refine Go.st st94 ?_
  refine Go.st (t' := T94.setTop (mkF m 239 #[.val (.ref a0_), .val (.int 0), .val (.int 0), .val (.int 0), .val (.double (FP.l2d (1 : Int64))), .second, .val (.ref we_), .val (.ref wb_), .val (.ref wp_), .val (.int 0), .val (.int 0), .val (.int 0)] [(.ref a0_)])) (fun target kt => ?_) ?_
  · refine XS.aloadN X94.here hx rfl (hb hby d3_238) rfl rfl ?_
    exact kt
  have c98 := ((((((F_parts.other W14 (Or.inr (slot_ne (Or.inl (hw _ tw36)) (Or.inl (hw _ tw43)) (by decide) (t := (.array .double)) (t' := .int) (by decide) (by decide)))).other W22 (Or.inl ne20)).other W31 (Or.inl ne28)).other W41 (Or.inl ne37)).other W52 (Or.inl ne47)).other W64 (Or.inl ne58)).other W94 (Or.inl ne87)
  obtain ⟨T99, X99, e99, st99⟩ := getF X94 hx hZ hown (host := "") (Or.inl (hw _ tw35)) Via.refl e94 c98 (g := (mkF m 239 #[.val (.ref a0_), .val (.int 0), .val (.int 0), .val (.int 0), .val (.double (FP.l2d (1 : Int64))), .second, .val (.ref we_), .val (.ref wb_), .val (.ref wp_), .val (.int 0), .val (.int 0), .val (.int 0)] [(.ref a0_)])) rfl rfl (hb hby d3_239)
  refine Go.st st99 ?_
  have ne100 : wp_ ≠ x_parts := Nat.ne_of_lt (Nat.lt_trans (Nat.lt_trans (Nat.lt_trans (Nat.lt_trans (Nat.lt_trans (Nat.lt_trans (Nat.lt_trans (Nat.lt_trans (Nat.lt_trans (Nat.lt_trans (Nat.lt_trans o_wp__a0_ o_a0__x_starts) o_x_starts_x_nexts) o_x_nexts_x_ends) o_x_ends_x_bounds) o_x_bounds_x_windows) o_x_windows_x_heap) o_x_heap_x_heapBounds) o_x_heapBounds_x_heapStarts) o_x_heapStarts_x_entries) o_x_entries_x_blocks) o_x_blocks_x_parts)
  have ne101 : wp_ ≠ x_blocks := Nat.ne_of_lt (Nat.lt_trans (Nat.lt_trans (Nat.lt_trans (Nat.lt_trans (Nat.lt_trans (Nat.lt_trans (Nat.lt_trans (Nat.lt_trans (Nat.lt_trans (Nat.lt_trans o_wp__a0_ o_a0__x_starts) o_x_starts_x_nexts) o_x_nexts_x_ends) o_x_ends_x_bounds) o_x_bounds_x_windows) o_x_windows_x_heap) o_x_heap_x_heapBounds) o_x_heapBounds_x_heapStarts) o_x_heapStarts_x_entries) o_x_entries_x_blocks)
  have ne102 : wp_ ≠ x_entries := Nat.ne_of_lt (Nat.lt_trans (Nat.lt_trans (Nat.lt_trans (Nat.lt_trans (Nat.lt_trans (Nat.lt_trans (Nat.lt_trans (Nat.lt_trans (Nat.lt_trans o_wp__a0_ o_a0__x_starts) o_x_starts_x_nexts) o_x_nexts_x_ends) o_x_ends_x_bounds) o_x_bounds_x_windows) o_x_windows_x_heap) o_x_heap_x_heapBounds) o_x_heapBounds_x_heapStarts) o_x_heapStarts_x_entries)
  have ne103 : wp_ ≠ x_heapStarts := Nat.ne_of_lt (Nat.lt_trans (Nat.lt_trans (Nat.lt_trans (Nat.lt_trans (Nat.lt_trans (Nat.lt_trans (Nat.lt_trans (Nat.lt_trans o_wp__a0_ o_a0__x_starts) o_x_starts_x_nexts) o_x_nexts_x_ends) o_x_ends_x_bounds) o_x_bounds_x_windows) o_x_windows_x_heap) o_x_heap_x_heapBounds) o_x_heapBounds_x_heapStarts)
  have ne104 : wp_ ≠ x_heapBounds := Nat.ne_of_lt (Nat.lt_trans (Nat.lt_trans (Nat.lt_trans (Nat.lt_trans (Nat.lt_trans (Nat.lt_trans (Nat.lt_trans o_wp__a0_ o_a0__x_starts) o_x_starts_x_nexts) o_x_nexts_x_ends) o_x_ends_x_bounds) o_x_bounds_x_windows) o_x_windows_x_heap) o_x_heap_x_heapBounds)
  have ne105 : wp_ ≠ x_heap := Nat.ne_of_lt (Nat.lt_trans (Nat.lt_trans (Nat.lt_trans (Nat.lt_trans (Nat.lt_trans (Nat.lt_trans o_wp__a0_ o_a0__x_starts) o_x_starts_x_nexts) o_x_nexts_x_ends) o_x_ends_x_bounds) o_x_bounds_x_windows) o_x_windows_x_heap)
  have ne106 : wp_ ≠ x_windows := Nat.ne_of_lt (Nat.lt_trans (Nat.lt_trans (Nat.lt_trans (Nat.lt_trans (Nat.lt_trans o_wp__a0_ o_a0__x_starts) o_x_starts_x_nexts) o_x_nexts_x_ends) o_x_ends_x_bounds) o_x_bounds_x_windows)
  have ne107 : wp_ ≠ x_bounds := Nat.ne_of_lt (Nat.lt_trans (Nat.lt_trans (Nat.lt_trans (Nat.lt_trans o_wp__a0_ o_a0__x_starts) o_x_starts_x_nexts) o_x_nexts_x_ends) o_x_ends_x_bounds)
  have ne108 : wp_ ≠ x_ends := Nat.ne_of_lt (Nat.lt_trans (Nat.lt_trans (Nat.lt_trans o_wp__a0_ o_a0__x_starts) o_x_starts_x_nexts) o_x_nexts_x_ends)
  have ne109 : wp_ ≠ x_nexts := Nat.ne_of_lt (Nat.lt_trans (Nat.lt_trans o_wp__a0_ o_a0__x_starts) o_x_starts_x_nexts)
  have ne110 : wp_ ≠ x_starts := Nat.ne_of_lt (Nat.lt_trans o_wp__a0_ o_a0__x_starts)
  have ne111 : wp_ ≠ a0_ := Nat.ne_of_lt o_wp__a0_
  have c112 := V_wp.keep K96 (ninS ne111 (ninS ne110 (ninS ne109 (ninS ne108 (ninS ne107 (ninS ne106 (ninS ne105 (ninS ne104 (ninS ne103 (ninS ne102 (ninS ne101 (ninS ne100 nin0))))))))))))
  obtain ⟨cl113, Ar113, -, S113, M113, H113, -⟩ := id c112
  have hin113 : ¬ ((0 : Int32) < 0 ∨ cl113.slots.size ≤ ((0 : Int32)).toNatClampNeg) := inb_of S113 ⟨by decide, by decide⟩
  have hat113 : cl113.slots[((0 : Int32)).toNatClampNeg]? = some (.double d0_) := H113.at hin113 rfl
  refine Go.st (t' := T99.setTop (mkF m 252 #[.val (.ref a0_), .val (.int 0), .val (.int 0), .val (.int 0), .val (.double (FP.l2d (1 : Int64))), .second, .val (.ref we_), .val (.ref wb_), .val (.ref wp_), .val (.int 0), .val (.int 0), .val (.int 0)] [(.double d0_), (.int 0), (.ref x_parts)])) (fun target kt => ?_) ?_
  · refine XS.iload X99.here hx rfl (hb hby d3_242) rfl ?_
    refine XS.iload X99.here hx rfl (hb hby d3_244) rfl ?_
    refine XS.iadd X99.here hx rfl (hb hby d3_246) rfl ?_
    refine XS.aload X99.here hx rfl (hb hby d3_247) rfl rfl ?_
    refine XS.iload X99.here hx rfl (hb hby d3_249) rfl ?_
    refine X99.daload hx (j := (0 : Int32)) (v := (.double d0_)) (by rw [e99]; exact Ar113.1) (State.isArrayOf_alike hZ.alike Ar113.2.1) Ar113.2.2 hin113 hat113 (g := (mkF m 251 #[.val (.ref a0_), .val (.int 0), .val (.int 0), .val (.int 0), .val (.double (FP.l2d (1 : Int64))), .second, .val (.ref we_), .val (.ref wb_), .val (.ref wp_), .val (.int 0), .val (.int 0), .val (.int 0)] [(.int 0), (.ref wp_), (.int 0), (.ref x_parts)])) rfl rfl (hb hby d3_251) _ ?_
    exact kt
  have ne114 : a0_ ≠ x_parts := Nat.ne_of_lt (Nat.lt_trans (Nat.lt_trans (Nat.lt_trans (Nat.lt_trans (Nat.lt_trans (Nat.lt_trans (Nat.lt_trans (Nat.lt_trans (Nat.lt_trans (Nat.lt_trans o_a0__x_starts o_x_starts_x_nexts) o_x_nexts_x_ends) o_x_ends_x_bounds) o_x_bounds_x_windows) o_x_windows_x_heap) o_x_heap_x_heapBounds) o_x_heapBounds_x_heapStarts) o_x_heapStarts_x_entries) o_x_entries_x_blocks) o_x_blocks_x_parts)
  have ne115 : x_starts ≠ x_parts := Nat.ne_of_lt (Nat.lt_trans (Nat.lt_trans (Nat.lt_trans (Nat.lt_trans (Nat.lt_trans (Nat.lt_trans (Nat.lt_trans (Nat.lt_trans (Nat.lt_trans o_x_starts_x_nexts o_x_nexts_x_ends) o_x_ends_x_bounds) o_x_bounds_x_windows) o_x_windows_x_heap) o_x_heap_x_heapBounds) o_x_heapBounds_x_heapStarts) o_x_heapStarts_x_entries) o_x_entries_x_blocks) o_x_blocks_x_parts)
  have ne116 : x_nexts ≠ x_parts := Nat.ne_of_lt (Nat.lt_trans (Nat.lt_trans (Nat.lt_trans (Nat.lt_trans (Nat.lt_trans (Nat.lt_trans (Nat.lt_trans (Nat.lt_trans o_x_nexts_x_ends o_x_ends_x_bounds) o_x_bounds_x_windows) o_x_windows_x_heap) o_x_heap_x_heapBounds) o_x_heapBounds_x_heapStarts) o_x_heapStarts_x_entries) o_x_entries_x_blocks) o_x_blocks_x_parts)
  have ne117 : x_ends ≠ x_parts := Nat.ne_of_lt (Nat.lt_trans (Nat.lt_trans (Nat.lt_trans (Nat.lt_trans (Nat.lt_trans (Nat.lt_trans (Nat.lt_trans o_x_ends_x_bounds o_x_bounds_x_windows) o_x_windows_x_heap) o_x_heap_x_heapBounds) o_x_heapBounds_x_heapStarts) o_x_heapStarts_x_entries) o_x_entries_x_blocks) o_x_blocks_x_parts)
  have ne118 : x_bounds ≠ x_parts := Nat.ne_of_lt (Nat.lt_trans (Nat.lt_trans (Nat.lt_trans (Nat.lt_trans (Nat.lt_trans (Nat.lt_trans o_x_bounds_x_windows o_x_windows_x_heap) o_x_heap_x_heapBounds) o_x_heapBounds_x_heapStarts) o_x_heapStarts_x_entries) o_x_entries_x_blocks) o_x_blocks_x_parts)
  have ne119 : x_windows ≠ x_parts := Nat.ne_of_lt (Nat.lt_trans (Nat.lt_trans (Nat.lt_trans (Nat.lt_trans (Nat.lt_trans o_x_windows_x_heap o_x_heap_x_heapBounds) o_x_heapBounds_x_heapStarts) o_x_heapStarts_x_entries) o_x_entries_x_blocks) o_x_blocks_x_parts)
  have ne120 : x_entries ≠ x_parts := Nat.ne_of_lt (Nat.lt_trans o_x_entries_x_blocks o_x_blocks_x_parts)
  have c121 := ((((((V_parts.other W14 (Ne.symm ne114)).other W22 (Ne.symm ne115)).other W31 (Ne.symm ne116)).other W41 (Ne.symm ne117)).other W52 (Ne.symm ne118)).other W64 (Ne.symm ne119)).other W94 (Ne.symm ne120)
  obtain ⟨cl122, Ar122, q122, S122, M122, H122, G122⟩ := id c121
  have hin122 : ¬ ((0 : Int32) < 0 ∨ cl122.slots.size ≤ ((0 : Int32)).toNatClampNeg) := inb_of S122 ⟨by decide, by decide⟩
  obtain ⟨T122, h122, X122, e122, W122, st122⟩ := stD X99 hx hZ e99 Ar122 (j := (0 : Int32)) hin122 (g := (mkF m 252 #[.val (.ref a0_), .val (.int 0), .val (.int 0), .val (.int 0), .val (.double (FP.l2d (1 : Int64))), .second, .val (.ref we_), .val (.ref wb_), .val (.ref wp_), .val (.int 0), .val (.int 0), .val (.int 0)] [(.double d0_), (.int 0), (.ref x_parts)])) rfl rfl (hb hby d3_252)
  have V123 : Arv Z h122 x_parts k_parts .double (32 : Int32) [(.double d0_), (.double (FP.l2d 0)), (.double (FP.l2d 0)), (.double (FP.l2d 0))] (.double (FP.l2d 0)) := Arv.set Ar122 q122 S122 M122 H122 G122 rfl W122 0 rfl (Nat.le_of_ble_eq_true rfl)
  have K124 := K96.wr W122 (Or.inl (List.mem_of_getElem? (i := 11) rfl))
  have O125 := O97.wr W122 g_parts
  have N122 := Fr.snoc X122 N94 g_parts
  refine Go.st st122 ?_
  refine Go.st (t' := T122.setTop (mkF m 217 #[.val (.ref a0_), .val (.int 0), .val (.int 0), .val (.int 0), .val (.double (FP.l2d (1 : Int64))), .second, .val (.ref we_), .val (.ref wb_), .val (.ref wp_), .val (.int 0), .val (.int 0), .val (.int 1)] [(.ref a0_), (.int 1)])) (fun target kt => ?_) ?_
  · refine XS.iinc X122.here hx rfl (hb hby d3_253) rfl (l' := #[.val (.ref a0_), .val (.int 0), .val (.int 0), .val (.int 0), .val (.double (FP.l2d (1 : Int64))), .second, .val (.ref we_), .val (.ref wb_), .val (.ref wp_), .val (.int 0), .val (.int 0), .val (.int 1)]) rfl ?_
    refine XS.goto X122.here hx rfl (pc0 := 256) (pc' := 214) rfl (hb hby d3_256) (by decide) (by decide) ?_
    refine XS.iload X122.here hx rfl (hb hby d3_214) rfl ?_
    refine XS.aloadN X122.here hx rfl (hb hby d3_216) rfl rfl ?_
    exact kt
  have S_126 : Keep h64 h122 [x_entries, x_parts] := (((Keep.refl h64 [x_entries, x_parts]).wr W94 (Or.inl mI0)).wr W122 (Or.inl mI1))
  have c127 := c68.keep S_126 (ninS ne87 (ninS ne114 nin0))
  obtain ⟨T128, X128, e128, st128⟩ := getF X122 hx hZ hown (host := "") (Or.inl (hw _ tw29)) Via.refl e122 c127 (g := (mkF m 217 #[.val (.ref a0_), .val (.int 0), .val (.int 0), .val (.int 0), .val (.double (FP.l2d (1 : Int64))), .second, .val (.ref we_), .val (.ref wb_), .val (.ref wp_), .val (.int 0), .val (.int 0), .val (.int 1)] [(.ref a0_), (.int 1)])) rfl rfl (hb hby d3_217)
  refine Go.st st128 ?_
  refine Go.st (t' := T128.setTop (mkF m 224 #[.val (.ref a0_), .val (.int 0), .val (.int 0), .val (.int 0), .val (.double (FP.l2d (1 : Int64))), .second, .val (.ref we_), .val (.ref wb_), .val (.ref wp_), .val (.int 0), .val (.int 0), .val (.int 1)] [(.ref a0_)])) (fun target kt => ?_) ?_
  · refine XS.icmpNo X128.here hx rfl (hb hby d3_220) rfl (tlt (by decide : (1 : Int32) < (2 : Int32))).2.1 ?_
    refine XS.aloadN X128.here hx rfl (hb hby d3_223) rfl rfl ?_
    exact kt
  have c129 := c71.keep S_126 (ninS ne87 (ninS ne114 nin0))
  obtain ⟨T130, X130, e130, st130⟩ := getF X128 hx hZ hown (host := "") (Or.inl (hw _ tw31)) Via.refl e128 c129 (g := (mkF m 224 #[.val (.ref a0_), .val (.int 0), .val (.int 0), .val (.int 0), .val (.double (FP.l2d (1 : Int64))), .second, .val (.ref we_), .val (.ref wb_), .val (.ref wp_), .val (.int 0), .val (.int 0), .val (.int 1)] [(.ref a0_)])) rfl rfl (hb hby d3_224)
  refine Go.st st130 ?_
  have c131 := c85.keep S_126 (ninS ne75 (ninS ne73 nin0))
  obtain ⟨cl132, Ar132, -, S132, M132, H132, -⟩ := id c131
  have hin132 : ¬ ((1 : Int32) < 0 ∨ cl132.slots.size ≤ ((1 : Int32)).toNatClampNeg) := inb_of S132 ⟨by decide, by decide⟩
  have hat132 : cl132.slots[((1 : Int32)).toNatClampNeg]? = some (.int e1_) := H132.at hin132 rfl
  refine Go.st (t' := T130.setTop (mkF m 237 #[.val (.ref a0_), .val (.int 0), .val (.int 0), .val (.int 0), .val (.double (FP.l2d (1 : Int64))), .second, .val (.ref we_), .val (.ref wb_), .val (.ref wp_), .val (.int 0), .val (.int 0), .val (.int 1)] [(.int e1_), (.int 1), (.ref x_entries)])) (fun target kt => ?_) ?_
  · refine XS.iload X130.here hx rfl (hb hby d3_227) rfl ?_
    refine XS.iload X130.here hx rfl (hb hby d3_229) rfl ?_
    refine XS.iadd X130.here hx rfl (hb hby d3_231) rfl ?_
    refine XS.aload X130.here hx rfl (hb hby d3_232) rfl rfl ?_
    refine XS.iload X130.here hx rfl (hb hby d3_234) rfl ?_
    refine X130.iaload hx (j := (1 : Int32)) (v := (.int e1_)) (by rw [e130]; exact Ar132.1) (State.isArrayOf_alike hZ.alike Ar132.2.1) Ar132.2.2 hin132 hat132 (g := (mkF m 236 #[.val (.ref a0_), .val (.int 0), .val (.int 0), .val (.int 0), .val (.double (FP.l2d (1 : Int64))), .second, .val (.ref we_), .val (.ref wb_), .val (.ref wp_), .val (.int 0), .val (.int 0), .val (.int 1)] [(.int 1), (.ref we_), (.int 1), (.ref x_entries)])) rfl rfl (hb hby d3_236) _ ?_
    exact kt
  have c133 := V95.other W122 ne120
  obtain ⟨cl134, Ar134, q134, S134, M134, H134, G134⟩ := id c133
  have hin134 : ¬ ((1 : Int32) < 0 ∨ cl134.slots.size ≤ ((1 : Int32)).toNatClampNeg) := inb_of S134 ⟨by decide, by decide⟩
  obtain ⟨T134, h134, X134, e134, W134, st134⟩ := stI X130 hx hZ e130 Ar134 (j := (1 : Int32)) hin134 (g := (mkF m 237 #[.val (.ref a0_), .val (.int 0), .val (.int 0), .val (.int 0), .val (.double (FP.l2d (1 : Int64))), .second, .val (.ref we_), .val (.ref wb_), .val (.ref wp_), .val (.int 0), .val (.int 0), .val (.int 1)] [(.int e1_), (.int 1), (.ref x_entries)])) rfl rfl (hb hby d3_237)
  have V135 : Arv Z h134 x_entries k_entries .int (32 : Int32) [(.int e0_), (.int e1_), (.int 0), (.int 0)] (.int 0) := Arv.set Ar134 q134 S134 M134 H134 G134 rfl W134 1 rfl (Nat.le_of_ble_eq_true rfl)
  have K136 := K124.wr W134 (Or.inl (List.mem_of_getElem? (i := 9) rfl))
  have O137 := O125.wr W134 g_entries
  have N134 := Fr.snoc X134 N122 g_entries
  refine Go.st st134 ?_
  refine Go.st (t' := T134.setTop (mkF m 239 #[.val (.ref a0_), .val (.int 0), .val (.int 0), .val (.int 0), .val (.double (FP.l2d (1 : Int64))), .second, .val (.ref we_), .val (.ref wb_), .val (.ref wp_), .val (.int 0), .val (.int 0), .val (.int 1)] [(.ref a0_)])) (fun target kt => ?_) ?_
  · refine XS.aloadN X134.here hx rfl (hb hby d3_238) rfl rfl ?_
    exact kt
  have S_138 : Keep h94 h134 [x_parts, x_entries] := (((Keep.refl h94 [x_parts, x_entries]).wr W122 (Or.inl mI0)).wr W134 (Or.inl mI1))
  have c139 := c98.keep S_138 (ninS ne114 (ninS ne87 nin0))
  obtain ⟨T140, X140, e140, st140⟩ := getF X134 hx hZ hown (host := "") (Or.inl (hw _ tw35)) Via.refl e134 c139 (g := (mkF m 239 #[.val (.ref a0_), .val (.int 0), .val (.int 0), .val (.int 0), .val (.double (FP.l2d (1 : Int64))), .second, .val (.ref we_), .val (.ref wb_), .val (.ref wp_), .val (.int 0), .val (.int 0), .val (.int 1)] [(.ref a0_)])) rfl rfl (hb hby d3_239)
  refine Go.st st140 ?_
  have c141 := c112.keep S_138 (ninS ne100 (ninS ne102 nin0))
  obtain ⟨cl142, Ar142, -, S142, M142, H142, -⟩ := id c141
  have hin142 : ¬ ((1 : Int32) < 0 ∨ cl142.slots.size ≤ ((1 : Int32)).toNatClampNeg) := inb_of S142 ⟨by decide, by decide⟩
  have hat142 : cl142.slots[((1 : Int32)).toNatClampNeg]? = some (.double d1_) := H142.at hin142 rfl
  refine Go.st (t' := T140.setTop (mkF m 252 #[.val (.ref a0_), .val (.int 0), .val (.int 0), .val (.int 0), .val (.double (FP.l2d (1 : Int64))), .second, .val (.ref we_), .val (.ref wb_), .val (.ref wp_), .val (.int 0), .val (.int 0), .val (.int 1)] [(.double d1_), (.int 1), (.ref x_parts)])) (fun target kt => ?_) ?_
  · refine XS.iload X140.here hx rfl (hb hby d3_242) rfl ?_
    refine XS.iload X140.here hx rfl (hb hby d3_244) rfl ?_
    refine XS.iadd X140.here hx rfl (hb hby d3_246) rfl ?_
    refine XS.aload X140.here hx rfl (hb hby d3_247) rfl rfl ?_
    refine XS.iload X140.here hx rfl (hb hby d3_249) rfl ?_
    refine X140.daload hx (j := (1 : Int32)) (v := (.double d1_)) (by rw [e140]; exact Ar142.1) (State.isArrayOf_alike hZ.alike Ar142.2.1) Ar142.2.2 hin142 hat142 (g := (mkF m 251 #[.val (.ref a0_), .val (.int 0), .val (.int 0), .val (.int 0), .val (.double (FP.l2d (1 : Int64))), .second, .val (.ref we_), .val (.ref wb_), .val (.ref wp_), .val (.int 0), .val (.int 0), .val (.int 1)] [(.int 1), (.ref wp_), (.int 1), (.ref x_parts)])) rfl rfl (hb hby d3_251) _ ?_
    exact kt
  have c143 := V123.other W134 (Ne.symm ne120)
  obtain ⟨cl144, Ar144, q144, S144, M144, H144, G144⟩ := id c143
  have hin144 : ¬ ((1 : Int32) < 0 ∨ cl144.slots.size ≤ ((1 : Int32)).toNatClampNeg) := inb_of S144 ⟨by decide, by decide⟩
  obtain ⟨T144, h144, X144, e144, W144, st144⟩ := stD X140 hx hZ e140 Ar144 (j := (1 : Int32)) hin144 (g := (mkF m 252 #[.val (.ref a0_), .val (.int 0), .val (.int 0), .val (.int 0), .val (.double (FP.l2d (1 : Int64))), .second, .val (.ref we_), .val (.ref wb_), .val (.ref wp_), .val (.int 0), .val (.int 0), .val (.int 1)] [(.double d1_), (.int 1), (.ref x_parts)])) rfl rfl (hb hby d3_252)
  have V145 : Arv Z h144 x_parts k_parts .double (32 : Int32) [(.double d0_), (.double d1_), (.double (FP.l2d 0)), (.double (FP.l2d 0))] (.double (FP.l2d 0)) := Arv.set Ar144 q144 S144 M144 H144 G144 rfl W144 1 rfl (Nat.le_of_ble_eq_true rfl)
  have K146 := K136.wr W144 (Or.inl (List.mem_of_getElem? (i := 11) rfl))
  have O147 := O137.wr W144 g_parts
  have N144 := Fr.snoc X144 N134 g_parts
  refine Go.st st144 ?_
  refine Go.st (t' := T144.setTop (mkF m 217 #[.val (.ref a0_), .val (.int 0), .val (.int 0), .val (.int 0), .val (.double (FP.l2d (1 : Int64))), .second, .val (.ref we_), .val (.ref wb_), .val (.ref wp_), .val (.int 0), .val (.int 0), .val (.int 2)] [(.ref a0_), (.int 2)])) (fun target kt => ?_) ?_
  · refine XS.iinc X144.here hx rfl (hb hby d3_253) rfl (l' := #[.val (.ref a0_), .val (.int 0), .val (.int 0), .val (.int 0), .val (.double (FP.l2d (1 : Int64))), .second, .val (.ref we_), .val (.ref wb_), .val (.ref wp_), .val (.int 0), .val (.int 0), .val (.int 2)]) rfl ?_
    refine XS.goto X144.here hx rfl (pc0 := 256) (pc' := 214) rfl (hb hby d3_256) (by decide) (by decide) ?_
    refine XS.iload X144.here hx rfl (hb hby d3_214) rfl ?_
    refine XS.aloadN X144.here hx rfl (hb hby d3_216) rfl rfl ?_
    exact kt
  have S_148 : Keep h122 h144 [x_entries, x_parts] := (((Keep.refl h122 [x_entries, x_parts]).wr W134 (Or.inl mI0)).wr W144 (Or.inl mI1))
  have c149 := c127.keep S_148 (ninS ne87 (ninS ne114 nin0))
  obtain ⟨T150, X150, e150, st150⟩ := getF X144 hx hZ hown (host := "") (Or.inl (hw _ tw29)) Via.refl e144 c149 (g := (mkF m 217 #[.val (.ref a0_), .val (.int 0), .val (.int 0), .val (.int 0), .val (.double (FP.l2d (1 : Int64))), .second, .val (.ref we_), .val (.ref wb_), .val (.ref wp_), .val (.int 0), .val (.int 0), .val (.int 2)] [(.ref a0_), (.int 2)])) rfl rfl (hb hby d3_217)
  refine Go.st st150 ?_
  refine Go.st (t' := T150.setTop (mkF m 270 #[.val (.ref a0_), .val (.int 0), .val (.int 0), .val (.int 0), .val (.double (FP.l2d (1 : Int64))), .second, .val (.ref we_), .val (.ref wb_), .val (.ref wp_), .val (.int 0), .val (.int 0), .val (.int 0)] [(.ref a0_), (.int 0)])) (fun target kt => ?_) ?_
  · refine XS.icmpYes X150.here hx rfl (pc0 := 220) (pc' := 259) rfl (hb hby d3_220) rfl (flt (by decide : ¬ ((2 : Int32) < (2 : Int32)))).2.1 (by decide) (by decide) ?_
    refine XS.aload X150.here hx rfl (hb hby d3_259) rfl rfl ?_
    refine XS.ifnullNo X150.here hx rfl (hb hby d3_261) rfl ?_
    refine XS.iconst X150.here hx rfl (hb hby d3_264) ?_
    refine XS.istore X150.here hx rfl (hb hby d3_265) rfl (l' := #[.val (.ref a0_), .val (.int 0), .val (.int 0), .val (.int 0), .val (.double (FP.l2d (1 : Int64))), .second, .val (.ref we_), .val (.ref wb_), .val (.ref wp_), .val (.int 0), .val (.int 0), .val (.int 0)]) rfl ?_
    refine XS.iload X150.here hx rfl (hb hby d3_267) rfl ?_
    refine XS.aloadN X150.here hx rfl (hb hby d3_269) rfl rfl ?_
    exact kt
  obtain ⟨T151, X151, e151, st151⟩ := getF X150 hx hZ hown (host := "") (Or.inl (hw _ tw29)) Via.refl e150 c149 (g := (mkF m 270 #[.val (.ref a0_), .val (.int 0), .val (.int 0), .val (.int 0), .val (.double (FP.l2d (1 : Int64))), .second, .val (.ref we_), .val (.ref wb_), .val (.ref wp_), .val (.int 0), .val (.int 0), .val (.int 0)] [(.ref a0_), (.int 0)])) rfl rfl (hb hby d3_270)
  refine Go.st st151 ?_
  refine Go.st (t' := T151.setTop (mkF m 277 #[.val (.ref a0_), .val (.int 0), .val (.int 0), .val (.int 0), .val (.double (FP.l2d (1 : Int64))), .second, .val (.ref we_), .val (.ref wb_), .val (.ref wp_), .val (.int 0), .val (.int 0), .val (.int 0)] [(.ref a0_)])) (fun target kt => ?_) ?_
  · refine XS.icmpNo X151.here hx rfl (hb hby d3_273) rfl (tlt (by decide : (0 : Int32) < (2 : Int32))).2.1 ?_
    refine XS.aloadN X151.here hx rfl (hb hby d3_276) rfl rfl ?_
    exact kt
  have c152 := (((((((((F_blocks.other W14 (Or.inr (slot_ne (Or.inl (hw _ tw34)) (Or.inl (hw _ tw43)) (by decide) (t := (.array .int)) (t' := .int) (by decide) (by decide)))).other W22 (Or.inl ne20)).other W31 (Or.inl ne28)).other W41 (Or.inl ne37)).other W52 (Or.inl ne47)).other W64 (Or.inl ne58)).other W94 (Or.inl ne87)).other W122 (Or.inl ne114)).other W134 (Or.inl ne87)).other W144 (Or.inl ne114)
  obtain ⟨T153, X153, e153, st153⟩ := getF X151 hx hZ hown (host := "") (Or.inl (hw _ tw33)) Via.refl e151 c152 (g := (mkF m 277 #[.val (.ref a0_), .val (.int 0), .val (.int 0), .val (.int 0), .val (.double (FP.l2d (1 : Int64))), .second, .val (.ref we_), .val (.ref wb_), .val (.ref wp_), .val (.int 0), .val (.int 0), .val (.int 0)] [(.ref a0_)])) rfl rfl (hb hby d3_277)
  refine Go.st st153 ?_
  have ne154 : wb_ ≠ x_parts := Nat.ne_of_lt (Nat.lt_trans (Nat.lt_trans (Nat.lt_trans (Nat.lt_trans (Nat.lt_trans (Nat.lt_trans (Nat.lt_trans (Nat.lt_trans (Nat.lt_trans (Nat.lt_trans (Nat.lt_trans (Nat.lt_trans o_wb__wp_ o_wp__a0_) o_a0__x_starts) o_x_starts_x_nexts) o_x_nexts_x_ends) o_x_ends_x_bounds) o_x_bounds_x_windows) o_x_windows_x_heap) o_x_heap_x_heapBounds) o_x_heapBounds_x_heapStarts) o_x_heapStarts_x_entries) o_x_entries_x_blocks) o_x_blocks_x_parts)
  have ne155 : wb_ ≠ x_blocks := Nat.ne_of_lt (Nat.lt_trans (Nat.lt_trans (Nat.lt_trans (Nat.lt_trans (Nat.lt_trans (Nat.lt_trans (Nat.lt_trans (Nat.lt_trans (Nat.lt_trans (Nat.lt_trans (Nat.lt_trans o_wb__wp_ o_wp__a0_) o_a0__x_starts) o_x_starts_x_nexts) o_x_nexts_x_ends) o_x_ends_x_bounds) o_x_bounds_x_windows) o_x_windows_x_heap) o_x_heap_x_heapBounds) o_x_heapBounds_x_heapStarts) o_x_heapStarts_x_entries) o_x_entries_x_blocks)
  have ne156 : wb_ ≠ x_entries := Nat.ne_of_lt (Nat.lt_trans (Nat.lt_trans (Nat.lt_trans (Nat.lt_trans (Nat.lt_trans (Nat.lt_trans (Nat.lt_trans (Nat.lt_trans (Nat.lt_trans (Nat.lt_trans o_wb__wp_ o_wp__a0_) o_a0__x_starts) o_x_starts_x_nexts) o_x_nexts_x_ends) o_x_ends_x_bounds) o_x_bounds_x_windows) o_x_windows_x_heap) o_x_heap_x_heapBounds) o_x_heapBounds_x_heapStarts) o_x_heapStarts_x_entries)
  have ne157 : wb_ ≠ x_heapStarts := Nat.ne_of_lt (Nat.lt_trans (Nat.lt_trans (Nat.lt_trans (Nat.lt_trans (Nat.lt_trans (Nat.lt_trans (Nat.lt_trans (Nat.lt_trans (Nat.lt_trans o_wb__wp_ o_wp__a0_) o_a0__x_starts) o_x_starts_x_nexts) o_x_nexts_x_ends) o_x_ends_x_bounds) o_x_bounds_x_windows) o_x_windows_x_heap) o_x_heap_x_heapBounds) o_x_heapBounds_x_heapStarts)
  have ne158 : wb_ ≠ x_heapBounds := Nat.ne_of_lt (Nat.lt_trans (Nat.lt_trans (Nat.lt_trans (Nat.lt_trans (Nat.lt_trans (Nat.lt_trans (Nat.lt_trans (Nat.lt_trans o_wb__wp_ o_wp__a0_) o_a0__x_starts) o_x_starts_x_nexts) o_x_nexts_x_ends) o_x_ends_x_bounds) o_x_bounds_x_windows) o_x_windows_x_heap) o_x_heap_x_heapBounds)
  have ne159 : wb_ ≠ x_heap := Nat.ne_of_lt (Nat.lt_trans (Nat.lt_trans (Nat.lt_trans (Nat.lt_trans (Nat.lt_trans (Nat.lt_trans (Nat.lt_trans o_wb__wp_ o_wp__a0_) o_a0__x_starts) o_x_starts_x_nexts) o_x_nexts_x_ends) o_x_ends_x_bounds) o_x_bounds_x_windows) o_x_windows_x_heap)
  have ne160 : wb_ ≠ x_windows := Nat.ne_of_lt (Nat.lt_trans (Nat.lt_trans (Nat.lt_trans (Nat.lt_trans (Nat.lt_trans (Nat.lt_trans o_wb__wp_ o_wp__a0_) o_a0__x_starts) o_x_starts_x_nexts) o_x_nexts_x_ends) o_x_ends_x_bounds) o_x_bounds_x_windows)
  have ne161 : wb_ ≠ x_bounds := Nat.ne_of_lt (Nat.lt_trans (Nat.lt_trans (Nat.lt_trans (Nat.lt_trans (Nat.lt_trans o_wb__wp_ o_wp__a0_) o_a0__x_starts) o_x_starts_x_nexts) o_x_nexts_x_ends) o_x_ends_x_bounds)
  have ne162 : wb_ ≠ x_ends := Nat.ne_of_lt (Nat.lt_trans (Nat.lt_trans (Nat.lt_trans (Nat.lt_trans o_wb__wp_ o_wp__a0_) o_a0__x_starts) o_x_starts_x_nexts) o_x_nexts_x_ends)
  have ne163 : wb_ ≠ x_nexts := Nat.ne_of_lt (Nat.lt_trans (Nat.lt_trans (Nat.lt_trans o_wb__wp_ o_wp__a0_) o_a0__x_starts) o_x_starts_x_nexts)
  have ne164 : wb_ ≠ x_starts := Nat.ne_of_lt (Nat.lt_trans (Nat.lt_trans o_wb__wp_ o_wp__a0_) o_a0__x_starts)
  have ne165 : wb_ ≠ a0_ := Nat.ne_of_lt (Nat.lt_trans o_wb__wp_ o_wp__a0_)
  have c166 := V_wb.keep K146 (ninS ne165 (ninS ne164 (ninS ne163 (ninS ne162 (ninS ne161 (ninS ne160 (ninS ne159 (ninS ne158 (ninS ne157 (ninS ne156 (ninS ne155 (ninS ne154 nin0))))))))))))
  obtain ⟨cl167, Ar167, -, S167, M167, H167, -⟩ := id c166
  have hin167 : ¬ ((0 : Int32) < 0 ∨ cl167.slots.size ≤ ((0 : Int32)).toNatClampNeg) := inb_of S167 ⟨by decide, by decide⟩
  have hat167 : cl167.slots[((0 : Int32)).toNatClampNeg]? = some (.int b0_) := H167.at hin167 rfl
  refine Go.st (t' := T153.setTop (mkF m 290 #[.val (.ref a0_), .val (.int 0), .val (.int 0), .val (.int 0), .val (.double (FP.l2d (1 : Int64))), .second, .val (.ref we_), .val (.ref wb_), .val (.ref wp_), .val (.int 0), .val (.int 0), .val (.int 0)] [(.int b0_), (.int 0), (.ref x_blocks)])) (fun target kt => ?_) ?_
  · refine XS.iload X153.here hx rfl (hb hby d3_280) rfl ?_
    refine XS.iload X153.here hx rfl (hb hby d3_282) rfl ?_
    refine XS.iadd X153.here hx rfl (hb hby d3_284) rfl ?_
    refine XS.aload X153.here hx rfl (hb hby d3_285) rfl rfl ?_
    refine XS.iload X153.here hx rfl (hb hby d3_287) rfl ?_
    refine X153.iaload hx (j := (0 : Int32)) (v := (.int b0_)) (by rw [e153]; exact Ar167.1) (State.isArrayOf_alike hZ.alike Ar167.2.1) Ar167.2.2 hin167 hat167 (g := (mkF m 289 #[.val (.ref a0_), .val (.int 0), .val (.int 0), .val (.int 0), .val (.double (FP.l2d (1 : Int64))), .second, .val (.ref we_), .val (.ref wb_), .val (.ref wp_), .val (.int 0), .val (.int 0), .val (.int 0)] [(.int 0), (.ref wb_), (.int 0), (.ref x_blocks)])) rfl rfl (hb hby d3_289) _ ?_
    exact kt
  have ne168 : a0_ ≠ x_blocks := Nat.ne_of_lt (Nat.lt_trans (Nat.lt_trans (Nat.lt_trans (Nat.lt_trans (Nat.lt_trans (Nat.lt_trans (Nat.lt_trans (Nat.lt_trans (Nat.lt_trans o_a0__x_starts o_x_starts_x_nexts) o_x_nexts_x_ends) o_x_ends_x_bounds) o_x_bounds_x_windows) o_x_windows_x_heap) o_x_heap_x_heapBounds) o_x_heapBounds_x_heapStarts) o_x_heapStarts_x_entries) o_x_entries_x_blocks)
  have ne169 : x_starts ≠ x_blocks := Nat.ne_of_lt (Nat.lt_trans (Nat.lt_trans (Nat.lt_trans (Nat.lt_trans (Nat.lt_trans (Nat.lt_trans (Nat.lt_trans (Nat.lt_trans o_x_starts_x_nexts o_x_nexts_x_ends) o_x_ends_x_bounds) o_x_bounds_x_windows) o_x_windows_x_heap) o_x_heap_x_heapBounds) o_x_heapBounds_x_heapStarts) o_x_heapStarts_x_entries) o_x_entries_x_blocks)
  have ne170 : x_nexts ≠ x_blocks := Nat.ne_of_lt (Nat.lt_trans (Nat.lt_trans (Nat.lt_trans (Nat.lt_trans (Nat.lt_trans (Nat.lt_trans (Nat.lt_trans o_x_nexts_x_ends o_x_ends_x_bounds) o_x_bounds_x_windows) o_x_windows_x_heap) o_x_heap_x_heapBounds) o_x_heapBounds_x_heapStarts) o_x_heapStarts_x_entries) o_x_entries_x_blocks)
  have ne171 : x_ends ≠ x_blocks := Nat.ne_of_lt (Nat.lt_trans (Nat.lt_trans (Nat.lt_trans (Nat.lt_trans (Nat.lt_trans (Nat.lt_trans o_x_ends_x_bounds o_x_bounds_x_windows) o_x_windows_x_heap) o_x_heap_x_heapBounds) o_x_heapBounds_x_heapStarts) o_x_heapStarts_x_entries) o_x_entries_x_blocks)
  have ne172 : x_bounds ≠ x_blocks := Nat.ne_of_lt (Nat.lt_trans (Nat.lt_trans (Nat.lt_trans (Nat.lt_trans (Nat.lt_trans o_x_bounds_x_windows o_x_windows_x_heap) o_x_heap_x_heapBounds) o_x_heapBounds_x_heapStarts) o_x_heapStarts_x_entries) o_x_entries_x_blocks)
  have ne173 : x_windows ≠ x_blocks := Nat.ne_of_lt (Nat.lt_trans (Nat.lt_trans (Nat.lt_trans (Nat.lt_trans o_x_windows_x_heap o_x_heap_x_heapBounds) o_x_heapBounds_x_heapStarts) o_x_heapStarts_x_entries) o_x_entries_x_blocks)
  have ne174 : x_entries ≠ x_blocks := Nat.ne_of_lt o_x_entries_x_blocks
  have ne175 : x_blocks ≠ x_parts := Nat.ne_of_lt o_x_blocks_x_parts
  have c176 := (((((((((V_blocks.other W14 (Ne.symm ne168)).other W22 (Ne.symm ne169)).other W31 (Ne.symm ne170)).other W41 (Ne.symm ne171)).other W52 (Ne.symm ne172)).other W64 (Ne.symm ne173)).other W94 (Ne.symm ne174)).other W122 ne175).other W134 (Ne.symm ne174)).other W144 ne175
  obtain ⟨cl177, Ar177, q177, S177, M177, H177, G177⟩ := id c176
  have hin177 : ¬ ((0 : Int32) < 0 ∨ cl177.slots.size ≤ ((0 : Int32)).toNatClampNeg) := inb_of S177 ⟨by decide, by decide⟩
  obtain ⟨T177, h177, X177, e177, W177, st177⟩ := stI X153 hx hZ e153 Ar177 (j := (0 : Int32)) hin177 (g := (mkF m 290 #[.val (.ref a0_), .val (.int 0), .val (.int 0), .val (.int 0), .val (.double (FP.l2d (1 : Int64))), .second, .val (.ref we_), .val (.ref wb_), .val (.ref wp_), .val (.int 0), .val (.int 0), .val (.int 0)] [(.int b0_), (.int 0), (.ref x_blocks)])) rfl rfl (hb hby d3_290)
  have V178 : Arv Z h177 x_blocks k_blocks .int (32 : Int32) [(.int b0_), (.int 0), (.int 0), (.int 0)] (.int 0) := Arv.set Ar177 q177 S177 M177 H177 G177 rfl W177 0 rfl (Nat.le_of_ble_eq_true rfl)
  have K179 := K146.wr W177 (Or.inl (List.mem_of_getElem? (i := 10) rfl))
  have O180 := O147.wr W177 g_blocks
  have N177 := Fr.snoc X177 N144 g_blocks
  refine Go.st st177 ?_
  refine Go.st (t' := T177.setTop (mkF m 270 #[.val (.ref a0_), .val (.int 0), .val (.int 0), .val (.int 0), .val (.double (FP.l2d (1 : Int64))), .second, .val (.ref we_), .val (.ref wb_), .val (.ref wp_), .val (.int 0), .val (.int 0), .val (.int 1)] [(.ref a0_), (.int 1)])) (fun target kt => ?_) ?_
  · refine XS.iinc X177.here hx rfl (hb hby d3_291) rfl (l' := #[.val (.ref a0_), .val (.int 0), .val (.int 0), .val (.int 0), .val (.double (FP.l2d (1 : Int64))), .second, .val (.ref we_), .val (.ref wb_), .val (.ref wp_), .val (.int 0), .val (.int 0), .val (.int 1)]) rfl ?_
    refine XS.goto X177.here hx rfl (pc0 := 294) (pc' := 267) rfl (hb hby d3_294) (by decide) (by decide) ?_
    refine XS.iload X177.here hx rfl (hb hby d3_267) rfl ?_
    refine XS.aloadN X177.here hx rfl (hb hby d3_269) rfl rfl ?_
    exact kt
  have c181 := c149.other W177 (Or.inl ne168)
  obtain ⟨T182, X182, e182, st182⟩ := getF X177 hx hZ hown (host := "") (Or.inl (hw _ tw29)) Via.refl e177 c181 (g := (mkF m 270 #[.val (.ref a0_), .val (.int 0), .val (.int 0), .val (.int 0), .val (.double (FP.l2d (1 : Int64))), .second, .val (.ref we_), .val (.ref wb_), .val (.ref wp_), .val (.int 0), .val (.int 0), .val (.int 1)] [(.ref a0_), (.int 1)])) rfl rfl (hb hby d3_270)
  refine Go.st st182 ?_
  refine Go.st (t' := T182.setTop (mkF m 277 #[.val (.ref a0_), .val (.int 0), .val (.int 0), .val (.int 0), .val (.double (FP.l2d (1 : Int64))), .second, .val (.ref we_), .val (.ref wb_), .val (.ref wp_), .val (.int 0), .val (.int 0), .val (.int 1)] [(.ref a0_)])) (fun target kt => ?_) ?_
  · refine XS.icmpNo X182.here hx rfl (hb hby d3_273) rfl (tlt (by decide : (1 : Int32) < (2 : Int32))).2.1 ?_
    refine XS.aloadN X182.here hx rfl (hb hby d3_276) rfl rfl ?_
    exact kt
  have c183 := c152.other W177 (Or.inl ne168)
  obtain ⟨T184, X184, e184, st184⟩ := getF X182 hx hZ hown (host := "") (Or.inl (hw _ tw33)) Via.refl e182 c183 (g := (mkF m 277 #[.val (.ref a0_), .val (.int 0), .val (.int 0), .val (.int 0), .val (.double (FP.l2d (1 : Int64))), .second, .val (.ref we_), .val (.ref wb_), .val (.ref wp_), .val (.int 0), .val (.int 0), .val (.int 1)] [(.ref a0_)])) rfl rfl (hb hby d3_277)
  refine Go.st st184 ?_
  have c185 := c166.other W177 ne155
  obtain ⟨cl186, Ar186, -, S186, M186, H186, -⟩ := id c185
  have hin186 : ¬ ((1 : Int32) < 0 ∨ cl186.slots.size ≤ ((1 : Int32)).toNatClampNeg) := inb_of S186 ⟨by decide, by decide⟩
  have hat186 : cl186.slots[((1 : Int32)).toNatClampNeg]? = some (.int b1_) := H186.at hin186 rfl
  refine Go.st (t' := T184.setTop (mkF m 290 #[.val (.ref a0_), .val (.int 0), .val (.int 0), .val (.int 0), .val (.double (FP.l2d (1 : Int64))), .second, .val (.ref we_), .val (.ref wb_), .val (.ref wp_), .val (.int 0), .val (.int 0), .val (.int 1)] [(.int b1_), (.int 1), (.ref x_blocks)])) (fun target kt => ?_) ?_
  · refine XS.iload X184.here hx rfl (hb hby d3_280) rfl ?_
    refine XS.iload X184.here hx rfl (hb hby d3_282) rfl ?_
    refine XS.iadd X184.here hx rfl (hb hby d3_284) rfl ?_
    refine XS.aload X184.here hx rfl (hb hby d3_285) rfl rfl ?_
    refine XS.iload X184.here hx rfl (hb hby d3_287) rfl ?_
    refine X184.iaload hx (j := (1 : Int32)) (v := (.int b1_)) (by rw [e184]; exact Ar186.1) (State.isArrayOf_alike hZ.alike Ar186.2.1) Ar186.2.2 hin186 hat186 (g := (mkF m 289 #[.val (.ref a0_), .val (.int 0), .val (.int 0), .val (.int 0), .val (.double (FP.l2d (1 : Int64))), .second, .val (.ref we_), .val (.ref wb_), .val (.ref wp_), .val (.int 0), .val (.int 0), .val (.int 1)] [(.int 1), (.ref wb_), (.int 1), (.ref x_blocks)])) rfl rfl (hb hby d3_289) _ ?_
    exact kt
  obtain ⟨cl187, Ar187, q187, S187, M187, H187, G187⟩ := id V178
  have hin187 : ¬ ((1 : Int32) < 0 ∨ cl187.slots.size ≤ ((1 : Int32)).toNatClampNeg) := inb_of S187 ⟨by decide, by decide⟩
  obtain ⟨T187, h187, X187, e187, W187, st187⟩ := stI X184 hx hZ e184 Ar187 (j := (1 : Int32)) hin187 (g := (mkF m 290 #[.val (.ref a0_), .val (.int 0), .val (.int 0), .val (.int 0), .val (.double (FP.l2d (1 : Int64))), .second, .val (.ref we_), .val (.ref wb_), .val (.ref wp_), .val (.int 0), .val (.int 0), .val (.int 1)] [(.int b1_), (.int 1), (.ref x_blocks)])) rfl rfl (hb hby d3_290)
  have V188 : Arv Z h187 x_blocks k_blocks .int (32 : Int32) [(.int b0_), (.int b1_), (.int 0), (.int 0)] (.int 0) := Arv.set Ar187 q187 S187 M187 H187 G187 rfl W187 1 rfl (Nat.le_of_ble_eq_true rfl)
  have K189 := K179.wr W187 (Or.inl (List.mem_of_getElem? (i := 10) rfl))
  have O190 := O180.wr W187 g_blocks
  have N187 := Fr.snoc X187 N177 g_blocks
  refine Go.st st187 ?_
  refine Go.st (t' := T187.setTop (mkF m 270 #[.val (.ref a0_), .val (.int 0), .val (.int 0), .val (.int 0), .val (.double (FP.l2d (1 : Int64))), .second, .val (.ref we_), .val (.ref wb_), .val (.ref wp_), .val (.int 0), .val (.int 0), .val (.int 2)] [(.ref a0_), (.int 2)])) (fun target kt => ?_) ?_
  · refine XS.iinc X187.here hx rfl (hb hby d3_291) rfl (l' := #[.val (.ref a0_), .val (.int 0), .val (.int 0), .val (.int 0), .val (.double (FP.l2d (1 : Int64))), .second, .val (.ref we_), .val (.ref wb_), .val (.ref wp_), .val (.int 0), .val (.int 0), .val (.int 2)]) rfl ?_
    refine XS.goto X187.here hx rfl (pc0 := 294) (pc' := 267) rfl (hb hby d3_294) (by decide) (by decide) ?_
    refine XS.iload X187.here hx rfl (hb hby d3_267) rfl ?_
    refine XS.aloadN X187.here hx rfl (hb hby d3_269) rfl rfl ?_
    exact kt
  have c191 := c181.other W187 (Or.inl ne168)
  obtain ⟨T192, X192, e192, st192⟩ := getF X187 hx hZ hown (host := "") (Or.inl (hw _ tw29)) Via.refl e187 c191 (g := (mkF m 270 #[.val (.ref a0_), .val (.int 0), .val (.int 0), .val (.int 0), .val (.double (FP.l2d (1 : Int64))), .second, .val (.ref we_), .val (.ref wb_), .val (.ref wp_), .val (.int 0), .val (.int 0), .val (.int 2)] [(.ref a0_), (.int 2)])) rfl rfl (hb hby d3_270)
  refine Go.st st192 ?_
  refine Go.st (t' := T192.setTop (mkF m 300 #[.val (.ref a0_), .val (.int 0), .val (.int 0), .val (.int 0), .val (.double (FP.l2d (1 : Int64))), .second, .val (.ref we_), .val (.ref wb_), .val (.ref wp_), .val (.int 0), .val (.int 0), .val (.int 2)] [(.int 0), (.ref a0_)])) (fun target kt => ?_) ?_
  · refine XS.icmpYes X192.here hx rfl (pc0 := 273) (pc' := 297) rfl (hb hby d3_273) rfl (flt (by decide : ¬ ((2 : Int32) < (2 : Int32)))).2.1 (by decide) (by decide) ?_
    refine XS.aloadN X192.here hx rfl (hb hby d3_297) rfl rfl ?_
    refine XS.iload X192.here hx rfl (hb hby d3_298) rfl ?_
    exact kt
  have c193 := E0.keep K189
  have S_194 : Keep h14 h187 [x_starts, x_nexts, x_ends, x_bounds, x_windows, x_entries, x_parts, x_blocks] := ((((((((((((Keep.refl h14 [x_starts, x_nexts, x_ends, x_bounds, x_windows, x_entries, x_parts, x_blocks]).wr W22 (Or.inl mI0)).wr W31 (Or.inl mI1)).wr W41 (Or.inl mI2)).wr W52 (Or.inl mI3)).wr W64 (Or.inl mI4)).wr W94 (Or.inl mI5)).wr W122 (Or.inl (List.mem_of_getElem? (i := 6) rfl))).wr W134 (Or.inl mI5)).wr W144 (Or.inl (List.mem_of_getElem? (i := 6) rfl))).wr W177 (Or.inl (List.mem_of_getElem? (i := 7) rfl))).wr W187 (Or.inl (List.mem_of_getElem? (i := 7) rfl)))
  have c195 := c18.keep S_194 (ninS ne20 (ninS ne28 (ninS ne37 (ninS ne47 (ninS ne58 (ninS ne87 (ninS ne114 (ninS ne168 nin0))))))))
  have S_196 : Keep h22 h187 [x_nexts, x_ends, x_bounds, x_windows, x_entries, x_parts, x_blocks] := (((((((((((Keep.refl h22 [x_nexts, x_ends, x_bounds, x_windows, x_entries, x_parts, x_blocks]).wr W31 (Or.inl mI0)).wr W41 (Or.inl mI1)).wr W52 (Or.inl mI2)).wr W64 (Or.inl mI3)).wr W94 (Or.inl mI4)).wr W122 (Or.inl mI5)).wr W134 (Or.inl mI4)).wr W144 (Or.inl mI5)).wr W177 (Or.inl (List.mem_of_getElem? (i := 6) rfl))).wr W187 (Or.inl (List.mem_of_getElem? (i := 6) rfl)))
  have c197 := c26.keep S_196 (ninS ne28 (ninS ne37 (ninS ne47 (ninS ne58 (ninS ne87 (ninS ne114 (ninS ne168 nin0)))))))
  have S_198 : Keep h31 h187 [x_ends, x_bounds, x_windows, x_entries, x_parts, x_blocks] := ((((((((((Keep.refl h31 [x_ends, x_bounds, x_windows, x_entries, x_parts, x_blocks]).wr W41 (Or.inl mI0)).wr W52 (Or.inl mI1)).wr W64 (Or.inl mI2)).wr W94 (Or.inl mI3)).wr W122 (Or.inl mI4)).wr W134 (Or.inl mI3)).wr W144 (Or.inl mI4)).wr W177 (Or.inl mI5)).wr W187 (Or.inl mI5))
  have c199 := c35.keep S_198 (ninS ne37 (ninS ne47 (ninS ne58 (ninS ne87 (ninS ne114 (ninS ne168 nin0))))))
  have S_200 : Keep h41 h187 [x_bounds, x_windows, x_entries, x_parts, x_blocks] := (((((((((Keep.refl h41 [x_bounds, x_windows, x_entries, x_parts, x_blocks]).wr W52 (Or.inl mI0)).wr W64 (Or.inl mI1)).wr W94 (Or.inl mI2)).wr W122 (Or.inl mI3)).wr W134 (Or.inl mI2)).wr W144 (Or.inl mI3)).wr W177 (Or.inl mI4)).wr W187 (Or.inl mI4))
  have c201 := c45.keep S_200 (ninS ne47 (ninS ne58 (ninS ne87 (ninS ne114 (ninS ne168 nin0)))))
  have S_202 : Keep h52 h187 [x_windows, x_entries, x_parts, x_blocks] := ((((((((Keep.refl h52 [x_windows, x_entries, x_parts, x_blocks]).wr W64 (Or.inl mI0)).wr W94 (Or.inl mI1)).wr W122 (Or.inl mI2)).wr W134 (Or.inl mI1)).wr W144 (Or.inl mI2)).wr W177 (Or.inl mI3)).wr W187 (Or.inl mI3))
  have c203 := c56.keep S_202 (ninS ne58 (ninS ne87 (ninS ne114 (ninS ne168 nin0))))
  have c204 := (((((((((((F_heap.other W14 (Or.inr (slot_ne (Or.inl (hw _ tw24)) (Or.inl (hw _ tw43)) (by decide) (t := (.array .int)) (t' := .int) (by decide) (by decide)))).other W22 (Or.inl ne20)).other W31 (Or.inl ne28)).other W41 (Or.inl ne37)).other W52 (Or.inl ne47)).other W64 (Or.inl ne58)).other W94 (Or.inl ne87)).other W122 (Or.inl ne114)).other W134 (Or.inl ne87)).other W144 (Or.inl ne114)).other W177 (Or.inl ne168)).other W187 (Or.inl ne168)
  have c205 := (((((((((((F_heapBounds.other W14 (Or.inr (slot_ne (Or.inl (hw _ tw26)) (Or.inl (hw _ tw43)) (by decide) (t := (.array .double)) (t' := .int) (by decide) (by decide)))).other W22 (Or.inl ne20)).other W31 (Or.inl ne28)).other W41 (Or.inl ne37)).other W52 (Or.inl ne47)).other W64 (Or.inl ne58)).other W94 (Or.inl ne87)).other W122 (Or.inl ne114)).other W134 (Or.inl ne87)).other W144 (Or.inl ne114)).other W177 (Or.inl ne168)).other W187 (Or.inl ne168)
  have c206 := (((((((((((F_heapStarts.other W14 (Or.inr (slot_ne (Or.inl (hw _ tw28)) (Or.inl (hw _ tw43)) (by decide) (t := (.array .int)) (t' := .int) (by decide) (by decide)))).other W22 (Or.inl ne20)).other W31 (Or.inl ne28)).other W41 (Or.inl ne37)).other W52 (Or.inl ne47)).other W64 (Or.inl ne58)).other W94 (Or.inl ne87)).other W122 (Or.inl ne114)).other W134 (Or.inl ne87)).other W144 (Or.inl ne114)).other W177 (Or.inl ne168)).other W187 (Or.inl ne168)
  have S_207 : Keep h122 h187 [x_entries, x_parts, x_blocks] := (((((Keep.refl h122 [x_entries, x_parts, x_blocks]).wr W134 (Or.inl mI0)).wr W144 (Or.inl mI1)).wr W177 (Or.inl mI2)).wr W187 (Or.inl mI2))
  have c208 := c129.keep S_207 (ninS ne87 (ninS ne114 (ninS ne168 nin0)))
  have c209 := c183.other W187 (Or.inl ne168)
  have S_210 : Keep h134 h187 [x_parts, x_blocks] := ((((Keep.refl h134 [x_parts, x_blocks]).wr W144 (Or.inl mI0)).wr W177 (Or.inl mI1)).wr W187 (Or.inl mI1))
  have c211 := c139.keep S_210 (ninS ne114 (ninS ne168 nin0))
  have c212 := F15.keep S_194 (ninS ne20 (ninS ne28 (ninS ne37 (ninS ne47 (ninS ne58 (ninS ne87 (ninS ne114 (ninS ne168 nin0))))))))
  have c213 := (((((((((((F_size.other W14 (Or.inr (slot_ne (Or.inl (hw _ tw49)) (Or.inl (hw _ tw43)) (by decide) (t := .int) (t' := .int) (by decide) (by decide)))).other W22 (Or.inl ne20)).other W31 (Or.inl ne28)).other W41 (Or.inl ne37)).other W52 (Or.inl ne47)).other W64 (Or.inl ne58)).other W94 (Or.inl ne87)).other W122 (Or.inl ne114)).other W134 (Or.inl ne87)).other W144 (Or.inl ne114)).other W177 (Or.inl ne168)).other W187 (Or.inl ne168)
  have ne214 : a0_ ≠ x_heap := Nat.ne_of_lt (Nat.lt_trans (Nat.lt_trans (Nat.lt_trans (Nat.lt_trans (Nat.lt_trans o_a0__x_starts o_x_starts_x_nexts) o_x_nexts_x_ends) o_x_ends_x_bounds) o_x_bounds_x_windows) o_x_windows_x_heap)
  have ne215 : x_starts ≠ x_heap := Nat.ne_of_lt (Nat.lt_trans (Nat.lt_trans (Nat.lt_trans (Nat.lt_trans o_x_starts_x_nexts o_x_nexts_x_ends) o_x_ends_x_bounds) o_x_bounds_x_windows) o_x_windows_x_heap)
  have ne216 : x_nexts ≠ x_heap := Nat.ne_of_lt (Nat.lt_trans (Nat.lt_trans (Nat.lt_trans o_x_nexts_x_ends o_x_ends_x_bounds) o_x_bounds_x_windows) o_x_windows_x_heap)
  have ne217 : x_ends ≠ x_heap := Nat.ne_of_lt (Nat.lt_trans (Nat.lt_trans o_x_ends_x_bounds o_x_bounds_x_windows) o_x_windows_x_heap)
  have ne218 : x_bounds ≠ x_heap := Nat.ne_of_lt (Nat.lt_trans o_x_bounds_x_windows o_x_windows_x_heap)
  have ne219 : x_windows ≠ x_heap := Nat.ne_of_lt o_x_windows_x_heap
  have ne220 : x_heap ≠ x_entries := Nat.ne_of_lt (Nat.lt_trans (Nat.lt_trans o_x_heap_x_heapBounds o_x_heapBounds_x_heapStarts) o_x_heapStarts_x_entries)
  have ne221 : x_heap ≠ x_parts := Nat.ne_of_lt (Nat.lt_trans (Nat.lt_trans (Nat.lt_trans (Nat.lt_trans o_x_heap_x_heapBounds o_x_heapBounds_x_heapStarts) o_x_heapStarts_x_entries) o_x_entries_x_blocks) o_x_blocks_x_parts)
  have ne222 : x_heap ≠ x_blocks := Nat.ne_of_lt (Nat.lt_trans (Nat.lt_trans (Nat.lt_trans o_x_heap_x_heapBounds o_x_heapBounds_x_heapStarts) o_x_heapStarts_x_entries) o_x_entries_x_blocks)
  have c223 := (((((((((((V_heap.other W14 (Ne.symm ne214)).other W22 (Ne.symm ne215)).other W31 (Ne.symm ne216)).other W41 (Ne.symm ne217)).other W52 (Ne.symm ne218)).other W64 (Ne.symm ne219)).other W94 ne220).other W122 ne221).other W134 ne220).other W144 ne221).other W177 ne222).other W187 ne222
  have ne224 : a0_ ≠ x_heapBounds := Nat.ne_of_lt (Nat.lt_trans (Nat.lt_trans (Nat.lt_trans (Nat.lt_trans (Nat.lt_trans (Nat.lt_trans o_a0__x_starts o_x_starts_x_nexts) o_x_nexts_x_ends) o_x_ends_x_bounds) o_x_bounds_x_windows) o_x_windows_x_heap) o_x_heap_x_heapBounds)
  have ne225 : x_starts ≠ x_heapBounds := Nat.ne_of_lt (Nat.lt_trans (Nat.lt_trans (Nat.lt_trans (Nat.lt_trans (Nat.lt_trans o_x_starts_x_nexts o_x_nexts_x_ends) o_x_ends_x_bounds) o_x_bounds_x_windows) o_x_windows_x_heap) o_x_heap_x_heapBounds)
  have ne226 : x_nexts ≠ x_heapBounds := Nat.ne_of_lt (Nat.lt_trans (Nat.lt_trans (Nat.lt_trans (Nat.lt_trans o_x_nexts_x_ends o_x_ends_x_bounds) o_x_bounds_x_windows) o_x_windows_x_heap) o_x_heap_x_heapBounds)
  have ne227 : x_ends ≠ x_heapBounds := Nat.ne_of_lt (Nat.lt_trans (Nat.lt_trans (Nat.lt_trans o_x_ends_x_bounds o_x_bounds_x_windows) o_x_windows_x_heap) o_x_heap_x_heapBounds)
  have ne228 : x_bounds ≠ x_heapBounds := Nat.ne_of_lt (Nat.lt_trans (Nat.lt_trans o_x_bounds_x_windows o_x_windows_x_heap) o_x_heap_x_heapBounds)
  have ne229 : x_windows ≠ x_heapBounds := Nat.ne_of_lt (Nat.lt_trans o_x_windows_x_heap o_x_heap_x_heapBounds)
  have ne230 : x_heapBounds ≠ x_entries := Nat.ne_of_lt (Nat.lt_trans o_x_heapBounds_x_heapStarts o_x_heapStarts_x_entries)
  have ne231 : x_heapBounds ≠ x_parts := Nat.ne_of_lt (Nat.lt_trans (Nat.lt_trans (Nat.lt_trans o_x_heapBounds_x_heapStarts o_x_heapStarts_x_entries) o_x_entries_x_blocks) o_x_blocks_x_parts)
  have ne232 : x_heapBounds ≠ x_blocks := Nat.ne_of_lt (Nat.lt_trans (Nat.lt_trans o_x_heapBounds_x_heapStarts o_x_heapStarts_x_entries) o_x_entries_x_blocks)
  have c233 := (((((((((((V_heapBounds.other W14 (Ne.symm ne224)).other W22 (Ne.symm ne225)).other W31 (Ne.symm ne226)).other W41 (Ne.symm ne227)).other W52 (Ne.symm ne228)).other W64 (Ne.symm ne229)).other W94 ne230).other W122 ne231).other W134 ne230).other W144 ne231).other W177 ne232).other W187 ne232
  have ne234 : a0_ ≠ x_heapStarts := Nat.ne_of_lt (Nat.lt_trans (Nat.lt_trans (Nat.lt_trans (Nat.lt_trans (Nat.lt_trans (Nat.lt_trans (Nat.lt_trans o_a0__x_starts o_x_starts_x_nexts) o_x_nexts_x_ends) o_x_ends_x_bounds) o_x_bounds_x_windows) o_x_windows_x_heap) o_x_heap_x_heapBounds) o_x_heapBounds_x_heapStarts)
  have ne235 : x_starts ≠ x_heapStarts := Nat.ne_of_lt (Nat.lt_trans (Nat.lt_trans (Nat.lt_trans (Nat.lt_trans (Nat.lt_trans (Nat.lt_trans o_x_starts_x_nexts o_x_nexts_x_ends) o_x_ends_x_bounds) o_x_bounds_x_windows) o_x_windows_x_heap) o_x_heap_x_heapBounds) o_x_heapBounds_x_heapStarts)
  have ne236 : x_nexts ≠ x_heapStarts := Nat.ne_of_lt (Nat.lt_trans (Nat.lt_trans (Nat.lt_trans (Nat.lt_trans (Nat.lt_trans o_x_nexts_x_ends o_x_ends_x_bounds) o_x_bounds_x_windows) o_x_windows_x_heap) o_x_heap_x_heapBounds) o_x_heapBounds_x_heapStarts)
  have ne237 : x_ends ≠ x_heapStarts := Nat.ne_of_lt (Nat.lt_trans (Nat.lt_trans (Nat.lt_trans (Nat.lt_trans o_x_ends_x_bounds o_x_bounds_x_windows) o_x_windows_x_heap) o_x_heap_x_heapBounds) o_x_heapBounds_x_heapStarts)
  have ne238 : x_bounds ≠ x_heapStarts := Nat.ne_of_lt (Nat.lt_trans (Nat.lt_trans (Nat.lt_trans o_x_bounds_x_windows o_x_windows_x_heap) o_x_heap_x_heapBounds) o_x_heapBounds_x_heapStarts)
  have ne239 : x_windows ≠ x_heapStarts := Nat.ne_of_lt (Nat.lt_trans (Nat.lt_trans o_x_windows_x_heap o_x_heap_x_heapBounds) o_x_heapBounds_x_heapStarts)
  have ne240 : x_heapStarts ≠ x_entries := Nat.ne_of_lt o_x_heapStarts_x_entries
  have ne241 : x_heapStarts ≠ x_parts := Nat.ne_of_lt (Nat.lt_trans (Nat.lt_trans o_x_heapStarts_x_entries o_x_entries_x_blocks) o_x_blocks_x_parts)
  have ne242 : x_heapStarts ≠ x_blocks := Nat.ne_of_lt (Nat.lt_trans o_x_heapStarts_x_entries o_x_entries_x_blocks)
  have c243 := (((((((((((V_heapStarts.other W14 (Ne.symm ne234)).other W22 (Ne.symm ne235)).other W31 (Ne.symm ne236)).other W41 (Ne.symm ne237)).other W52 (Ne.symm ne238)).other W64 (Ne.symm ne239)).other W94 ne240).other W122 ne241).other W134 ne240).other W144 ne241).other W177 ne242).other W187 ne242
  have c244 := V23.keep S_196 (ninS ne29 (ninS ne38 (ninS ne48 (ninS ne59 (ninS ne88 (ninS ne115 (ninS ne169 nin0)))))))
  have c245 := V53.keep S_202 (ninS ne62 (ninS ne91 (ninS ne118 (ninS ne172 nin0))))
  refine Go.cps (own_cp (W := 0) (b := a0_) (argsL := [(.int 0)]) (rest := []) X192 hx hZ hown (hw _ tw44) (hw _ tw45) (own_selp (y := (⟨sq0, "push", "(I)V"⟩ : MethodName)) (hw _ tw4) (hw _ tw46) (hw _ tw45) (by decide)) (hw _ tw46) (hw _ tw47) (hw _ tw5) (by decide) e192 c193 (rm4_0 l Z a0 hw [] a0_ x_starts x_nexts x_ends x_bounds x_windows x_heap x_heapBounds x_heapStarts x_entries x_blocks x_parts k_heap k_heapBounds k_heapStarts k_starts k_bounds (2 : Int32) (1 : Int32) h187 n0 (Nat.le_trans Z0 K189.1) O190  c193 c195 c197 c199 c201 c203 c204 c205 c206 c208 c209 c211 c191 c212 c213 c223 c233 c243 c244 c245 g_a0 g_heap g_heapBounds g_heapStarts o_a0__x_starts (Nat.lt_trans (Nat.lt_trans o_x_starts_x_nexts o_x_nexts_x_ends) o_x_ends_x_bounds) (Nat.lt_trans o_x_bounds_x_windows o_x_windows_x_heap) o_x_heap_x_heapBounds o_x_heapBounds_x_heapStarts) rfl (by rw [hml]; rfl) (lenOf pd2 rfl) rfl (Nat.le_of_eq rfl) (hb hby d3_300) rfl (by decide) (by decide) (by decide) (by decide)) ?_
  rintro T246 _ L246 X246 ⟨rfl, Nq246, Kq246, q247, q248, q249, q250, q251, q252, q253, q254, q255, q256, q257, q258, q259, q260, q261, q262, q263, q264⟩
  have N246 := Fr.app N187 Nq246
  have K265 := K189.trans Kq246 (allS (Or.inl mI0) (allS (Or.inl (List.mem_of_getElem? (i := 6) rfl)) (allS (Or.inl (List.mem_of_getElem? (i := 7) rfl)) (allS (Or.inl (List.mem_of_getElem? (i := 8) rfl)) all0))))
  have O266 := O190.keep Kq246 (allS g_a0 (allS g_heap (allS g_heapBounds (allS g_heapStarts all0))))
  have c267 := c244.keep Kq246 (ninS (Ne.symm ne20) (ninS ne215 (ninS ne225 (ninS ne235 nin0))))
  have S_268 : Keep h31 T246.heap [x_ends, x_bounds, x_windows, x_entries, x_parts, x_blocks, a0_, x_heap, x_heapBounds, x_heapStarts] := (((((((((((Keep.refl h31 [x_ends, x_bounds, x_windows, x_entries, x_parts, x_blocks, a0_, x_heap, x_heapBounds, x_heapStarts]).wr W41 (Or.inl mI0)).wr W52 (Or.inl mI1)).wr W64 (Or.inl mI2)).wr W94 (Or.inl mI3)).wr W122 (Or.inl mI4)).wr W134 (Or.inl mI3)).wr W144 (Or.inl mI4)).wr W177 (Or.inl mI5)).wr W187 (Or.inl mI5)).trans Kq246 (allS (Or.inl (List.mem_of_getElem? (i := 6) rfl)) (allS (Or.inl (List.mem_of_getElem? (i := 7) rfl)) (allS (Or.inl (List.mem_of_getElem? (i := 8) rfl)) (allS (Or.inl (List.mem_of_getElem? (i := 9) rfl)) all0)))))
  have c269 := V32.keep S_268 (ninS ne39 (ninS ne49 (ninS ne60 (ninS ne89 (ninS ne116 (ninS ne170 (ninS (Ne.symm ne28) (ninS ne216 (ninS ne226 (ninS ne236 nin0))))))))))
  have S_270 : Keep h41 T246.heap [x_bounds, x_windows, x_entries, x_parts, x_blocks, a0_, x_heap, x_heapBounds, x_heapStarts] := ((((((((((Keep.refl h41 [x_bounds, x_windows, x_entries, x_parts, x_blocks, a0_, x_heap, x_heapBounds, x_heapStarts]).wr W52 (Or.inl mI0)).wr W64 (Or.inl mI1)).wr W94 (Or.inl mI2)).wr W122 (Or.inl mI3)).wr W134 (Or.inl mI2)).wr W144 (Or.inl mI3)).wr W177 (Or.inl mI4)).wr W187 (Or.inl mI4)).trans Kq246 (allS (Or.inl mI5) (allS (Or.inl (List.mem_of_getElem? (i := 6) rfl)) (allS (Or.inl (List.mem_of_getElem? (i := 7) rfl)) (allS (Or.inl (List.mem_of_getElem? (i := 8) rfl)) all0)))))
  have c271 := V42.keep S_270 (ninS ne50 (ninS ne61 (ninS ne90 (ninS ne117 (ninS ne171 (ninS (Ne.symm ne37) (ninS ne217 (ninS ne227 (ninS ne237 nin0)))))))))
  have c272 := c245.keep Kq246 (ninS (Ne.symm ne47) (ninS ne218 (ninS ne228 (ninS ne238 nin0))))
  have S_273 : Keep h64 T246.heap [x_entries, x_parts, x_blocks, a0_, x_heap, x_heapBounds, x_heapStarts] := ((((((((Keep.refl h64 [x_entries, x_parts, x_blocks, a0_, x_heap, x_heapBounds, x_heapStarts]).wr W94 (Or.inl mI0)).wr W122 (Or.inl mI1)).wr W134 (Or.inl mI0)).wr W144 (Or.inl mI1)).wr W177 (Or.inl mI2)).wr W187 (Or.inl mI2)).trans Kq246 (allS (Or.inl mI3) (allS (Or.inl mI4) (allS (Or.inl mI5) (allS (Or.inl (List.mem_of_getElem? (i := 6) rfl)) all0)))))
  have c274 := V65.keep S_273 (ninS ne92 (ninS ne119 (ninS ne173 (ninS (Ne.symm ne58) (ninS ne219 (ninS ne229 (ninS ne239 nin0)))))))
  have S_275 : Keep h134 T246.heap [x_parts, x_blocks, a0_, x_heap, x_heapBounds, x_heapStarts] := (((((Keep.refl h134 [x_parts, x_blocks, a0_, x_heap, x_heapBounds, x_heapStarts]).wr W144 (Or.inl mI0)).wr W177 (Or.inl mI1)).wr W187 (Or.inl mI1)).trans Kq246 (allS (Or.inl mI2) (allS (Or.inl mI3) (allS (Or.inl mI4) (allS (Or.inl mI5) all0)))))
  have c276 := V135.keep S_275 (ninS ne120 (ninS ne174 (ninS (Ne.symm ne87) (ninS (Ne.symm ne220) (ninS (Ne.symm ne230) (ninS (Ne.symm ne240) nin0))))))
  have c277 := V188.keep Kq246 (ninS (Ne.symm ne168) (ninS (Ne.symm ne222) (ninS (Ne.symm ne232) (ninS (Ne.symm ne242) nin0))))
  have S_278 : Keep h144 T246.heap [x_blocks, a0_, x_heap, x_heapBounds, x_heapStarts] := ((((Keep.refl h144 [x_blocks, a0_, x_heap, x_heapBounds, x_heapStarts]).wr W177 (Or.inl mI0)).wr W187 (Or.inl mI0)).trans Kq246 (allS (Or.inl mI1) (allS (Or.inl mI2) (allS (Or.inl mI3) (allS (Or.inl mI4) all0)))))
  have c279 := V145.keep S_278 (ninS (Ne.symm ne175) (ninS (Ne.symm ne114) (ninS (Ne.symm ne221) (ninS (Ne.symm ne231) (ninS (Ne.symm ne241) nin0)))))
  refine Go.ret X246 (v := none) (fun _ => rfl) hlk (fun fs hr => X246.returnOut hx hret (hb hby d3_303) hr) ?_ (by decide) (by decide)
  show Q3_2_0 Z a0_ we_ wb_ wp_ x_starts x_nexts x_ends x_bounds x_windows x_heap x_heapBounds x_heapStarts x_entries x_blocks x_parts k_starts k_nexts k_ends k_bounds k_windows k_heap k_heapBounds k_heapStarts k_entries k_blocks k_parts e0_ e1_ b0_ b1_ d0_ d1_ ke_ kp_ kb_ h0 n0 _ T246.heap _
  exact ⟨rfl, N246, K265, q247, q259, q260, q261, q248, c267, q249, c269, q250, c271, q251, c272, q252, c274, q253, q262, q254, q263, q255, q264, q256, c276, q257, c277, q258, c279⟩
theorem ef3_2_1 (m : MethodId) (x0 : Addr) (x5 : Addr) (x7 : Addr) : entryFrame m #[(.ref x0), (.int 0), (.int 0), (.int 0), (.double (FP.l2d (1 : Int64))), (.ref x5), .null, (.ref x7)] 12 = mkF m 0 #[.val (.ref x0), .val (.int 0), .val (.int 0), .val (.int 0), .val (.double (FP.l2d (1 : Int64))), .second, .val (.ref x5), .val .null, .val (.ref x7), .unset, .unset, .unset] [] := by first | (simp [entryFrame, mkF, argsToLocals, Value.category]; done) | rfl
def Q3_2_1 (Z : State) (a0_ : Addr) (we_ : Addr) (wp_ : Addr) (x_starts : Addr) (x_nexts : Addr) (x_ends : Addr) (x_bounds : Addr) (x_windows : Addr) (x_heap : Addr) (x_heapBounds : Addr) (x_heapStarts : Addr) (x_entries : Addr) (x_blocks : Addr) (x_parts : Addr) (k_starts : ClassId) (k_nexts : ClassId) (k_ends : ClassId) (k_bounds : ClassId) (k_windows : ClassId) (k_heap : ClassId) (k_heapBounds : ClassId) (k_heapStarts : ClassId) (k_entries : ClassId) (k_blocks : ClassId) (k_parts : ClassId) (e0_ : Int32) (e1_ : Int32) (d0_ : UInt64) (d1_ : UInt64) (f0_ : Int32) (f1_ : Int32) (c0_ : Int32) (c1_ : Int32) (u0_ : UInt64) (u1_ : UInt64) (ke_ : ClassId) (kp_ : ClassId) (h0 : Heap) (n0 : Nat) (v : Option Value) (h : Heap) (L : List Loc) : Prop := v = none ∧ Fr n0 L ∧ Keep h0 h [a0_, x_starts, x_nexts, x_ends, x_bounds, x_windows, x_heap, x_heapBounds, x_heapStarts, x_entries, x_blocks, x_parts] ∧ Exa Z h a0_ sq0 ∧ Fld Z h a0_ sq0 "count" "I" (.int 2) ∧ Fld Z h a0_ sq0 "added" "I" (.int 2) ∧ Fld Z h a0_ sq0 "size" "I" (.int 2) ∧ Fld Z h a0_ sq0 "starts" "[I" (.ref x_starts) ∧ Arv Z h x_starts k_starts .int (16 : Int32) [(.int 0), (.int 0), (.int 0), (.int 0)] (.int 0) ∧ Fld Z h a0_ sq0 "nexts" "[I" (.ref x_nexts) ∧ Arv Z h x_nexts k_nexts .int (16 : Int32) [(.int 0), (.int 0), (.int 0), (.int 0)] (.int 0) ∧ Fld Z h a0_ sq0 "ends" "[I" (.ref x_ends) ∧ Arv Z h x_ends k_ends .int (16 : Int32) [(.int 0), (.int 0), (.int 0), (.int 0)] (.int 0) ∧ Fld Z h a0_ sq0 "bounds" "[D" (.ref x_bounds) ∧ Arv Z h x_bounds k_bounds .double (16 : Int32) [(.double (FP.l2d (1 : Int64))), (.double (FP.l2d (1 : Int64))), (.double (FP.l2d 0)), (.double (FP.l2d 0))] (.double (FP.l2d 0)) ∧ Fld Z h a0_ sq0 "windows" "[Z" (.ref x_windows) ∧ Arv Z h x_windows k_windows .boolean (16 : Int32) [(.int 1), (.int 0), (.int 0), (.int 0)] (.int 0) ∧ Fld Z h a0_ sq0 "heap" "[I" (.ref x_heap) ∧ Arv Z h x_heap k_heap .int (16 : Int32) [(.int 0), (.int 1), (.int 0), (.int 0)] (.int 0) ∧ Fld Z h a0_ sq0 "heapBounds" "[D" (.ref x_heapBounds) ∧ Arv Z h x_heapBounds k_heapBounds .double (16 : Int32) [(.double (FP.l2d (1 : Int64))), (.double (FP.l2d (1 : Int64))), (.double (FP.l2d 0)), (.double (FP.l2d 0))] (.double (FP.l2d 0)) ∧ Fld Z h a0_ sq0 "heapStarts" "[I" (.ref x_heapStarts) ∧ Arv Z h x_heapStarts k_heapStarts .int (16 : Int32) [(.int 0), (.int 0), (.int 0), (.int 0)] (.int 0) ∧ Fld Z h a0_ sq0 "entries" "[I" (.ref x_entries) ∧ Arv Z h x_entries k_entries .int (32 : Int32) [(.int f0_), (.int f1_), (.int e0_), (.int e1_)] (.int 0) ∧ Fld Z h a0_ sq0 "blocks" "[I" (.ref x_blocks) ∧ Arv Z h x_blocks k_blocks .int (32 : Int32) [(.int c0_), (.int c1_), (.int 0), (.int 0)] (.int 0) ∧ Fld Z h a0_ sq0 "parts" "[D" (.ref x_parts) ∧ Arv Z h x_parts k_parts .double (32 : Int32) [(.double u0_), (.double u1_), (.double d0_), (.double d1_)] (.double (FP.l2d 0))
theorem rm3_2_1 (l : Launch) (Z : State) (a0 : Array Value) (hw : ∀ d ∈ tables_1, d.before a0 Z = true) (ws : List Jvm.Cond) (a0_ : Addr) (we_ : Addr) (wp_ : Addr) (x_starts : Addr) (x_nexts : Addr) (x_ends : Addr) (x_bounds : Addr) (x_windows : Addr) (x_heap : Addr) (x_heapBounds : Addr) (x_heapStarts : Addr) (x_entries : Addr) (x_blocks : Addr) (x_parts : Addr) (k_starts : ClassId) (k_nexts : ClassId) (k_ends : ClassId) (k_bounds : ClassId) (k_windows : ClassId) (k_heap : ClassId) (k_heapBounds : ClassId) (k_heapStarts : ClassId) (k_entries : ClassId) (k_blocks : ClassId) (k_parts : ClassId) (e0_ : Int32) (e1_ : Int32) (d0_ : UInt64) (d1_ : UInt64) (f0_ : Int32) (f1_ : Int32) (c0_ : Int32) (c1_ : Int32) (u0_ : UInt64) (u1_ : UInt64) (ke_ : ClassId) (kp_ : ClassId) (h0 : Heap) (n0 : Nat) (Z0 : n0 ≤ h0.size) (O0 : Old Z n0 h0) (E0 : Exa Z h0 a0_ sq0) (F_count : Fld Z h0 a0_ sq0 "count" "I" (.int 2)) (F_added : Fld Z h0 a0_ sq0 "added" "I" (.int 1)) (F_size : Fld Z h0 a0_ sq0 "size" "I" (.int 1)) (F_starts : Fld Z h0 a0_ sq0 "starts" "[I" (.ref x_starts)) (V_starts : Arv Z h0 x_starts k_starts .int (16 : Int32) [(.int 0), (.int 0), (.int 0), (.int 0)] (.int 0)) (F_nexts : Fld Z h0 a0_ sq0 "nexts" "[I" (.ref x_nexts)) (V_nexts : Arv Z h0 x_nexts k_nexts .int (16 : Int32) [(.int 0), (.int 0), (.int 0), (.int 0)] (.int 0)) (F_ends : Fld Z h0 a0_ sq0 "ends" "[I" (.ref x_ends)) (V_ends : Arv Z h0 x_ends k_ends .int (16 : Int32) [(.int 0), (.int 0), (.int 0), (.int 0)] (.int 0)) (F_bounds : Fld Z h0 a0_ sq0 "bounds" "[D" (.ref x_bounds)) (V_bounds : Arv Z h0 x_bounds k_bounds .double (16 : Int32) [(.double (FP.l2d (1 : Int64))), (.double (FP.l2d 0)), (.double (FP.l2d 0)), (.double (FP.l2d 0))] (.double (FP.l2d 0))) (F_windows : Fld Z h0 a0_ sq0 "windows" "[Z" (.ref x_windows)) (V_windows : Arv Z h0 x_windows k_windows .boolean (16 : Int32) [(.int 1), (.int 0), (.int 0), (.int 0)] (.int 0)) (F_heap : Fld Z h0 a0_ sq0 "heap" "[I" (.ref x_heap)) (V_heap : Arv Z h0 x_heap k_heap .int (16 : Int32) [(.int 0), (.int 0), (.int 0), (.int 0)] (.int 0)) (F_heapBounds : Fld Z h0 a0_ sq0 "heapBounds" "[D" (.ref x_heapBounds)) (V_heapBounds : Arv Z h0 x_heapBounds k_heapBounds .double (16 : Int32) [(.double (FP.l2d (1 : Int64))), (.double (FP.l2d 0)), (.double (FP.l2d 0)), (.double (FP.l2d 0))] (.double (FP.l2d 0))) (F_heapStarts : Fld Z h0 a0_ sq0 "heapStarts" "[I" (.ref x_heapStarts)) (V_heapStarts : Arv Z h0 x_heapStarts k_heapStarts .int (16 : Int32) [(.int 0), (.int 0), (.int 0), (.int 0)] (.int 0)) (F_entries : Fld Z h0 a0_ sq0 "entries" "[I" (.ref x_entries)) (V_entries : Arv Z h0 x_entries k_entries .int (32 : Int32) [(.int f0_), (.int f1_), (.int 0), (.int 0)] (.int 0)) (F_blocks : Fld Z h0 a0_ sq0 "blocks" "[I" (.ref x_blocks)) (V_blocks : Arv Z h0 x_blocks k_blocks .int (32 : Int32) [(.int c0_), (.int c1_), (.int 0), (.int 0)] (.int 0)) (F_parts : Fld Z h0 a0_ sq0 "parts" "[D" (.ref x_parts)) (V_parts : Arv Z h0 x_parts k_parts .double (32 : Int32) [(.double u0_), (.double u1_), (.double (FP.l2d 0)), (.double (FP.l2d 0))] (.double (FP.l2d 0))) (V_we : Arv Z h0 we_ ke_ .int (2 : Int32) [(.int e0_), (.int e1_)] (.int 0)) (V_wp : Arv Z h0 wp_ kp_ .double (2 : Int32) [(.double d0_), (.double d1_)] (.double (FP.l2d 0))) (g_a0 : n0 ≤ a0_) (g_starts : n0 ≤ x_starts) (g_nexts : n0 ≤ x_nexts) (g_ends : n0 ≤ x_ends) (g_bounds : n0 ≤ x_bounds) (g_windows : n0 ≤ x_windows) (g_heap : n0 ≤ x_heap) (g_heapBounds : n0 ≤ x_heapBounds) (g_heapStarts : n0 ≤ x_heapStarts) (g_entries : n0 ≤ x_entries) (g_blocks : n0 ≤ x_blocks) (g_parts : n0 ≤ x_parts) (o_we__wp_ : we_ < wp_) (o_wp__a0_ : wp_ < a0_) (o_a0__x_starts : a0_ < x_starts) (o_x_starts_x_nexts : x_starts < x_nexts) (o_x_nexts_x_ends : x_nexts < x_ends) (o_x_ends_x_bounds : x_ends < x_bounds) (o_x_bounds_x_windows : x_bounds < x_windows) (o_x_windows_x_heap : x_windows < x_heap) (o_x_heap_x_heapBounds : x_heap < x_heapBounds) (o_x_heapBounds_x_heapStarts : x_heapBounds < x_heapStarts) (o_x_heapStarts_x_entries : x_heapStarts < x_entries) (o_x_entries_x_blocks : x_entries < x_blocks) (o_x_blocks_x_parts : x_blocks < x_parts) :
    Met l Z ws (⟨sq0, "add", "(IIID[I[I[D)V"⟩ : MethodName) prog_63_method_10_code 12 none (Rm 2 0 0 35) #[(.ref a0_), (.int 0), (.int 0), (.int 0), (.double (FP.l2d (1 : Int64))), (.ref we_), .null, (.ref wp_)] h0 (Q3_2_1 Z a0_ we_ wp_ x_starts x_nexts x_ends x_bounds x_windows x_heap x_heapBounds x_heapStarts x_entries x_blocks x_parts k_starts k_nexts k_ends k_bounds k_windows k_heap k_heapBounds k_heapStarts k_entries k_blocks k_parts e0_ e1_ d0_ d1_ f0_ f1_ c0_ c1_ u0_ u1_ ke_ kp_ h0 n0) := by
  refine Met.enter (L0 := #[.val (.ref a0_), .val (.int 0), .val (.int 0), .val (.int 0), .val (.double (FP.l2d (1 : Int64))), .second, .val (.ref we_), .val .null, .val (.ref wp_), .unset, .unset, .unset]) (plainFor_of_name pn56) (fun m => ef3_2_1 m a0_ we_ wp_) ?_
  intro p e s m below meth c s₁ hx hby hml hown hnm hret hlk hZ X0 e0
  have N0 := Fr.nil n0
  have K0 : Keep h0 h0 [a0_, x_starts, x_nexts, x_ends, x_bounds, x_windows, x_heap, x_heapBounds, x_heapStarts, x_entries, x_blocks, x_parts] := Keep.refl h0 _
  refine Go.st (t' := s₁.setTop (mkF m 1 #[.val (.ref a0_), .val (.int 0), .val (.int 0), .val (.int 0), .val (.double (FP.l2d (1 : Int64))), .second, .val (.ref we_), .val .null, .val (.ref wp_), .unset, .unset, .unset] [(.ref a0_)])) (fun target kt => ?_) ?_
  · refine XS.aloadN X0.here hx rfl (hb hby d3_0) rfl rfl ?_
    exact kt
  obtain ⟨T10, X10, e10, st10⟩ := getF X0 hx hZ hown (host := "") (Or.inl (hw _ tw42)) Via.refl e0 F_added (g := (mkF m 1 #[.val (.ref a0_), .val (.int 0), .val (.int 0), .val (.int 0), .val (.double (FP.l2d (1 : Int64))), .second, .val (.ref we_), .val .null, .val (.ref wp_), .unset, .unset, .unset] [(.ref a0_)])) rfl rfl (hb hby d3_1)
  refine Go.st st10 ?_
  refine Go.st (t' := T10.setTop (mkF m 5 #[.val (.ref a0_), .val (.int 0), .val (.int 0), .val (.int 0), .val (.double (FP.l2d (1 : Int64))), .second, .val (.ref we_), .val .null, .val (.ref wp_), .unset, .unset, .unset] [(.ref a0_), (.int 1)])) (fun target kt => ?_) ?_
  · refine XS.aloadN X10.here hx rfl (hb hby d3_4) rfl rfl ?_
    exact kt
  obtain ⟨T11, X11, e11, st11⟩ := getF X10 hx hZ hown (host := "") (Or.inl (hw _ tw12)) Via.refl e10 F_starts (g := (mkF m 5 #[.val (.ref a0_), .val (.int 0), .val (.int 0), .val (.int 0), .val (.double (FP.l2d (1 : Int64))), .second, .val (.ref we_), .val .null, .val (.ref wp_), .unset, .unset, .unset] [(.ref a0_), (.int 1)])) rfl rfl (hb hby d3_5)
  refine Go.st st11 ?_
  obtain ⟨cl12, Ar12, -, S12, M12, -, -⟩ := id V_starts
  refine Go.st (t' := T11.setTop (mkF m 141 #[.val (.ref a0_), .val (.int 0), .val (.int 0), .val (.int 0), .val (.double (FP.l2d (1 : Int64))), .second, .val (.ref we_), .val .null, .val (.ref wp_), .unset, .unset, .unset] [(.ref a0_), (.ref a0_)])) (fun target kt => ?_) ?_
  · refine X11.arraylength hx (by rw [e11]; exact Ar12.1) (State.isArrayOf_alike hZ.alike Ar12.2.1) (g := (mkF m 8 #[.val (.ref a0_), .val (.int 0), .val (.int 0), .val (.int 0), .val (.double (FP.l2d (1 : Int64))), .second, .val (.ref we_), .val .null, .val (.ref wp_), .unset, .unset, .unset] [(.ref x_starts), (.int 1)])) rfl rfl (hb hby d3_8) _ ?_
    rw [len_of S12 M12]
    refine XS.icmpYes X11.here hx rfl (pc0 := 9) (pc' := 139) rfl (hb hby d3_9) rfl (feq (by decide : ¬ ((1 : Int32) = (16 : Int32)))).2 (by decide) (by decide) ?_
    refine XS.aloadN X11.here hx rfl (hb hby d3_139) rfl rfl ?_
    refine XS.dup X11.here hx rfl (hb hby d3_140) rfl rfl ?_
    exact kt
  obtain ⟨T13, X13, e13, st13⟩ := getF X11 hx hZ hown (host := "") (Or.inl (hw _ tw42)) Via.refl e11 F_added (g := (mkF m 141 #[.val (.ref a0_), .val (.int 0), .val (.int 0), .val (.int 0), .val (.double (FP.l2d (1 : Int64))), .second, .val (.ref we_), .val .null, .val (.ref wp_), .unset, .unset, .unset] [(.ref a0_), (.ref a0_)])) rfl rfl (hb hby d3_141)
  refine Go.st st13 ?_
  refine Go.st (t' := T13.setTop (mkF m 147 #[.val (.ref a0_), .val (.int 0), .val (.int 0), .val (.int 0), .val (.double (FP.l2d (1 : Int64))), .second, .val (.ref we_), .val .null, .val (.ref wp_), .unset, .unset, .unset] [(.int 2), (.ref a0_), (.int 1)])) (fun target kt => ?_) ?_
  · refine XS.dupX1 X13.here hx rfl (hb hby d3_144) rfl rfl rfl ?_
    refine XS.iconst X13.here hx rfl (hb hby d3_145) ?_
    refine XS.iadd X13.here hx rfl (hb hby d3_146) rfl ?_
    exact kt
  obtain ⟨T14, h14, X14, e14, W14, st14⟩ := putF X13 hx hZ hown (host := "") (Or.inl (hw _ tw42)) Via.refl e13 F_added E0 (Or.inl (hw _ tw43)) (hw _ tw4) (ty := .int) (by decide) rfl rfl (g := (mkF m 147 #[.val (.ref a0_), .val (.int 0), .val (.int 0), .val (.int 0), .val (.double (FP.l2d (1 : Int64))), .second, .val (.ref we_), .val .null, .val (.ref wp_), .unset, .unset, .unset] [(.int 2), (.ref a0_), (.int 1)])) rfl rfl (hb hby d3_147)
  have F15 : Fld Z h14 a0_ sq0 "added" "I" (.int 2) := F_added.same W14
  have K16 := K0.wr W14 (Or.inl mI0)
  have O17 := O0.wr W14 g_a0
  have N14 := Fr.snoc X14 N0 g_a0
  refine Go.st st14 ?_
  refine Go.st (t' := T14.setTop (mkF m 153 #[.val (.ref a0_), .val (.int 0), .val (.int 0), .val (.int 0), .val (.double (FP.l2d (1 : Int64))), .second, .val (.ref we_), .val .null, .val (.ref wp_), .val (.int 1), .unset, .unset] [(.ref a0_)])) (fun target kt => ?_) ?_
  · refine XS.istore X14.here hx rfl (hb hby d3_150) rfl (l' := #[.val (.ref a0_), .val (.int 0), .val (.int 0), .val (.int 0), .val (.double (FP.l2d (1 : Int64))), .second, .val (.ref we_), .val .null, .val (.ref wp_), .val (.int 1), .unset, .unset]) rfl ?_
    refine XS.aloadN X14.here hx rfl (hb hby d3_152) rfl rfl ?_
    exact kt
  have c18 := F_starts.other W14 (Or.inr (slot_ne (Or.inl (hw _ tw13)) (Or.inl (hw _ tw43)) (by decide) (t := (.array .int)) (t' := .int) (by decide) (by decide)))
  obtain ⟨T19, X19, e19, st19⟩ := getF X14 hx hZ hown (host := "") (Or.inl (hw _ tw12)) Via.refl e14 c18 (g := (mkF m 153 #[.val (.ref a0_), .val (.int 0), .val (.int 0), .val (.int 0), .val (.double (FP.l2d (1 : Int64))), .second, .val (.ref we_), .val .null, .val (.ref wp_), .val (.int 1), .unset, .unset] [(.ref a0_)])) rfl rfl (hb hby d3_153)
  refine Go.st st19 ?_
  refine Go.st (t' := T19.setTop (mkF m 159 #[.val (.ref a0_), .val (.int 0), .val (.int 0), .val (.int 0), .val (.double (FP.l2d (1 : Int64))), .second, .val (.ref we_), .val .null, .val (.ref wp_), .val (.int 1), .unset, .unset] [(.int 0), (.int 1), (.ref x_starts)])) (fun target kt => ?_) ?_
  · refine XS.iload X19.here hx rfl (hb hby d3_156) rfl ?_
    refine XS.iloadN X19.here hx rfl (hb hby d3_158) rfl ?_
    exact kt
  have ne20 : a0_ ≠ x_starts := Nat.ne_of_lt o_a0__x_starts
  have c21 := V_starts.other W14 (Ne.symm ne20)
  obtain ⟨cl22, Ar22, q22, S22, M22, H22, G22⟩ := id c21
  have hin22 : ¬ ((1 : Int32) < 0 ∨ cl22.slots.size ≤ ((1 : Int32)).toNatClampNeg) := inb_of S22 ⟨by decide, by decide⟩
  obtain ⟨T22, h22, X22, e22, W22, st22⟩ := stI X19 hx hZ e19 Ar22 (j := (1 : Int32)) hin22 (g := (mkF m 159 #[.val (.ref a0_), .val (.int 0), .val (.int 0), .val (.int 0), .val (.double (FP.l2d (1 : Int64))), .second, .val (.ref we_), .val .null, .val (.ref wp_), .val (.int 1), .unset, .unset] [(.int 0), (.int 1), (.ref x_starts)])) rfl rfl (hb hby d3_159)
  have V23 : Arv Z h22 x_starts k_starts .int (16 : Int32) [(.int 0), (.int 0), (.int 0), (.int 0)] (.int 0) := Arv.set Ar22 q22 S22 M22 H22 G22 rfl W22 1 rfl (Nat.le_of_ble_eq_true rfl)
  have K24 := K16.wr W22 (Or.inl mI1)
  have O25 := O17.wr W22 g_starts
  have N22 := Fr.snoc X22 N14 g_starts
  refine Go.st st22 ?_
  refine Go.st (t' := T22.setTop (mkF m 161 #[.val (.ref a0_), .val (.int 0), .val (.int 0), .val (.int 0), .val (.double (FP.l2d (1 : Int64))), .second, .val (.ref we_), .val .null, .val (.ref wp_), .val (.int 1), .unset, .unset] [(.ref a0_)])) (fun target kt => ?_) ?_
  · refine XS.aloadN X22.here hx rfl (hb hby d3_160) rfl rfl ?_
    exact kt
  have c26 := (F_nexts.other W14 (Or.inr (slot_ne (Or.inl (hw _ tw15)) (Or.inl (hw _ tw43)) (by decide) (t := (.array .int)) (t' := .int) (by decide) (by decide)))).other W22 (Or.inl ne20)
  obtain ⟨T27, X27, e27, st27⟩ := getF X22 hx hZ hown (host := "") (Or.inl (hw _ tw14)) Via.refl e22 c26 (g := (mkF m 161 #[.val (.ref a0_), .val (.int 0), .val (.int 0), .val (.int 0), .val (.double (FP.l2d (1 : Int64))), .second, .val (.ref we_), .val .null, .val (.ref wp_), .val (.int 1), .unset, .unset] [(.ref a0_)])) rfl rfl (hb hby d3_161)
  refine Go.st st27 ?_
  refine Go.st (t' := T27.setTop (mkF m 167 #[.val (.ref a0_), .val (.int 0), .val (.int 0), .val (.int 0), .val (.double (FP.l2d (1 : Int64))), .second, .val (.ref we_), .val .null, .val (.ref wp_), .val (.int 1), .unset, .unset] [(.int 0), (.int 1), (.ref x_nexts)])) (fun target kt => ?_) ?_
  · refine XS.iload X27.here hx rfl (hb hby d3_164) rfl ?_
    refine XS.iloadN X27.here hx rfl (hb hby d3_166) rfl ?_
    exact kt
  have ne28 : a0_ ≠ x_nexts := Nat.ne_of_lt (Nat.lt_trans o_a0__x_starts o_x_starts_x_nexts)
  have ne29 : x_starts ≠ x_nexts := Nat.ne_of_lt o_x_starts_x_nexts
  have c30 := (V_nexts.other W14 (Ne.symm ne28)).other W22 (Ne.symm ne29)
  obtain ⟨cl31, Ar31, q31, S31, M31, H31, G31⟩ := id c30
  have hin31 : ¬ ((1 : Int32) < 0 ∨ cl31.slots.size ≤ ((1 : Int32)).toNatClampNeg) := inb_of S31 ⟨by decide, by decide⟩
  obtain ⟨T31, h31, X31, e31, W31, st31⟩ := stI X27 hx hZ e27 Ar31 (j := (1 : Int32)) hin31 (g := (mkF m 167 #[.val (.ref a0_), .val (.int 0), .val (.int 0), .val (.int 0), .val (.double (FP.l2d (1 : Int64))), .second, .val (.ref we_), .val .null, .val (.ref wp_), .val (.int 1), .unset, .unset] [(.int 0), (.int 1), (.ref x_nexts)])) rfl rfl (hb hby d3_167)
  have V32 : Arv Z h31 x_nexts k_nexts .int (16 : Int32) [(.int 0), (.int 0), (.int 0), (.int 0)] (.int 0) := Arv.set Ar31 q31 S31 M31 H31 G31 rfl W31 1 rfl (Nat.le_of_ble_eq_true rfl)
  have K33 := K24.wr W31 (Or.inl mI2)
  have O34 := O25.wr W31 g_nexts
  have N31 := Fr.snoc X31 N22 g_nexts
  refine Go.st st31 ?_
  refine Go.st (t' := T31.setTop (mkF m 169 #[.val (.ref a0_), .val (.int 0), .val (.int 0), .val (.int 0), .val (.double (FP.l2d (1 : Int64))), .second, .val (.ref we_), .val .null, .val (.ref wp_), .val (.int 1), .unset, .unset] [(.ref a0_)])) (fun target kt => ?_) ?_
  · refine XS.aloadN X31.here hx rfl (hb hby d3_168) rfl rfl ?_
    exact kt
  have c35 := ((F_ends.other W14 (Or.inr (slot_ne (Or.inl (hw _ tw17)) (Or.inl (hw _ tw43)) (by decide) (t := (.array .int)) (t' := .int) (by decide) (by decide)))).other W22 (Or.inl ne20)).other W31 (Or.inl ne28)
  obtain ⟨T36, X36, e36, st36⟩ := getF X31 hx hZ hown (host := "") (Or.inl (hw _ tw16)) Via.refl e31 c35 (g := (mkF m 169 #[.val (.ref a0_), .val (.int 0), .val (.int 0), .val (.int 0), .val (.double (FP.l2d (1 : Int64))), .second, .val (.ref we_), .val .null, .val (.ref wp_), .val (.int 1), .unset, .unset] [(.ref a0_)])) rfl rfl (hb hby d3_169)
  refine Go.st st36 ?_
  refine Go.st (t' := T36.setTop (mkF m 175 #[.val (.ref a0_), .val (.int 0), .val (.int 0), .val (.int 0), .val (.double (FP.l2d (1 : Int64))), .second, .val (.ref we_), .val .null, .val (.ref wp_), .val (.int 1), .unset, .unset] [(.int 0), (.int 1), (.ref x_ends)])) (fun target kt => ?_) ?_
  · refine XS.iload X36.here hx rfl (hb hby d3_172) rfl ?_
    refine XS.iloadN X36.here hx rfl (hb hby d3_174) rfl ?_
    exact kt
  have ne37 : a0_ ≠ x_ends := Nat.ne_of_lt (Nat.lt_trans (Nat.lt_trans o_a0__x_starts o_x_starts_x_nexts) o_x_nexts_x_ends)
  have ne38 : x_starts ≠ x_ends := Nat.ne_of_lt (Nat.lt_trans o_x_starts_x_nexts o_x_nexts_x_ends)
  have ne39 : x_nexts ≠ x_ends := Nat.ne_of_lt o_x_nexts_x_ends
  have c40 := ((V_ends.other W14 (Ne.symm ne37)).other W22 (Ne.symm ne38)).other W31 (Ne.symm ne39)
  obtain ⟨cl41, Ar41, q41, S41, M41, H41, G41⟩ := id c40
  have hin41 : ¬ ((1 : Int32) < 0 ∨ cl41.slots.size ≤ ((1 : Int32)).toNatClampNeg) := inb_of S41 ⟨by decide, by decide⟩
  obtain ⟨T41, h41, X41, e41, W41, st41⟩ := stI X36 hx hZ e36 Ar41 (j := (1 : Int32)) hin41 (g := (mkF m 175 #[.val (.ref a0_), .val (.int 0), .val (.int 0), .val (.int 0), .val (.double (FP.l2d (1 : Int64))), .second, .val (.ref we_), .val .null, .val (.ref wp_), .val (.int 1), .unset, .unset] [(.int 0), (.int 1), (.ref x_ends)])) rfl rfl (hb hby d3_175)
  have V42 : Arv Z h41 x_ends k_ends .int (16 : Int32) [(.int 0), (.int 0), (.int 0), (.int 0)] (.int 0) := Arv.set Ar41 q41 S41 M41 H41 G41 rfl W41 1 rfl (Nat.le_of_ble_eq_true rfl)
  have K43 := K33.wr W41 (Or.inl mI3)
  have O44 := O34.wr W41 g_ends
  have N41 := Fr.snoc X41 N31 g_ends
  refine Go.st st41 ?_
  refine Go.st (t' := T41.setTop (mkF m 177 #[.val (.ref a0_), .val (.int 0), .val (.int 0), .val (.int 0), .val (.double (FP.l2d (1 : Int64))), .second, .val (.ref we_), .val .null, .val (.ref wp_), .val (.int 1), .unset, .unset] [(.ref a0_)])) (fun target kt => ?_) ?_
  · refine XS.aloadN X41.here hx rfl (hb hby d3_176) rfl rfl ?_
    exact kt
  have c45 := (((F_bounds.other W14 (Or.inr (slot_ne (Or.inl (hw _ tw19)) (Or.inl (hw _ tw43)) (by decide) (t := (.array .double)) (t' := .int) (by decide) (by decide)))).other W22 (Or.inl ne20)).other W31 (Or.inl ne28)).other W41 (Or.inl ne37)
  obtain ⟨T46, X46, e46, st46⟩ := getF X41 hx hZ hown (host := "") (Or.inl (hw _ tw18)) Via.refl e41 c45 (g := (mkF m 177 #[.val (.ref a0_), .val (.int 0), .val (.int 0), .val (.int 0), .val (.double (FP.l2d (1 : Int64))), .second, .val (.ref we_), .val .null, .val (.ref wp_), .val (.int 1), .unset, .unset] [(.ref a0_)])) rfl rfl (hb hby d3_177)
  refine Go.st st46 ?_
  refine Go.st (t' := T46.setTop (mkF m 184 #[.val (.ref a0_), .val (.int 0), .val (.int 0), .val (.int 0), .val (.double (FP.l2d (1 : Int64))), .second, .val (.ref we_), .val .null, .val (.ref wp_), .val (.int 1), .unset, .unset] [(.double (FP.l2d (1 : Int64))), (.int 1), (.ref x_bounds)])) (fun target kt => ?_) ?_
  · refine XS.iload X46.here hx rfl (hb hby d3_180) rfl ?_
    refine XS.dload X46.here hx rfl (hb hby d3_182) rfl ?_
    exact kt
  have ne47 : a0_ ≠ x_bounds := Nat.ne_of_lt (Nat.lt_trans (Nat.lt_trans (Nat.lt_trans o_a0__x_starts o_x_starts_x_nexts) o_x_nexts_x_ends) o_x_ends_x_bounds)
  have ne48 : x_starts ≠ x_bounds := Nat.ne_of_lt (Nat.lt_trans (Nat.lt_trans o_x_starts_x_nexts o_x_nexts_x_ends) o_x_ends_x_bounds)
  have ne49 : x_nexts ≠ x_bounds := Nat.ne_of_lt (Nat.lt_trans o_x_nexts_x_ends o_x_ends_x_bounds)
  have ne50 : x_ends ≠ x_bounds := Nat.ne_of_lt o_x_ends_x_bounds
  have c51 := (((V_bounds.other W14 (Ne.symm ne47)).other W22 (Ne.symm ne48)).other W31 (Ne.symm ne49)).other W41 (Ne.symm ne50)
  obtain ⟨cl52, Ar52, q52, S52, M52, H52, G52⟩ := id c51
  have hin52 : ¬ ((1 : Int32) < 0 ∨ cl52.slots.size ≤ ((1 : Int32)).toNatClampNeg) := inb_of S52 ⟨by decide, by decide⟩
  obtain ⟨T52, h52, X52, e52, W52, st52⟩ := stD X46 hx hZ e46 Ar52 (j := (1 : Int32)) hin52 (g := (mkF m 184 #[.val (.ref a0_), .val (.int 0), .val (.int 0), .val (.int 0), .val (.double (FP.l2d (1 : Int64))), .second, .val (.ref we_), .val .null, .val (.ref wp_), .val (.int 1), .unset, .unset] [(.double (FP.l2d (1 : Int64))), (.int 1), (.ref x_bounds)])) rfl rfl (hb hby d3_184)
  have V53 : Arv Z h52 x_bounds k_bounds .double (16 : Int32) [(.double (FP.l2d (1 : Int64))), (.double (FP.l2d (1 : Int64))), (.double (FP.l2d 0)), (.double (FP.l2d 0))] (.double (FP.l2d 0)) := Arv.set Ar52 q52 S52 M52 H52 G52 rfl W52 1 rfl (Nat.le_of_ble_eq_true rfl)
  have K54 := K43.wr W52 (Or.inl mI4)
  have O55 := O44.wr W52 g_bounds
  have N52 := Fr.snoc X52 N41 g_bounds
  refine Go.st st52 ?_
  refine Go.st (t' := T52.setTop (mkF m 186 #[.val (.ref a0_), .val (.int 0), .val (.int 0), .val (.int 0), .val (.double (FP.l2d (1 : Int64))), .second, .val (.ref we_), .val .null, .val (.ref wp_), .val (.int 1), .unset, .unset] [(.ref a0_)])) (fun target kt => ?_) ?_
  · refine XS.aloadN X52.here hx rfl (hb hby d3_185) rfl rfl ?_
    exact kt
  have c56 := ((((F_windows.other W14 (Or.inr (slot_ne (Or.inl (hw _ tw22)) (Or.inl (hw _ tw43)) (by decide) (t := (.array .boolean)) (t' := .int) (by decide) (by decide)))).other W22 (Or.inl ne20)).other W31 (Or.inl ne28)).other W41 (Or.inl ne37)).other W52 (Or.inl ne47)
  obtain ⟨T57, X57, e57, st57⟩ := getF X52 hx hZ hown (host := "") (Or.inl (hw _ tw21)) Via.refl e52 c56 (g := (mkF m 186 #[.val (.ref a0_), .val (.int 0), .val (.int 0), .val (.int 0), .val (.double (FP.l2d (1 : Int64))), .second, .val (.ref we_), .val .null, .val (.ref wp_), .val (.int 1), .unset, .unset] [(.ref a0_)])) rfl rfl (hb hby d3_186)
  refine Go.st st57 ?_
  refine Go.st (t' := T57.setTop (mkF m 201 #[.val (.ref a0_), .val (.int 0), .val (.int 0), .val (.int 0), .val (.double (FP.l2d (1 : Int64))), .second, .val (.ref we_), .val .null, .val (.ref wp_), .val (.int 1), .unset, .unset] [(.int 0), (.int 1), (.ref x_windows)])) (fun target kt => ?_) ?_
  · refine XS.iload X57.here hx rfl (hb hby d3_189) rfl ?_
    refine XS.aload X57.here hx rfl (hb hby d3_191) rfl rfl ?_
    refine XS.ifnullYes X57.here hx rfl (pc0 := 193) (pc' := 200) rfl (hb hby d3_193) rfl (by decide) (by decide) ?_
    refine XS.iconst X57.here hx rfl (hb hby d3_200) ?_
    exact kt
  have ne58 : a0_ ≠ x_windows := Nat.ne_of_lt (Nat.lt_trans (Nat.lt_trans (Nat.lt_trans (Nat.lt_trans o_a0__x_starts o_x_starts_x_nexts) o_x_nexts_x_ends) o_x_ends_x_bounds) o_x_bounds_x_windows)
  have ne59 : x_starts ≠ x_windows := Nat.ne_of_lt (Nat.lt_trans (Nat.lt_trans (Nat.lt_trans o_x_starts_x_nexts o_x_nexts_x_ends) o_x_ends_x_bounds) o_x_bounds_x_windows)
  have ne60 : x_nexts ≠ x_windows := Nat.ne_of_lt (Nat.lt_trans (Nat.lt_trans o_x_nexts_x_ends o_x_ends_x_bounds) o_x_bounds_x_windows)
  have ne61 : x_ends ≠ x_windows := Nat.ne_of_lt (Nat.lt_trans o_x_ends_x_bounds o_x_bounds_x_windows)
  have ne62 : x_bounds ≠ x_windows := Nat.ne_of_lt o_x_bounds_x_windows
  have c63 := ((((V_windows.other W14 (Ne.symm ne58)).other W22 (Ne.symm ne59)).other W31 (Ne.symm ne60)).other W41 (Ne.symm ne61)).other W52 (Ne.symm ne62)
  obtain ⟨cl64, Ar64, q64, S64, M64, H64, G64⟩ := id c63
  have hin64 : ¬ ((1 : Int32) < 0 ∨ cl64.slots.size ≤ ((1 : Int32)).toNatClampNeg) := inb_of S64 ⟨by decide, by decide⟩
  obtain ⟨T64, h64, X64, e64, W64, st64⟩ := stZ X57 hx hZ e57 Ar64 (j := (1 : Int32)) hin64 (g := (mkF m 201 #[.val (.ref a0_), .val (.int 0), .val (.int 0), .val (.int 0), .val (.double (FP.l2d (1 : Int64))), .second, .val (.ref we_), .val .null, .val (.ref wp_), .val (.int 1), .unset, .unset] [(.int 0), (.int 1), (.ref x_windows)])) rfl rfl (hb hby d3_201)
  have V65 : Arv Z h64 x_windows k_windows .boolean (16 : Int32) [(.int 1), (.int 0), (.int 0), (.int 0)] (.int 0) := Arv.set Ar64 q64 S64 M64 H64 G64 rfl W64 1 rfl (Nat.le_of_ble_eq_true rfl)
  have K66 := K54.wr W64 (Or.inl mI5)
  have O67 := O55.wr W64 g_windows
  have N64 := Fr.snoc X64 N52 g_windows
  refine Go.st st64 ?_
  refine Go.st (t' := T64.setTop (mkF m 205 #[.val (.ref a0_), .val (.int 0), .val (.int 0), .val (.int 0), .val (.double (FP.l2d (1 : Int64))), .second, .val (.ref we_), .val .null, .val (.ref wp_), .val (.int 1), .unset, .unset] [(.ref a0_), (.int 1)])) (fun target kt => ?_) ?_
  · refine XS.iload X64.here hx rfl (hb hby d3_202) rfl ?_
    refine XS.aloadN X64.here hx rfl (hb hby d3_204) rfl rfl ?_
    exact kt
  have c68 := (((((F_count.other W14 (Or.inr (slot_ne (Or.inr (hw _ tw30)) (Or.inl (hw _ tw43)) (by decide) (t := .int) (t' := .int) (by decide) (by decide)))).other W22 (Or.inl ne20)).other W31 (Or.inl ne28)).other W41 (Or.inl ne37)).other W52 (Or.inl ne47)).other W64 (Or.inl ne58)
  obtain ⟨T69, X69, e69, st69⟩ := getF X64 hx hZ hown (host := "") (Or.inl (hw _ tw29)) Via.refl e64 c68 (g := (mkF m 205 #[.val (.ref a0_), .val (.int 0), .val (.int 0), .val (.int 0), .val (.double (FP.l2d (1 : Int64))), .second, .val (.ref we_), .val .null, .val (.ref wp_), .val (.int 1), .unset, .unset] [(.ref a0_), (.int 1)])) rfl rfl (hb hby d3_205)
  refine Go.st st69 ?_
  refine Go.st (t' := T69.setTop (mkF m 217 #[.val (.ref a0_), .val (.int 0), .val (.int 0), .val (.int 0), .val (.double (FP.l2d (1 : Int64))), .second, .val (.ref we_), .val .null, .val (.ref wp_), .val (.int 1), .val (.int 2), .val (.int 0)] [(.ref a0_), (.int 0)])) (fun target kt => ?_) ?_
  · refine XS.imul X69.here hx rfl (hb hby d3_208) rfl ?_
    refine XS.istore X69.here hx rfl (hb hby d3_209) rfl (l' := #[.val (.ref a0_), .val (.int 0), .val (.int 0), .val (.int 0), .val (.double (FP.l2d (1 : Int64))), .second, .val (.ref we_), .val .null, .val (.ref wp_), .val (.int 1), .val (.int 2), .unset]) rfl ?_
    refine XS.iconst X69.here hx rfl (hb hby d3_211) ?_
    refine XS.istore X69.here hx rfl (hb hby d3_212) rfl (l' := #[.val (.ref a0_), .val (.int 0), .val (.int 0), .val (.int 0), .val (.double (FP.l2d (1 : Int64))), .second, .val (.ref we_), .val .null, .val (.ref wp_), .val (.int 1), .val (.int 2), .val (.int 0)]) rfl ?_
    refine XS.iload X69.here hx rfl (hb hby d3_214) rfl ?_
    refine XS.aloadN X69.here hx rfl (hb hby d3_216) rfl rfl ?_
    exact kt
  obtain ⟨T70, X70, e70, st70⟩ := getF X69 hx hZ hown (host := "") (Or.inl (hw _ tw29)) Via.refl e69 c68 (g := (mkF m 217 #[.val (.ref a0_), .val (.int 0), .val (.int 0), .val (.int 0), .val (.double (FP.l2d (1 : Int64))), .second, .val (.ref we_), .val .null, .val (.ref wp_), .val (.int 1), .val (.int 2), .val (.int 0)] [(.ref a0_), (.int 0)])) rfl rfl (hb hby d3_217)
  refine Go.st st70 ?_
  refine Go.st (t' := T70.setTop (mkF m 224 #[.val (.ref a0_), .val (.int 0), .val (.int 0), .val (.int 0), .val (.double (FP.l2d (1 : Int64))), .second, .val (.ref we_), .val .null, .val (.ref wp_), .val (.int 1), .val (.int 2), .val (.int 0)] [(.ref a0_)])) (fun target kt => ?_) ?_
  · refine XS.icmpNo X70.here hx rfl (hb hby d3_220) rfl (tlt (by decide : (0 : Int32) < (2 : Int32))).2.1 ?_
    refine XS.aloadN X70.here hx rfl (hb hby d3_223) rfl rfl ?_
    exact kt
  have c71 := (((((F_entries.other W14 (Or.inr (slot_ne (Or.inl (hw _ tw32)) (Or.inl (hw _ tw43)) (by decide) (t := (.array .int)) (t' := .int) (by decide) (by decide)))).other W22 (Or.inl ne20)).other W31 (Or.inl ne28)).other W41 (Or.inl ne37)).other W52 (Or.inl ne47)).other W64 (Or.inl ne58)
  obtain ⟨T72, X72, e72, st72⟩ := getF X70 hx hZ hown (host := "") (Or.inl (hw _ tw31)) Via.refl e70 c71 (g := (mkF m 224 #[.val (.ref a0_), .val (.int 0), .val (.int 0), .val (.int 0), .val (.double (FP.l2d (1 : Int64))), .second, .val (.ref we_), .val .null, .val (.ref wp_), .val (.int 1), .val (.int 2), .val (.int 0)] [(.ref a0_)])) rfl rfl (hb hby d3_224)
  refine Go.st st72 ?_
  have ne73 : we_ ≠ x_parts := Nat.ne_of_lt (Nat.lt_trans (Nat.lt_trans (Nat.lt_trans (Nat.lt_trans (Nat.lt_trans (Nat.lt_trans (Nat.lt_trans (Nat.lt_trans (Nat.lt_trans (Nat.lt_trans (Nat.lt_trans (Nat.lt_trans o_we__wp_ o_wp__a0_) o_a0__x_starts) o_x_starts_x_nexts) o_x_nexts_x_ends) o_x_ends_x_bounds) o_x_bounds_x_windows) o_x_windows_x_heap) o_x_heap_x_heapBounds) o_x_heapBounds_x_heapStarts) o_x_heapStarts_x_entries) o_x_entries_x_blocks) o_x_blocks_x_parts)
  have ne74 : we_ ≠ x_blocks := Nat.ne_of_lt (Nat.lt_trans (Nat.lt_trans (Nat.lt_trans (Nat.lt_trans (Nat.lt_trans (Nat.lt_trans (Nat.lt_trans (Nat.lt_trans (Nat.lt_trans (Nat.lt_trans (Nat.lt_trans o_we__wp_ o_wp__a0_) o_a0__x_starts) o_x_starts_x_nexts) o_x_nexts_x_ends) o_x_ends_x_bounds) o_x_bounds_x_windows) o_x_windows_x_heap) o_x_heap_x_heapBounds) o_x_heapBounds_x_heapStarts) o_x_heapStarts_x_entries) o_x_entries_x_blocks)
  have ne75 : we_ ≠ x_entries := Nat.ne_of_lt (Nat.lt_trans (Nat.lt_trans (Nat.lt_trans (Nat.lt_trans (Nat.lt_trans (Nat.lt_trans (Nat.lt_trans (Nat.lt_trans (Nat.lt_trans (Nat.lt_trans o_we__wp_ o_wp__a0_) o_a0__x_starts) o_x_starts_x_nexts) o_x_nexts_x_ends) o_x_ends_x_bounds) o_x_bounds_x_windows) o_x_windows_x_heap) o_x_heap_x_heapBounds) o_x_heapBounds_x_heapStarts) o_x_heapStarts_x_entries)
  have ne76 : we_ ≠ x_heapStarts := Nat.ne_of_lt (Nat.lt_trans (Nat.lt_trans (Nat.lt_trans (Nat.lt_trans (Nat.lt_trans (Nat.lt_trans (Nat.lt_trans (Nat.lt_trans (Nat.lt_trans o_we__wp_ o_wp__a0_) o_a0__x_starts) o_x_starts_x_nexts) o_x_nexts_x_ends) o_x_ends_x_bounds) o_x_bounds_x_windows) o_x_windows_x_heap) o_x_heap_x_heapBounds) o_x_heapBounds_x_heapStarts)
  have ne77 : we_ ≠ x_heapBounds := Nat.ne_of_lt (Nat.lt_trans (Nat.lt_trans (Nat.lt_trans (Nat.lt_trans (Nat.lt_trans (Nat.lt_trans (Nat.lt_trans (Nat.lt_trans o_we__wp_ o_wp__a0_) o_a0__x_starts) o_x_starts_x_nexts) o_x_nexts_x_ends) o_x_ends_x_bounds) o_x_bounds_x_windows) o_x_windows_x_heap) o_x_heap_x_heapBounds)
  have ne78 : we_ ≠ x_heap := Nat.ne_of_lt (Nat.lt_trans (Nat.lt_trans (Nat.lt_trans (Nat.lt_trans (Nat.lt_trans (Nat.lt_trans (Nat.lt_trans o_we__wp_ o_wp__a0_) o_a0__x_starts) o_x_starts_x_nexts) o_x_nexts_x_ends) o_x_ends_x_bounds) o_x_bounds_x_windows) o_x_windows_x_heap)
  have ne79 : we_ ≠ x_windows := Nat.ne_of_lt (Nat.lt_trans (Nat.lt_trans (Nat.lt_trans (Nat.lt_trans (Nat.lt_trans (Nat.lt_trans o_we__wp_ o_wp__a0_) o_a0__x_starts) o_x_starts_x_nexts) o_x_nexts_x_ends) o_x_ends_x_bounds) o_x_bounds_x_windows)
  have ne80 : we_ ≠ x_bounds := Nat.ne_of_lt (Nat.lt_trans (Nat.lt_trans (Nat.lt_trans (Nat.lt_trans (Nat.lt_trans o_we__wp_ o_wp__a0_) o_a0__x_starts) o_x_starts_x_nexts) o_x_nexts_x_ends) o_x_ends_x_bounds)
  have ne81 : we_ ≠ x_ends := Nat.ne_of_lt (Nat.lt_trans (Nat.lt_trans (Nat.lt_trans (Nat.lt_trans o_we__wp_ o_wp__a0_) o_a0__x_starts) o_x_starts_x_nexts) o_x_nexts_x_ends)
  have ne82 : we_ ≠ x_nexts := Nat.ne_of_lt (Nat.lt_trans (Nat.lt_trans (Nat.lt_trans o_we__wp_ o_wp__a0_) o_a0__x_starts) o_x_starts_x_nexts)
  have ne83 : we_ ≠ x_starts := Nat.ne_of_lt (Nat.lt_trans (Nat.lt_trans o_we__wp_ o_wp__a0_) o_a0__x_starts)
  have ne84 : we_ ≠ a0_ := Nat.ne_of_lt (Nat.lt_trans o_we__wp_ o_wp__a0_)
  have c85 := V_we.keep K66 (ninS ne84 (ninS ne83 (ninS ne82 (ninS ne81 (ninS ne80 (ninS ne79 (ninS ne78 (ninS ne77 (ninS ne76 (ninS ne75 (ninS ne74 (ninS ne73 nin0))))))))))))
  obtain ⟨cl86, Ar86, -, S86, M86, H86, -⟩ := id c85
  have hin86 : ¬ ((0 : Int32) < 0 ∨ cl86.slots.size ≤ ((0 : Int32)).toNatClampNeg) := inb_of S86 ⟨by decide, by decide⟩
  have hat86 : cl86.slots[((0 : Int32)).toNatClampNeg]? = some (.int e0_) := H86.at hin86 rfl
  refine Go.st (t' := T72.setTop (mkF m 237 #[.val (.ref a0_), .val (.int 0), .val (.int 0), .val (.int 0), .val (.double (FP.l2d (1 : Int64))), .second, .val (.ref we_), .val .null, .val (.ref wp_), .val (.int 1), .val (.int 2), .val (.int 0)] [(.int e0_), (.int 2), (.ref x_entries)])) (fun target kt => ?_) ?_
  · refine XS.iload X72.here hx rfl (hb hby d3_227) rfl ?_
    refine XS.iload X72.here hx rfl (hb hby d3_229) rfl ?_
    refine XS.iadd X72.here hx rfl (hb hby d3_231) rfl ?_
    refine XS.aload X72.here hx rfl (hb hby d3_232) rfl rfl ?_
    refine XS.iload X72.here hx rfl (hb hby d3_234) rfl ?_
    refine X72.iaload hx (j := (0 : Int32)) (v := (.int e0_)) (by rw [e72]; exact Ar86.1) (State.isArrayOf_alike hZ.alike Ar86.2.1) Ar86.2.2 hin86 hat86 (g := (mkF m 236 #[.val (.ref a0_), .val (.int 0), .val (.int 0), .val (.int 0), .val (.double (FP.l2d (1 : Int64))), .second, .val (.ref we_), .val .null, .val (.ref wp_), .val (.int 1), .val (.int 2), .val (.int 0)] [(.int 0), (.ref we_), (.int 2), (.ref x_entries)])) rfl rfl (hb hby d3_236) _ ?_
    exact kt
  have ne87 : a0_ ≠ x_entries := Nat.ne_of_lt (Nat.lt_trans (Nat.lt_trans (Nat.lt_trans (Nat.lt_trans (Nat.lt_trans (Nat.lt_trans (Nat.lt_trans (Nat.lt_trans o_a0__x_starts o_x_starts_x_nexts) o_x_nexts_x_ends) o_x_ends_x_bounds) o_x_bounds_x_windows) o_x_windows_x_heap) o_x_heap_x_heapBounds) o_x_heapBounds_x_heapStarts) o_x_heapStarts_x_entries)
  have ne88 : x_starts ≠ x_entries := Nat.ne_of_lt (Nat.lt_trans (Nat.lt_trans (Nat.lt_trans (Nat.lt_trans (Nat.lt_trans (Nat.lt_trans (Nat.lt_trans o_x_starts_x_nexts o_x_nexts_x_ends) o_x_ends_x_bounds) o_x_bounds_x_windows) o_x_windows_x_heap) o_x_heap_x_heapBounds) o_x_heapBounds_x_heapStarts) o_x_heapStarts_x_entries)
  have ne89 : x_nexts ≠ x_entries := Nat.ne_of_lt (Nat.lt_trans (Nat.lt_trans (Nat.lt_trans (Nat.lt_trans (Nat.lt_trans (Nat.lt_trans o_x_nexts_x_ends o_x_ends_x_bounds) o_x_bounds_x_windows) o_x_windows_x_heap) o_x_heap_x_heapBounds) o_x_heapBounds_x_heapStarts) o_x_heapStarts_x_entries)
  have ne90 : x_ends ≠ x_entries := Nat.ne_of_lt (Nat.lt_trans (Nat.lt_trans (Nat.lt_trans (Nat.lt_trans (Nat.lt_trans o_x_ends_x_bounds o_x_bounds_x_windows) o_x_windows_x_heap) o_x_heap_x_heapBounds) o_x_heapBounds_x_heapStarts) o_x_heapStarts_x_entries)
  have ne91 : x_bounds ≠ x_entries := Nat.ne_of_lt (Nat.lt_trans (Nat.lt_trans (Nat.lt_trans (Nat.lt_trans o_x_bounds_x_windows o_x_windows_x_heap) o_x_heap_x_heapBounds) o_x_heapBounds_x_heapStarts) o_x_heapStarts_x_entries)
  have ne92 : x_windows ≠ x_entries := Nat.ne_of_lt (Nat.lt_trans (Nat.lt_trans (Nat.lt_trans o_x_windows_x_heap o_x_heap_x_heapBounds) o_x_heapBounds_x_heapStarts) o_x_heapStarts_x_entries)
  have c93 := (((((V_entries.other W14 (Ne.symm ne87)).other W22 (Ne.symm ne88)).other W31 (Ne.symm ne89)).other W41 (Ne.symm ne90)).other W52 (Ne.symm ne91)).other W64 (Ne.symm ne92)
  obtain ⟨cl94, Ar94, q94, S94, M94, H94, G94⟩ := id c93
  have hin94 : ¬ ((2 : Int32) < 0 ∨ cl94.slots.size ≤ ((2 : Int32)).toNatClampNeg) := inb_of S94 ⟨by decide, by decide⟩
  obtain ⟨T94, h94, X94, e94, W94, st94⟩ := stI X72 hx hZ e72 Ar94 (j := (2 : Int32)) hin94 (g := (mkF m 237 #[.val (.ref a0_), .val (.int 0), .val (.int 0), .val (.int 0), .val (.double (FP.l2d (1 : Int64))), .second, .val (.ref we_), .val .null, .val (.ref wp_), .val (.int 1), .val (.int 2), .val (.int 0)] [(.int e0_), (.int 2), (.ref x_entries)])) rfl rfl (hb hby d3_237)
  have V95 : Arv Z h94 x_entries k_entries .int (32 : Int32) [(.int f0_), (.int f1_), (.int e0_), (.int 0)] (.int 0) := Arv.set Ar94 q94 S94 M94 H94 G94 rfl W94 2 rfl (Nat.le_of_ble_eq_true rfl)
  have K96 := K66.wr W94 (Or.inl (List.mem_of_getElem? (i := 9) rfl))
  have O97 := O67.wr W94 g_entries
  have N94 := Fr.snoc X94 N64 g_entries
  refine Go.st st94 ?_
  refine Go.st (t' := T94.setTop (mkF m 239 #[.val (.ref a0_), .val (.int 0), .val (.int 0), .val (.int 0), .val (.double (FP.l2d (1 : Int64))), .second, .val (.ref we_), .val .null, .val (.ref wp_), .val (.int 1), .val (.int 2), .val (.int 0)] [(.ref a0_)])) (fun target kt => ?_) ?_
  · refine XS.aloadN X94.here hx rfl (hb hby d3_238) rfl rfl ?_
    exact kt
  have c98 := ((((((F_parts.other W14 (Or.inr (slot_ne (Or.inl (hw _ tw36)) (Or.inl (hw _ tw43)) (by decide) (t := (.array .double)) (t' := .int) (by decide) (by decide)))).other W22 (Or.inl ne20)).other W31 (Or.inl ne28)).other W41 (Or.inl ne37)).other W52 (Or.inl ne47)).other W64 (Or.inl ne58)).other W94 (Or.inl ne87)
  obtain ⟨T99, X99, e99, st99⟩ := getF X94 hx hZ hown (host := "") (Or.inl (hw _ tw35)) Via.refl e94 c98 (g := (mkF m 239 #[.val (.ref a0_), .val (.int 0), .val (.int 0), .val (.int 0), .val (.double (FP.l2d (1 : Int64))), .second, .val (.ref we_), .val .null, .val (.ref wp_), .val (.int 1), .val (.int 2), .val (.int 0)] [(.ref a0_)])) rfl rfl (hb hby d3_239)
  refine Go.st st99 ?_
  have ne100 : wp_ ≠ x_parts := Nat.ne_of_lt (Nat.lt_trans (Nat.lt_trans (Nat.lt_trans (Nat.lt_trans (Nat.lt_trans (Nat.lt_trans (Nat.lt_trans (Nat.lt_trans (Nat.lt_trans (Nat.lt_trans (Nat.lt_trans o_wp__a0_ o_a0__x_starts) o_x_starts_x_nexts) o_x_nexts_x_ends) o_x_ends_x_bounds) o_x_bounds_x_windows) o_x_windows_x_heap) o_x_heap_x_heapBounds) o_x_heapBounds_x_heapStarts) o_x_heapStarts_x_entries) o_x_entries_x_blocks) o_x_blocks_x_parts)
  have ne101 : wp_ ≠ x_blocks := Nat.ne_of_lt (Nat.lt_trans (Nat.lt_trans (Nat.lt_trans (Nat.lt_trans (Nat.lt_trans (Nat.lt_trans (Nat.lt_trans (Nat.lt_trans (Nat.lt_trans (Nat.lt_trans o_wp__a0_ o_a0__x_starts) o_x_starts_x_nexts) o_x_nexts_x_ends) o_x_ends_x_bounds) o_x_bounds_x_windows) o_x_windows_x_heap) o_x_heap_x_heapBounds) o_x_heapBounds_x_heapStarts) o_x_heapStarts_x_entries) o_x_entries_x_blocks)
  have ne102 : wp_ ≠ x_entries := Nat.ne_of_lt (Nat.lt_trans (Nat.lt_trans (Nat.lt_trans (Nat.lt_trans (Nat.lt_trans (Nat.lt_trans (Nat.lt_trans (Nat.lt_trans (Nat.lt_trans o_wp__a0_ o_a0__x_starts) o_x_starts_x_nexts) o_x_nexts_x_ends) o_x_ends_x_bounds) o_x_bounds_x_windows) o_x_windows_x_heap) o_x_heap_x_heapBounds) o_x_heapBounds_x_heapStarts) o_x_heapStarts_x_entries)
  have ne103 : wp_ ≠ x_heapStarts := Nat.ne_of_lt (Nat.lt_trans (Nat.lt_trans (Nat.lt_trans (Nat.lt_trans (Nat.lt_trans (Nat.lt_trans (Nat.lt_trans (Nat.lt_trans o_wp__a0_ o_a0__x_starts) o_x_starts_x_nexts) o_x_nexts_x_ends) o_x_ends_x_bounds) o_x_bounds_x_windows) o_x_windows_x_heap) o_x_heap_x_heapBounds) o_x_heapBounds_x_heapStarts)
  have ne104 : wp_ ≠ x_heapBounds := Nat.ne_of_lt (Nat.lt_trans (Nat.lt_trans (Nat.lt_trans (Nat.lt_trans (Nat.lt_trans (Nat.lt_trans (Nat.lt_trans o_wp__a0_ o_a0__x_starts) o_x_starts_x_nexts) o_x_nexts_x_ends) o_x_ends_x_bounds) o_x_bounds_x_windows) o_x_windows_x_heap) o_x_heap_x_heapBounds)
  have ne105 : wp_ ≠ x_heap := Nat.ne_of_lt (Nat.lt_trans (Nat.lt_trans (Nat.lt_trans (Nat.lt_trans (Nat.lt_trans (Nat.lt_trans o_wp__a0_ o_a0__x_starts) o_x_starts_x_nexts) o_x_nexts_x_ends) o_x_ends_x_bounds) o_x_bounds_x_windows) o_x_windows_x_heap)
  have ne106 : wp_ ≠ x_windows := Nat.ne_of_lt (Nat.lt_trans (Nat.lt_trans (Nat.lt_trans (Nat.lt_trans (Nat.lt_trans o_wp__a0_ o_a0__x_starts) o_x_starts_x_nexts) o_x_nexts_x_ends) o_x_ends_x_bounds) o_x_bounds_x_windows)
  have ne107 : wp_ ≠ x_bounds := Nat.ne_of_lt (Nat.lt_trans (Nat.lt_trans (Nat.lt_trans (Nat.lt_trans o_wp__a0_ o_a0__x_starts) o_x_starts_x_nexts) o_x_nexts_x_ends) o_x_ends_x_bounds)
  have ne108 : wp_ ≠ x_ends := Nat.ne_of_lt (Nat.lt_trans (Nat.lt_trans (Nat.lt_trans o_wp__a0_ o_a0__x_starts) o_x_starts_x_nexts) o_x_nexts_x_ends)
  have ne109 : wp_ ≠ x_nexts := Nat.ne_of_lt (Nat.lt_trans (Nat.lt_trans o_wp__a0_ o_a0__x_starts) o_x_starts_x_nexts)
  have ne110 : wp_ ≠ x_starts := Nat.ne_of_lt (Nat.lt_trans o_wp__a0_ o_a0__x_starts)
  have ne111 : wp_ ≠ a0_ := Nat.ne_of_lt o_wp__a0_
  have c112 := V_wp.keep K96 (ninS ne111 (ninS ne110 (ninS ne109 (ninS ne108 (ninS ne107 (ninS ne106 (ninS ne105 (ninS ne104 (ninS ne103 (ninS ne102 (ninS ne101 (ninS ne100 nin0))))))))))))
  obtain ⟨cl113, Ar113, -, S113, M113, H113, -⟩ := id c112
  have hin113 : ¬ ((0 : Int32) < 0 ∨ cl113.slots.size ≤ ((0 : Int32)).toNatClampNeg) := inb_of S113 ⟨by decide, by decide⟩
  have hat113 : cl113.slots[((0 : Int32)).toNatClampNeg]? = some (.double d0_) := H113.at hin113 rfl
  refine Go.st (t' := T99.setTop (mkF m 252 #[.val (.ref a0_), .val (.int 0), .val (.int 0), .val (.int 0), .val (.double (FP.l2d (1 : Int64))), .second, .val (.ref we_), .val .null, .val (.ref wp_), .val (.int 1), .val (.int 2), .val (.int 0)] [(.double d0_), (.int 2), (.ref x_parts)])) (fun target kt => ?_) ?_
  · refine XS.iload X99.here hx rfl (hb hby d3_242) rfl ?_
    refine XS.iload X99.here hx rfl (hb hby d3_244) rfl ?_
    refine XS.iadd X99.here hx rfl (hb hby d3_246) rfl ?_
    refine XS.aload X99.here hx rfl (hb hby d3_247) rfl rfl ?_
    refine XS.iload X99.here hx rfl (hb hby d3_249) rfl ?_
    refine X99.daload hx (j := (0 : Int32)) (v := (.double d0_)) (by rw [e99]; exact Ar113.1) (State.isArrayOf_alike hZ.alike Ar113.2.1) Ar113.2.2 hin113 hat113 (g := (mkF m 251 #[.val (.ref a0_), .val (.int 0), .val (.int 0), .val (.int 0), .val (.double (FP.l2d (1 : Int64))), .second, .val (.ref we_), .val .null, .val (.ref wp_), .val (.int 1), .val (.int 2), .val (.int 0)] [(.int 0), (.ref wp_), (.int 2), (.ref x_parts)])) rfl rfl (hb hby d3_251) _ ?_
    exact kt
  have ne114 : a0_ ≠ x_parts := Nat.ne_of_lt (Nat.lt_trans (Nat.lt_trans (Nat.lt_trans (Nat.lt_trans (Nat.lt_trans (Nat.lt_trans (Nat.lt_trans (Nat.lt_trans (Nat.lt_trans (Nat.lt_trans o_a0__x_starts o_x_starts_x_nexts) o_x_nexts_x_ends) o_x_ends_x_bounds) o_x_bounds_x_windows) o_x_windows_x_heap) o_x_heap_x_heapBounds) o_x_heapBounds_x_heapStarts) o_x_heapStarts_x_entries) o_x_entries_x_blocks) o_x_blocks_x_parts)
  have ne115 : x_starts ≠ x_parts := Nat.ne_of_lt (Nat.lt_trans (Nat.lt_trans (Nat.lt_trans (Nat.lt_trans (Nat.lt_trans (Nat.lt_trans (Nat.lt_trans (Nat.lt_trans (Nat.lt_trans o_x_starts_x_nexts o_x_nexts_x_ends) o_x_ends_x_bounds) o_x_bounds_x_windows) o_x_windows_x_heap) o_x_heap_x_heapBounds) o_x_heapBounds_x_heapStarts) o_x_heapStarts_x_entries) o_x_entries_x_blocks) o_x_blocks_x_parts)
  have ne116 : x_nexts ≠ x_parts := Nat.ne_of_lt (Nat.lt_trans (Nat.lt_trans (Nat.lt_trans (Nat.lt_trans (Nat.lt_trans (Nat.lt_trans (Nat.lt_trans (Nat.lt_trans o_x_nexts_x_ends o_x_ends_x_bounds) o_x_bounds_x_windows) o_x_windows_x_heap) o_x_heap_x_heapBounds) o_x_heapBounds_x_heapStarts) o_x_heapStarts_x_entries) o_x_entries_x_blocks) o_x_blocks_x_parts)
  have ne117 : x_ends ≠ x_parts := Nat.ne_of_lt (Nat.lt_trans (Nat.lt_trans (Nat.lt_trans (Nat.lt_trans (Nat.lt_trans (Nat.lt_trans (Nat.lt_trans o_x_ends_x_bounds o_x_bounds_x_windows) o_x_windows_x_heap) o_x_heap_x_heapBounds) o_x_heapBounds_x_heapStarts) o_x_heapStarts_x_entries) o_x_entries_x_blocks) o_x_blocks_x_parts)
  have ne118 : x_bounds ≠ x_parts := Nat.ne_of_lt (Nat.lt_trans (Nat.lt_trans (Nat.lt_trans (Nat.lt_trans (Nat.lt_trans (Nat.lt_trans o_x_bounds_x_windows o_x_windows_x_heap) o_x_heap_x_heapBounds) o_x_heapBounds_x_heapStarts) o_x_heapStarts_x_entries) o_x_entries_x_blocks) o_x_blocks_x_parts)
  have ne119 : x_windows ≠ x_parts := Nat.ne_of_lt (Nat.lt_trans (Nat.lt_trans (Nat.lt_trans (Nat.lt_trans (Nat.lt_trans o_x_windows_x_heap o_x_heap_x_heapBounds) o_x_heapBounds_x_heapStarts) o_x_heapStarts_x_entries) o_x_entries_x_blocks) o_x_blocks_x_parts)
  have ne120 : x_entries ≠ x_parts := Nat.ne_of_lt (Nat.lt_trans o_x_entries_x_blocks o_x_blocks_x_parts)
  have c121 := ((((((V_parts.other W14 (Ne.symm ne114)).other W22 (Ne.symm ne115)).other W31 (Ne.symm ne116)).other W41 (Ne.symm ne117)).other W52 (Ne.symm ne118)).other W64 (Ne.symm ne119)).other W94 (Ne.symm ne120)
  obtain ⟨cl122, Ar122, q122, S122, M122, H122, G122⟩ := id c121
  have hin122 : ¬ ((2 : Int32) < 0 ∨ cl122.slots.size ≤ ((2 : Int32)).toNatClampNeg) := inb_of S122 ⟨by decide, by decide⟩
  obtain ⟨T122, h122, X122, e122, W122, st122⟩ := stD X99 hx hZ e99 Ar122 (j := (2 : Int32)) hin122 (g := (mkF m 252 #[.val (.ref a0_), .val (.int 0), .val (.int 0), .val (.int 0), .val (.double (FP.l2d (1 : Int64))), .second, .val (.ref we_), .val .null, .val (.ref wp_), .val (.int 1), .val (.int 2), .val (.int 0)] [(.double d0_), (.int 2), (.ref x_parts)])) rfl rfl (hb hby d3_252)
  have V123 : Arv Z h122 x_parts k_parts .double (32 : Int32) [(.double u0_), (.double u1_), (.double d0_), (.double (FP.l2d 0))] (.double (FP.l2d 0)) := Arv.set Ar122 q122 S122 M122 H122 G122 rfl W122 2 rfl (Nat.le_of_ble_eq_true rfl)
  have K124 := K96.wr W122 (Or.inl (List.mem_of_getElem? (i := 11) rfl))
  have O125 := O97.wr W122 g_parts
  have N122 := Fr.snoc X122 N94 g_parts
  refine Go.st st122 ?_
  refine Go.st (t' := T122.setTop (mkF m 217 #[.val (.ref a0_), .val (.int 0), .val (.int 0), .val (.int 0), .val (.double (FP.l2d (1 : Int64))), .second, .val (.ref we_), .val .null, .val (.ref wp_), .val (.int 1), .val (.int 2), .val (.int 1)] [(.ref a0_), (.int 1)])) (fun target kt => ?_) ?_
  · refine XS.iinc X122.here hx rfl (hb hby d3_253) rfl (l' := #[.val (.ref a0_), .val (.int 0), .val (.int 0), .val (.int 0), .val (.double (FP.l2d (1 : Int64))), .second, .val (.ref we_), .val .null, .val (.ref wp_), .val (.int 1), .val (.int 2), .val (.int 1)]) rfl ?_
    refine XS.goto X122.here hx rfl (pc0 := 256) (pc' := 214) rfl (hb hby d3_256) (by decide) (by decide) ?_
    refine XS.iload X122.here hx rfl (hb hby d3_214) rfl ?_
    refine XS.aloadN X122.here hx rfl (hb hby d3_216) rfl rfl ?_
    exact kt
  have S_126 : Keep h64 h122 [x_entries, x_parts] := (((Keep.refl h64 [x_entries, x_parts]).wr W94 (Or.inl mI0)).wr W122 (Or.inl mI1))
  have c127 := c68.keep S_126 (ninS ne87 (ninS ne114 nin0))
  obtain ⟨T128, X128, e128, st128⟩ := getF X122 hx hZ hown (host := "") (Or.inl (hw _ tw29)) Via.refl e122 c127 (g := (mkF m 217 #[.val (.ref a0_), .val (.int 0), .val (.int 0), .val (.int 0), .val (.double (FP.l2d (1 : Int64))), .second, .val (.ref we_), .val .null, .val (.ref wp_), .val (.int 1), .val (.int 2), .val (.int 1)] [(.ref a0_), (.int 1)])) rfl rfl (hb hby d3_217)
  refine Go.st st128 ?_
  refine Go.st (t' := T128.setTop (mkF m 224 #[.val (.ref a0_), .val (.int 0), .val (.int 0), .val (.int 0), .val (.double (FP.l2d (1 : Int64))), .second, .val (.ref we_), .val .null, .val (.ref wp_), .val (.int 1), .val (.int 2), .val (.int 1)] [(.ref a0_)])) (fun target kt => ?_) ?_
  · refine XS.icmpNo X128.here hx rfl (hb hby d3_220) rfl (tlt (by decide : (1 : Int32) < (2 : Int32))).2.1 ?_
    refine XS.aloadN X128.here hx rfl (hb hby d3_223) rfl rfl ?_
    exact kt
  have c129 := c71.keep S_126 (ninS ne87 (ninS ne114 nin0))
  obtain ⟨T130, X130, e130, st130⟩ := getF X128 hx hZ hown (host := "") (Or.inl (hw _ tw31)) Via.refl e128 c129 (g := (mkF m 224 #[.val (.ref a0_), .val (.int 0), .val (.int 0), .val (.int 0), .val (.double (FP.l2d (1 : Int64))), .second, .val (.ref we_), .val .null, .val (.ref wp_), .val (.int 1), .val (.int 2), .val (.int 1)] [(.ref a0_)])) rfl rfl (hb hby d3_224)
  refine Go.st st130 ?_
  have c131 := c85.keep S_126 (ninS ne75 (ninS ne73 nin0))
  obtain ⟨cl132, Ar132, -, S132, M132, H132, -⟩ := id c131
  have hin132 : ¬ ((1 : Int32) < 0 ∨ cl132.slots.size ≤ ((1 : Int32)).toNatClampNeg) := inb_of S132 ⟨by decide, by decide⟩
  have hat132 : cl132.slots[((1 : Int32)).toNatClampNeg]? = some (.int e1_) := H132.at hin132 rfl
  refine Go.st (t' := T130.setTop (mkF m 237 #[.val (.ref a0_), .val (.int 0), .val (.int 0), .val (.int 0), .val (.double (FP.l2d (1 : Int64))), .second, .val (.ref we_), .val .null, .val (.ref wp_), .val (.int 1), .val (.int 2), .val (.int 1)] [(.int e1_), (.int 3), (.ref x_entries)])) (fun target kt => ?_) ?_
  · refine XS.iload X130.here hx rfl (hb hby d3_227) rfl ?_
    refine XS.iload X130.here hx rfl (hb hby d3_229) rfl ?_
    refine XS.iadd X130.here hx rfl (hb hby d3_231) rfl ?_
    refine XS.aload X130.here hx rfl (hb hby d3_232) rfl rfl ?_
    refine XS.iload X130.here hx rfl (hb hby d3_234) rfl ?_
    refine X130.iaload hx (j := (1 : Int32)) (v := (.int e1_)) (by rw [e130]; exact Ar132.1) (State.isArrayOf_alike hZ.alike Ar132.2.1) Ar132.2.2 hin132 hat132 (g := (mkF m 236 #[.val (.ref a0_), .val (.int 0), .val (.int 0), .val (.int 0), .val (.double (FP.l2d (1 : Int64))), .second, .val (.ref we_), .val .null, .val (.ref wp_), .val (.int 1), .val (.int 2), .val (.int 1)] [(.int 1), (.ref we_), (.int 3), (.ref x_entries)])) rfl rfl (hb hby d3_236) _ ?_
    exact kt
  have c133 := V95.other W122 ne120
  obtain ⟨cl134, Ar134, q134, S134, M134, H134, G134⟩ := id c133
  have hin134 : ¬ ((3 : Int32) < 0 ∨ cl134.slots.size ≤ ((3 : Int32)).toNatClampNeg) := inb_of S134 ⟨by decide, by decide⟩
  obtain ⟨T134, h134, X134, e134, W134, st134⟩ := stI X130 hx hZ e130 Ar134 (j := (3 : Int32)) hin134 (g := (mkF m 237 #[.val (.ref a0_), .val (.int 0), .val (.int 0), .val (.int 0), .val (.double (FP.l2d (1 : Int64))), .second, .val (.ref we_), .val .null, .val (.ref wp_), .val (.int 1), .val (.int 2), .val (.int 1)] [(.int e1_), (.int 3), (.ref x_entries)])) rfl rfl (hb hby d3_237)
  have V135 : Arv Z h134 x_entries k_entries .int (32 : Int32) [(.int f0_), (.int f1_), (.int e0_), (.int e1_)] (.int 0) := Arv.set Ar134 q134 S134 M134 H134 G134 rfl W134 3 rfl (Nat.le_of_ble_eq_true rfl)
  have K136 := K124.wr W134 (Or.inl (List.mem_of_getElem? (i := 9) rfl))
  have O137 := O125.wr W134 g_entries
  have N134 := Fr.snoc X134 N122 g_entries
  refine Go.st st134 ?_
  refine Go.st (t' := T134.setTop (mkF m 239 #[.val (.ref a0_), .val (.int 0), .val (.int 0), .val (.int 0), .val (.double (FP.l2d (1 : Int64))), .second, .val (.ref we_), .val .null, .val (.ref wp_), .val (.int 1), .val (.int 2), .val (.int 1)] [(.ref a0_)])) (fun target kt => ?_) ?_
  · refine XS.aloadN X134.here hx rfl (hb hby d3_238) rfl rfl ?_
    exact kt
  have S_138 : Keep h94 h134 [x_parts, x_entries] := (((Keep.refl h94 [x_parts, x_entries]).wr W122 (Or.inl mI0)).wr W134 (Or.inl mI1))
  have c139 := c98.keep S_138 (ninS ne114 (ninS ne87 nin0))
  obtain ⟨T140, X140, e140, st140⟩ := getF X134 hx hZ hown (host := "") (Or.inl (hw _ tw35)) Via.refl e134 c139 (g := (mkF m 239 #[.val (.ref a0_), .val (.int 0), .val (.int 0), .val (.int 0), .val (.double (FP.l2d (1 : Int64))), .second, .val (.ref we_), .val .null, .val (.ref wp_), .val (.int 1), .val (.int 2), .val (.int 1)] [(.ref a0_)])) rfl rfl (hb hby d3_239)
  refine Go.st st140 ?_
  have c141 := c112.keep S_138 (ninS ne100 (ninS ne102 nin0))
  obtain ⟨cl142, Ar142, -, S142, M142, H142, -⟩ := id c141
  have hin142 : ¬ ((1 : Int32) < 0 ∨ cl142.slots.size ≤ ((1 : Int32)).toNatClampNeg) := inb_of S142 ⟨by decide, by decide⟩
  have hat142 : cl142.slots[((1 : Int32)).toNatClampNeg]? = some (.double d1_) := H142.at hin142 rfl
  refine Go.st (t' := T140.setTop (mkF m 252 #[.val (.ref a0_), .val (.int 0), .val (.int 0), .val (.int 0), .val (.double (FP.l2d (1 : Int64))), .second, .val (.ref we_), .val .null, .val (.ref wp_), .val (.int 1), .val (.int 2), .val (.int 1)] [(.double d1_), (.int 3), (.ref x_parts)])) (fun target kt => ?_) ?_
  · refine XS.iload X140.here hx rfl (hb hby d3_242) rfl ?_
    refine XS.iload X140.here hx rfl (hb hby d3_244) rfl ?_
    refine XS.iadd X140.here hx rfl (hb hby d3_246) rfl ?_
    refine XS.aload X140.here hx rfl (hb hby d3_247) rfl rfl ?_
    refine XS.iload X140.here hx rfl (hb hby d3_249) rfl ?_
    refine X140.daload hx (j := (1 : Int32)) (v := (.double d1_)) (by rw [e140]; exact Ar142.1) (State.isArrayOf_alike hZ.alike Ar142.2.1) Ar142.2.2 hin142 hat142 (g := (mkF m 251 #[.val (.ref a0_), .val (.int 0), .val (.int 0), .val (.int 0), .val (.double (FP.l2d (1 : Int64))), .second, .val (.ref we_), .val .null, .val (.ref wp_), .val (.int 1), .val (.int 2), .val (.int 1)] [(.int 1), (.ref wp_), (.int 3), (.ref x_parts)])) rfl rfl (hb hby d3_251) _ ?_
    exact kt
  have c143 := V123.other W134 (Ne.symm ne120)
  obtain ⟨cl144, Ar144, q144, S144, M144, H144, G144⟩ := id c143
  have hin144 : ¬ ((3 : Int32) < 0 ∨ cl144.slots.size ≤ ((3 : Int32)).toNatClampNeg) := inb_of S144 ⟨by decide, by decide⟩
  obtain ⟨T144, h144, X144, e144, W144, st144⟩ := stD X140 hx hZ e140 Ar144 (j := (3 : Int32)) hin144 (g := (mkF m 252 #[.val (.ref a0_), .val (.int 0), .val (.int 0), .val (.int 0), .val (.double (FP.l2d (1 : Int64))), .second, .val (.ref we_), .val .null, .val (.ref wp_), .val (.int 1), .val (.int 2), .val (.int 1)] [(.double d1_), (.int 3), (.ref x_parts)])) rfl rfl (hb hby d3_252)
  have V145 : Arv Z h144 x_parts k_parts .double (32 : Int32) [(.double u0_), (.double u1_), (.double d0_), (.double d1_)] (.double (FP.l2d 0)) := Arv.set Ar144 q144 S144 M144 H144 G144 rfl W144 3 rfl (Nat.le_of_ble_eq_true rfl)
  have K146 := K136.wr W144 (Or.inl (List.mem_of_getElem? (i := 11) rfl))
  have O147 := O137.wr W144 g_parts
  have N144 := Fr.snoc X144 N134 g_parts
  refine Go.st st144 ?_
  refine Go.st (t' := T144.setTop (mkF m 217 #[.val (.ref a0_), .val (.int 0), .val (.int 0), .val (.int 0), .val (.double (FP.l2d (1 : Int64))), .second, .val (.ref we_), .val .null, .val (.ref wp_), .val (.int 1), .val (.int 2), .val (.int 2)] [(.ref a0_), (.int 2)])) (fun target kt => ?_) ?_
  · refine XS.iinc X144.here hx rfl (hb hby d3_253) rfl (l' := #[.val (.ref a0_), .val (.int 0), .val (.int 0), .val (.int 0), .val (.double (FP.l2d (1 : Int64))), .second, .val (.ref we_), .val .null, .val (.ref wp_), .val (.int 1), .val (.int 2), .val (.int 2)]) rfl ?_
    refine XS.goto X144.here hx rfl (pc0 := 256) (pc' := 214) rfl (hb hby d3_256) (by decide) (by decide) ?_
    refine XS.iload X144.here hx rfl (hb hby d3_214) rfl ?_
    refine XS.aloadN X144.here hx rfl (hb hby d3_216) rfl rfl ?_
    exact kt
  have S_148 : Keep h122 h144 [x_entries, x_parts] := (((Keep.refl h122 [x_entries, x_parts]).wr W134 (Or.inl mI0)).wr W144 (Or.inl mI1))
  have c149 := c127.keep S_148 (ninS ne87 (ninS ne114 nin0))
  obtain ⟨T150, X150, e150, st150⟩ := getF X144 hx hZ hown (host := "") (Or.inl (hw _ tw29)) Via.refl e144 c149 (g := (mkF m 217 #[.val (.ref a0_), .val (.int 0), .val (.int 0), .val (.int 0), .val (.double (FP.l2d (1 : Int64))), .second, .val (.ref we_), .val .null, .val (.ref wp_), .val (.int 1), .val (.int 2), .val (.int 2)] [(.ref a0_), (.int 2)])) rfl rfl (hb hby d3_217)
  refine Go.st st150 ?_
  refine Go.st (t' := T150.setTop (mkF m 300 #[.val (.ref a0_), .val (.int 0), .val (.int 0), .val (.int 0), .val (.double (FP.l2d (1 : Int64))), .second, .val (.ref we_), .val .null, .val (.ref wp_), .val (.int 1), .val (.int 2), .val (.int 2)] [(.int 1), (.ref a0_)])) (fun target kt => ?_) ?_
  · refine XS.icmpYes X150.here hx rfl (pc0 := 220) (pc' := 259) rfl (hb hby d3_220) rfl (flt (by decide : ¬ ((2 : Int32) < (2 : Int32)))).2.1 (by decide) (by decide) ?_
    refine XS.aload X150.here hx rfl (hb hby d3_259) rfl rfl ?_
    refine XS.ifnullYes X150.here hx rfl (pc0 := 261) (pc' := 297) rfl (hb hby d3_261) rfl (by decide) (by decide) ?_
    refine XS.aloadN X150.here hx rfl (hb hby d3_297) rfl rfl ?_
    refine XS.iload X150.here hx rfl (hb hby d3_298) rfl ?_
    exact kt
  have c151 := E0.keep K146
  have S_152 := (((((((Keep.refl h14 [x_starts, x_nexts, x_ends, x_bounds, x_windows, x_entries, x_parts]).wr W22 (Or.inl mI0)).wr W31 (Or.inl mI1)).wr W41 (Or.inl mI2)).wr W52 (Or.inl mI3)).wr W64 (Or.inl mI4)).wr W94 (Or.inl mI5)).wr W122 (Or.inl (List.mem_of_getElem? (i := 6) rfl))
  have S_153 : Keep h14 h144 [x_starts, x_nexts, x_ends, x_bounds, x_windows, x_entries, x_parts] := (S_152.trans S_148 (allS (Or.inl mI5) (allS (Or.inl (List.mem_of_getElem? (i := 6) rfl)) all0)))
  have c154 := c18.keep S_153 (ninS ne20 (ninS ne28 (ninS ne37 (ninS ne47 (ninS ne58 (ninS ne87 (ninS ne114 nin0)))))))
  have S_155 := ((((((Keep.refl h22 [x_nexts, x_ends, x_bounds, x_windows, x_entries, x_parts]).wr W31 (Or.inl mI0)).wr W41 (Or.inl mI1)).wr W52 (Or.inl mI2)).wr W64 (Or.inl mI3)).wr W94 (Or.inl mI4)).wr W122 (Or.inl mI5)
  have S_156 : Keep h22 h144 [x_nexts, x_ends, x_bounds, x_windows, x_entries, x_parts] := (S_155.trans S_148 (allS (Or.inl mI4) (allS (Or.inl mI5) all0)))
  have c157 := c26.keep S_156 (ninS ne28 (ninS ne37 (ninS ne47 (ninS ne58 (ninS ne87 (ninS ne114 nin0))))))
  have S_158 := (((((Keep.refl h31 [x_ends, x_bounds, x_windows, x_entries, x_parts]).wr W41 (Or.inl mI0)).wr W52 (Or.inl mI1)).wr W64 (Or.inl mI2)).wr W94 (Or.inl mI3)).wr W122 (Or.inl mI4)
  have S_159 : Keep h31 h144 [x_ends, x_bounds, x_windows, x_entries, x_parts] := (S_158.trans S_148 (allS (Or.inl mI3) (allS (Or.inl mI4) all0)))
  have c160 := c35.keep S_159 (ninS ne37 (ninS ne47 (ninS ne58 (ninS ne87 (ninS ne114 nin0)))))
  have S_161 := ((((Keep.refl h41 [x_bounds, x_windows, x_entries, x_parts]).wr W52 (Or.inl mI0)).wr W64 (Or.inl mI1)).wr W94 (Or.inl mI2)).wr W122 (Or.inl mI3)
  have S_162 : Keep h41 h144 [x_bounds, x_windows, x_entries, x_parts] := (S_161.trans S_148 (allS (Or.inl mI2) (allS (Or.inl mI3) all0)))
  have c163 := c45.keep S_162 (ninS ne47 (ninS ne58 (ninS ne87 (ninS ne114 nin0))))
  have S_164 := (((Keep.refl h52 [x_windows, x_entries, x_parts]).wr W64 (Or.inl mI0)).wr W94 (Or.inl mI1)).wr W122 (Or.inl mI2)
  have S_165 : Keep h52 h144 [x_windows, x_entries, x_parts] := (S_164.trans S_148 (allS (Or.inl mI1) (allS (Or.inl mI2) all0)))
  have c166 := c56.keep S_165 (ninS ne58 (ninS ne87 (ninS ne114 nin0)))
  have c167 := (((((((((F_heap.other W14 (Or.inr (slot_ne (Or.inl (hw _ tw24)) (Or.inl (hw _ tw43)) (by decide) (t := (.array .int)) (t' := .int) (by decide) (by decide)))).other W22 (Or.inl ne20)).other W31 (Or.inl ne28)).other W41 (Or.inl ne37)).other W52 (Or.inl ne47)).other W64 (Or.inl ne58)).other W94 (Or.inl ne87)).other W122 (Or.inl ne114)).other W134 (Or.inl ne87)).other W144 (Or.inl ne114)
  have c168 := (((((((((F_heapBounds.other W14 (Or.inr (slot_ne (Or.inl (hw _ tw26)) (Or.inl (hw _ tw43)) (by decide) (t := (.array .double)) (t' := .int) (by decide) (by decide)))).other W22 (Or.inl ne20)).other W31 (Or.inl ne28)).other W41 (Or.inl ne37)).other W52 (Or.inl ne47)).other W64 (Or.inl ne58)).other W94 (Or.inl ne87)).other W122 (Or.inl ne114)).other W134 (Or.inl ne87)).other W144 (Or.inl ne114)
  have c169 := (((((((((F_heapStarts.other W14 (Or.inr (slot_ne (Or.inl (hw _ tw28)) (Or.inl (hw _ tw43)) (by decide) (t := (.array .int)) (t' := .int) (by decide) (by decide)))).other W22 (Or.inl ne20)).other W31 (Or.inl ne28)).other W41 (Or.inl ne37)).other W52 (Or.inl ne47)).other W64 (Or.inl ne58)).other W94 (Or.inl ne87)).other W122 (Or.inl ne114)).other W134 (Or.inl ne87)).other W144 (Or.inl ne114)
  have c170 := c129.keep S_148 (ninS ne87 (ninS ne114 nin0))
  have c171 := (((((((((F_blocks.other W14 (Or.inr (slot_ne (Or.inl (hw _ tw34)) (Or.inl (hw _ tw43)) (by decide) (t := (.array .int)) (t' := .int) (by decide) (by decide)))).other W22 (Or.inl ne20)).other W31 (Or.inl ne28)).other W41 (Or.inl ne37)).other W52 (Or.inl ne47)).other W64 (Or.inl ne58)).other W94 (Or.inl ne87)).other W122 (Or.inl ne114)).other W134 (Or.inl ne87)).other W144 (Or.inl ne114)
  have c172 := c139.other W144 (Or.inl ne114)
  have c173 := F15.keep S_153 (ninS ne20 (ninS ne28 (ninS ne37 (ninS ne47 (ninS ne58 (ninS ne87 (ninS ne114 nin0)))))))
  have c174 := (((((((((F_size.other W14 (Or.inr (slot_ne (Or.inl (hw _ tw49)) (Or.inl (hw _ tw43)) (by decide) (t := .int) (t' := .int) (by decide) (by decide)))).other W22 (Or.inl ne20)).other W31 (Or.inl ne28)).other W41 (Or.inl ne37)).other W52 (Or.inl ne47)).other W64 (Or.inl ne58)).other W94 (Or.inl ne87)).other W122 (Or.inl ne114)).other W134 (Or.inl ne87)).other W144 (Or.inl ne114)
  have ne175 : a0_ ≠ x_heap := Nat.ne_of_lt (Nat.lt_trans (Nat.lt_trans (Nat.lt_trans (Nat.lt_trans (Nat.lt_trans o_a0__x_starts o_x_starts_x_nexts) o_x_nexts_x_ends) o_x_ends_x_bounds) o_x_bounds_x_windows) o_x_windows_x_heap)
  have ne176 : x_starts ≠ x_heap := Nat.ne_of_lt (Nat.lt_trans (Nat.lt_trans (Nat.lt_trans (Nat.lt_trans o_x_starts_x_nexts o_x_nexts_x_ends) o_x_ends_x_bounds) o_x_bounds_x_windows) o_x_windows_x_heap)
  have ne177 : x_nexts ≠ x_heap := Nat.ne_of_lt (Nat.lt_trans (Nat.lt_trans (Nat.lt_trans o_x_nexts_x_ends o_x_ends_x_bounds) o_x_bounds_x_windows) o_x_windows_x_heap)
  have ne178 : x_ends ≠ x_heap := Nat.ne_of_lt (Nat.lt_trans (Nat.lt_trans o_x_ends_x_bounds o_x_bounds_x_windows) o_x_windows_x_heap)
  have ne179 : x_bounds ≠ x_heap := Nat.ne_of_lt (Nat.lt_trans o_x_bounds_x_windows o_x_windows_x_heap)
  have ne180 : x_windows ≠ x_heap := Nat.ne_of_lt o_x_windows_x_heap
  have ne181 : x_heap ≠ x_entries := Nat.ne_of_lt (Nat.lt_trans (Nat.lt_trans o_x_heap_x_heapBounds o_x_heapBounds_x_heapStarts) o_x_heapStarts_x_entries)
  have ne182 : x_heap ≠ x_parts := Nat.ne_of_lt (Nat.lt_trans (Nat.lt_trans (Nat.lt_trans (Nat.lt_trans o_x_heap_x_heapBounds o_x_heapBounds_x_heapStarts) o_x_heapStarts_x_entries) o_x_entries_x_blocks) o_x_blocks_x_parts)
  have c183 := (((((((((V_heap.other W14 (Ne.symm ne175)).other W22 (Ne.symm ne176)).other W31 (Ne.symm ne177)).other W41 (Ne.symm ne178)).other W52 (Ne.symm ne179)).other W64 (Ne.symm ne180)).other W94 ne181).other W122 ne182).other W134 ne181).other W144 ne182
  have ne184 : a0_ ≠ x_heapBounds := Nat.ne_of_lt (Nat.lt_trans (Nat.lt_trans (Nat.lt_trans (Nat.lt_trans (Nat.lt_trans (Nat.lt_trans o_a0__x_starts o_x_starts_x_nexts) o_x_nexts_x_ends) o_x_ends_x_bounds) o_x_bounds_x_windows) o_x_windows_x_heap) o_x_heap_x_heapBounds)
  have ne185 : x_starts ≠ x_heapBounds := Nat.ne_of_lt (Nat.lt_trans (Nat.lt_trans (Nat.lt_trans (Nat.lt_trans (Nat.lt_trans o_x_starts_x_nexts o_x_nexts_x_ends) o_x_ends_x_bounds) o_x_bounds_x_windows) o_x_windows_x_heap) o_x_heap_x_heapBounds)
  have ne186 : x_nexts ≠ x_heapBounds := Nat.ne_of_lt (Nat.lt_trans (Nat.lt_trans (Nat.lt_trans (Nat.lt_trans o_x_nexts_x_ends o_x_ends_x_bounds) o_x_bounds_x_windows) o_x_windows_x_heap) o_x_heap_x_heapBounds)
  have ne187 : x_ends ≠ x_heapBounds := Nat.ne_of_lt (Nat.lt_trans (Nat.lt_trans (Nat.lt_trans o_x_ends_x_bounds o_x_bounds_x_windows) o_x_windows_x_heap) o_x_heap_x_heapBounds)
  have ne188 : x_bounds ≠ x_heapBounds := Nat.ne_of_lt (Nat.lt_trans (Nat.lt_trans o_x_bounds_x_windows o_x_windows_x_heap) o_x_heap_x_heapBounds)
  have ne189 : x_windows ≠ x_heapBounds := Nat.ne_of_lt (Nat.lt_trans o_x_windows_x_heap o_x_heap_x_heapBounds)
  have ne190 : x_heapBounds ≠ x_entries := Nat.ne_of_lt (Nat.lt_trans o_x_heapBounds_x_heapStarts o_x_heapStarts_x_entries)
  have ne191 : x_heapBounds ≠ x_parts := Nat.ne_of_lt (Nat.lt_trans (Nat.lt_trans (Nat.lt_trans o_x_heapBounds_x_heapStarts o_x_heapStarts_x_entries) o_x_entries_x_blocks) o_x_blocks_x_parts)
  have c192 := (((((((((V_heapBounds.other W14 (Ne.symm ne184)).other W22 (Ne.symm ne185)).other W31 (Ne.symm ne186)).other W41 (Ne.symm ne187)).other W52 (Ne.symm ne188)).other W64 (Ne.symm ne189)).other W94 ne190).other W122 ne191).other W134 ne190).other W144 ne191
  have ne193 : a0_ ≠ x_heapStarts := Nat.ne_of_lt (Nat.lt_trans (Nat.lt_trans (Nat.lt_trans (Nat.lt_trans (Nat.lt_trans (Nat.lt_trans (Nat.lt_trans o_a0__x_starts o_x_starts_x_nexts) o_x_nexts_x_ends) o_x_ends_x_bounds) o_x_bounds_x_windows) o_x_windows_x_heap) o_x_heap_x_heapBounds) o_x_heapBounds_x_heapStarts)
  have ne194 : x_starts ≠ x_heapStarts := Nat.ne_of_lt (Nat.lt_trans (Nat.lt_trans (Nat.lt_trans (Nat.lt_trans (Nat.lt_trans (Nat.lt_trans o_x_starts_x_nexts o_x_nexts_x_ends) o_x_ends_x_bounds) o_x_bounds_x_windows) o_x_windows_x_heap) o_x_heap_x_heapBounds) o_x_heapBounds_x_heapStarts)
  have ne195 : x_nexts ≠ x_heapStarts := Nat.ne_of_lt (Nat.lt_trans (Nat.lt_trans (Nat.lt_trans (Nat.lt_trans (Nat.lt_trans o_x_nexts_x_ends o_x_ends_x_bounds) o_x_bounds_x_windows) o_x_windows_x_heap) o_x_heap_x_heapBounds) o_x_heapBounds_x_heapStarts)
  have ne196 : x_ends ≠ x_heapStarts := Nat.ne_of_lt (Nat.lt_trans (Nat.lt_trans (Nat.lt_trans (Nat.lt_trans o_x_ends_x_bounds o_x_bounds_x_windows) o_x_windows_x_heap) o_x_heap_x_heapBounds) o_x_heapBounds_x_heapStarts)
  have ne197 : x_bounds ≠ x_heapStarts := Nat.ne_of_lt (Nat.lt_trans (Nat.lt_trans (Nat.lt_trans o_x_bounds_x_windows o_x_windows_x_heap) o_x_heap_x_heapBounds) o_x_heapBounds_x_heapStarts)
  have ne198 : x_windows ≠ x_heapStarts := Nat.ne_of_lt (Nat.lt_trans (Nat.lt_trans o_x_windows_x_heap o_x_heap_x_heapBounds) o_x_heapBounds_x_heapStarts)
  have ne199 : x_heapStarts ≠ x_entries := Nat.ne_of_lt o_x_heapStarts_x_entries
  have ne200 : x_heapStarts ≠ x_parts := Nat.ne_of_lt (Nat.lt_trans (Nat.lt_trans o_x_heapStarts_x_entries o_x_entries_x_blocks) o_x_blocks_x_parts)
  have c201 := (((((((((V_heapStarts.other W14 (Ne.symm ne193)).other W22 (Ne.symm ne194)).other W31 (Ne.symm ne195)).other W41 (Ne.symm ne196)).other W52 (Ne.symm ne197)).other W64 (Ne.symm ne198)).other W94 ne199).other W122 ne200).other W134 ne199).other W144 ne200
  have c202 := V23.keep S_156 (ninS ne29 (ninS ne38 (ninS ne48 (ninS ne59 (ninS ne88 (ninS ne115 nin0))))))
  have c203 := V53.keep S_165 (ninS ne62 (ninS ne91 (ninS ne118 nin0)))
  refine Go.cps (own_cp (W := 0) (b := a0_) (argsL := [(.int 1)]) (rest := []) X150 hx hZ hown (hw _ tw44) (hw _ tw45) (own_selp (y := (⟨sq0, "push", "(I)V"⟩ : MethodName)) (hw _ tw4) (hw _ tw46) (hw _ tw45) (by decide)) (hw _ tw46) (hw _ tw47) (hw _ tw5) (by decide) e150 c151 (rm4_1 l Z a0 hw [] a0_ x_starts x_nexts x_ends x_bounds x_windows x_heap x_heapBounds x_heapStarts x_entries x_blocks x_parts k_heap k_heapBounds k_heapStarts k_starts k_bounds (2 : Int32) (2 : Int32) h144 n0 (Nat.le_trans Z0 K146.1) O147  c151 c154 c157 c160 c163 c166 c167 c168 c169 c170 c171 c172 c149 c173 c174 c183 c192 c201 c202 c203 g_a0 g_heap g_heapBounds g_heapStarts o_a0__x_starts (Nat.lt_trans (Nat.lt_trans o_x_starts_x_nexts o_x_nexts_x_ends) o_x_ends_x_bounds) (Nat.lt_trans o_x_bounds_x_windows o_x_windows_x_heap) o_x_heap_x_heapBounds o_x_heapBounds_x_heapStarts) rfl (by rw [hml]; rfl) (lenOf pd2 rfl) rfl (Nat.le_of_eq rfl) (hb hby d3_300) rfl (by decide) (by decide) (by decide) (by decide)) ?_
  rintro T204 _ L204 X204 ⟨rfl, Nq204, Kq204, q205, q206, q207, q208, q209, q210, q211, q212, q213, q214, q215, q216, q217, q218, q219, q220, q221, q222⟩
  have N204 := Fr.app N144 Nq204
  have K223 := K146.trans Kq204 (allS (Or.inl mI0) (allS (Or.inl (List.mem_of_getElem? (i := 6) rfl)) (allS (Or.inl (List.mem_of_getElem? (i := 7) rfl)) (allS (Or.inl (List.mem_of_getElem? (i := 8) rfl)) all0))))
  have O224 := O147.keep Kq204 (allS g_a0 (allS g_heap (allS g_heapBounds (allS g_heapStarts all0))))
  have c225 := c202.keep Kq204 (ninS (Ne.symm ne20) (ninS ne176 (ninS ne185 (ninS ne194 nin0))))
  have S_226 : Keep h31 T204.heap [x_ends, x_bounds, x_windows, x_entries, x_parts, a0_, x_heap, x_heapBounds, x_heapStarts] := (((((((((Keep.refl h31 [x_ends, x_bounds, x_windows, x_entries, x_parts, a0_, x_heap, x_heapBounds, x_heapStarts]).wr W41 (Or.inl mI0)).wr W52 (Or.inl mI1)).wr W64 (Or.inl mI2)).wr W94 (Or.inl mI3)).wr W122 (Or.inl mI4)).wr W134 (Or.inl mI3)).wr W144 (Or.inl mI4)).trans Kq204 (allS (Or.inl mI5) (allS (Or.inl (List.mem_of_getElem? (i := 6) rfl)) (allS (Or.inl (List.mem_of_getElem? (i := 7) rfl)) (allS (Or.inl (List.mem_of_getElem? (i := 8) rfl)) all0)))))
  have c227 := V32.keep S_226 (ninS ne39 (ninS ne49 (ninS ne60 (ninS ne89 (ninS ne116 (ninS (Ne.symm ne28) (ninS ne177 (ninS ne186 (ninS ne195 nin0)))))))))
  have S_228 : Keep h41 T204.heap [x_bounds, x_windows, x_entries, x_parts, a0_, x_heap, x_heapBounds, x_heapStarts] := ((((((((Keep.refl h41 [x_bounds, x_windows, x_entries, x_parts, a0_, x_heap, x_heapBounds, x_heapStarts]).wr W52 (Or.inl mI0)).wr W64 (Or.inl mI1)).wr W94 (Or.inl mI2)).wr W122 (Or.inl mI3)).wr W134 (Or.inl mI2)).wr W144 (Or.inl mI3)).trans Kq204 (allS (Or.inl mI4) (allS (Or.inl mI5) (allS (Or.inl (List.mem_of_getElem? (i := 6) rfl)) (allS (Or.inl (List.mem_of_getElem? (i := 7) rfl)) all0)))))
  have c229 := V42.keep S_228 (ninS ne50 (ninS ne61 (ninS ne90 (ninS ne117 (ninS (Ne.symm ne37) (ninS ne178 (ninS ne187 (ninS ne196 nin0))))))))
  have c230 := c203.keep Kq204 (ninS (Ne.symm ne47) (ninS ne179 (ninS ne188 (ninS ne197 nin0))))
  have S_231 : Keep h64 T204.heap [x_entries, x_parts, a0_, x_heap, x_heapBounds, x_heapStarts] := ((((((Keep.refl h64 [x_entries, x_parts, a0_, x_heap, x_heapBounds, x_heapStarts]).wr W94 (Or.inl mI0)).wr W122 (Or.inl mI1)).wr W134 (Or.inl mI0)).wr W144 (Or.inl mI1)).trans Kq204 (allS (Or.inl mI2) (allS (Or.inl mI3) (allS (Or.inl mI4) (allS (Or.inl mI5) all0)))))
  have c232 := V65.keep S_231 (ninS ne92 (ninS ne119 (ninS (Ne.symm ne58) (ninS ne180 (ninS ne189 (ninS ne198 nin0))))))
  have S_233 : Keep h134 T204.heap [x_parts, a0_, x_heap, x_heapBounds, x_heapStarts] := (((Keep.refl h134 [x_parts, a0_, x_heap, x_heapBounds, x_heapStarts]).wr W144 (Or.inl mI0)).trans Kq204 (allS (Or.inl mI1) (allS (Or.inl mI2) (allS (Or.inl mI3) (allS (Or.inl mI4) all0)))))
  have c234 := V135.keep S_233 (ninS ne120 (ninS (Ne.symm ne87) (ninS (Ne.symm ne181) (ninS (Ne.symm ne190) (ninS (Ne.symm ne199) nin0)))))
  have ne235 : a0_ ≠ x_blocks := Nat.ne_of_lt (Nat.lt_trans (Nat.lt_trans (Nat.lt_trans (Nat.lt_trans (Nat.lt_trans (Nat.lt_trans (Nat.lt_trans (Nat.lt_trans (Nat.lt_trans o_a0__x_starts o_x_starts_x_nexts) o_x_nexts_x_ends) o_x_ends_x_bounds) o_x_bounds_x_windows) o_x_windows_x_heap) o_x_heap_x_heapBounds) o_x_heapBounds_x_heapStarts) o_x_heapStarts_x_entries) o_x_entries_x_blocks)
  have ne236 : x_starts ≠ x_blocks := Nat.ne_of_lt (Nat.lt_trans (Nat.lt_trans (Nat.lt_trans (Nat.lt_trans (Nat.lt_trans (Nat.lt_trans (Nat.lt_trans (Nat.lt_trans o_x_starts_x_nexts o_x_nexts_x_ends) o_x_ends_x_bounds) o_x_bounds_x_windows) o_x_windows_x_heap) o_x_heap_x_heapBounds) o_x_heapBounds_x_heapStarts) o_x_heapStarts_x_entries) o_x_entries_x_blocks)
  have ne237 : x_nexts ≠ x_blocks := Nat.ne_of_lt (Nat.lt_trans (Nat.lt_trans (Nat.lt_trans (Nat.lt_trans (Nat.lt_trans (Nat.lt_trans (Nat.lt_trans o_x_nexts_x_ends o_x_ends_x_bounds) o_x_bounds_x_windows) o_x_windows_x_heap) o_x_heap_x_heapBounds) o_x_heapBounds_x_heapStarts) o_x_heapStarts_x_entries) o_x_entries_x_blocks)
  have ne238 : x_ends ≠ x_blocks := Nat.ne_of_lt (Nat.lt_trans (Nat.lt_trans (Nat.lt_trans (Nat.lt_trans (Nat.lt_trans (Nat.lt_trans o_x_ends_x_bounds o_x_bounds_x_windows) o_x_windows_x_heap) o_x_heap_x_heapBounds) o_x_heapBounds_x_heapStarts) o_x_heapStarts_x_entries) o_x_entries_x_blocks)
  have ne239 : x_bounds ≠ x_blocks := Nat.ne_of_lt (Nat.lt_trans (Nat.lt_trans (Nat.lt_trans (Nat.lt_trans (Nat.lt_trans o_x_bounds_x_windows o_x_windows_x_heap) o_x_heap_x_heapBounds) o_x_heapBounds_x_heapStarts) o_x_heapStarts_x_entries) o_x_entries_x_blocks)
  have ne240 : x_windows ≠ x_blocks := Nat.ne_of_lt (Nat.lt_trans (Nat.lt_trans (Nat.lt_trans (Nat.lt_trans o_x_windows_x_heap o_x_heap_x_heapBounds) o_x_heapBounds_x_heapStarts) o_x_heapStarts_x_entries) o_x_entries_x_blocks)
  have ne241 : x_entries ≠ x_blocks := Nat.ne_of_lt o_x_entries_x_blocks
  have ne242 : x_blocks ≠ x_parts := Nat.ne_of_lt o_x_blocks_x_parts
  have ne243 : x_heapStarts ≠ x_blocks := Nat.ne_of_lt (Nat.lt_trans o_x_heapStarts_x_entries o_x_entries_x_blocks)
  have ne244 : x_heapBounds ≠ x_blocks := Nat.ne_of_lt (Nat.lt_trans (Nat.lt_trans o_x_heapBounds_x_heapStarts o_x_heapStarts_x_entries) o_x_entries_x_blocks)
  have ne245 : x_heap ≠ x_blocks := Nat.ne_of_lt (Nat.lt_trans (Nat.lt_trans (Nat.lt_trans o_x_heap_x_heapBounds o_x_heapBounds_x_heapStarts) o_x_heapStarts_x_entries) o_x_entries_x_blocks)
  have c246 := ((((((((((V_blocks.other W14 (Ne.symm ne235)).other W22 (Ne.symm ne236)).other W31 (Ne.symm ne237)).other W41 (Ne.symm ne238)).other W52 (Ne.symm ne239)).other W64 (Ne.symm ne240)).other W94 (Ne.symm ne241)).other W122 ne242).other W134 (Ne.symm ne241)).other W144 ne242).keep Kq204 (ninS (Ne.symm ne235) (ninS (Ne.symm ne245) (ninS (Ne.symm ne244) (ninS (Ne.symm ne243) nin0))))
  have c247 := V145.keep Kq204 (ninS (Ne.symm ne114) (ninS (Ne.symm ne182) (ninS (Ne.symm ne191) (ninS (Ne.symm ne200) nin0))))
  refine Go.ret X204 (v := none) (fun _ => rfl) hlk (fun fs hr => X204.returnOut hx hret (hb hby d3_303) hr) ?_ (by decide) (by decide)
  show Q3_2_1 Z a0_ we_ wp_ x_starts x_nexts x_ends x_bounds x_windows x_heap x_heapBounds x_heapStarts x_entries x_blocks x_parts k_starts k_nexts k_ends k_bounds k_windows k_heap k_heapBounds k_heapStarts k_entries k_blocks k_parts e0_ e1_ d0_ d1_ f0_ f1_ c0_ c1_ u0_ u1_ ke_ kp_ h0 n0 _ T204.heap _
  exact ⟨rfl, N204, K223, q205, q217, q218, q219, q206, c225, q207, c227, q208, c229, q209, c230, q210, c232, q211, q220, q212, q221, q213, q222, q214, c234, q215, c246, q216, c247⟩
theorem d7_0 : decode prog_63_method_9_code 0 = .ok (.iload_n 1, 1) := by decide +kernel
theorem d7_1 : decode prog_63_method_9_code 1 = .ok (.aload_n 0, 1) := by decide +kernel
theorem d7_2 : decode prog_63_method_9_code 2 = .ok (.getfield 36, 3) := by decide +kernel
theorem d7_5 : decode prog_63_method_9_code 5 = .ok (.imul, 1) := by decide +kernel
theorem d7_6 : decode prog_63_method_9_code 6 = .ok (.istore 5, 2) := by decide +kernel
theorem d7_8 : decode prog_63_method_9_code 8 = .ok (.iconst 0, 1) := by decide +kernel
theorem d7_9 : decode prog_63_method_9_code 9 = .ok (.istore 6, 2) := by decide +kernel
theorem d7_11 : decode prog_63_method_9_code 11 = .ok (.iload 6, 2) := by decide +kernel
theorem d7_13 : decode prog_63_method_9_code 13 = .ok (.aload_n 0, 1) := by decide +kernel
theorem d7_14 : decode prog_63_method_9_code 14 = .ok (.getfield 36, 3) := by decide +kernel
theorem d7_17 : decode prog_63_method_9_code 17 = .ok (.if_icmp .ge 38, 3) := by decide +kernel
theorem d7_20 : decode prog_63_method_9_code 20 = .ok (.aload_n 2, 1) := by decide +kernel
theorem d7_21 : decode prog_63_method_9_code 21 = .ok (.iload 6, 2) := by decide +kernel
theorem d7_23 : decode prog_63_method_9_code 23 = .ok (.aload_n 0, 1) := by decide +kernel
theorem d7_24 : decode prog_63_method_9_code 24 = .ok (.getfield 40, 3) := by decide +kernel
theorem d7_27 : decode prog_63_method_9_code 27 = .ok (.iload 5, 2) := by decide +kernel
theorem d7_29 : decode prog_63_method_9_code 29 = .ok (.iload 6, 2) := by decide +kernel
theorem d7_31 : decode prog_63_method_9_code 31 = .ok (.iadd, 1) := by decide +kernel
theorem d7_32 : decode prog_63_method_9_code 32 = .ok (.iaload, 1) := by decide +kernel
theorem d7_33 : decode prog_63_method_9_code 33 = .ok (.iastore, 1) := by decide +kernel
theorem d7_34 : decode prog_63_method_9_code 34 = .ok (.aload 4, 2) := by decide +kernel
theorem d7_36 : decode prog_63_method_9_code 36 = .ok (.iload 6, 2) := by decide +kernel
theorem d7_38 : decode prog_63_method_9_code 38 = .ok (.aload_n 0, 1) := by decide +kernel
theorem d7_39 : decode prog_63_method_9_code 39 = .ok (.getfield 46, 3) := by decide +kernel
theorem d7_42 : decode prog_63_method_9_code 42 = .ok (.iload 5, 2) := by decide +kernel
theorem d7_44 : decode prog_63_method_9_code 44 = .ok (.iload 6, 2) := by decide +kernel
theorem d7_46 : decode prog_63_method_9_code 46 = .ok (.iadd, 1) := by decide +kernel
theorem d7_47 : decode prog_63_method_9_code 47 = .ok (.daload, 1) := by decide +kernel
theorem d7_48 : decode prog_63_method_9_code 48 = .ok (.dastore, 1) := by decide +kernel
theorem d7_49 : decode prog_63_method_9_code 49 = .ok (.iinc 6 1, 3) := by decide +kernel
theorem d7_52 : decode prog_63_method_9_code 52 = .ok (.goto (-41), 3) := by decide +kernel
theorem d7_55 : decode prog_63_method_9_code 55 = .ok (.aload_n 3, 1) := by decide +kernel
theorem d7_56 : decode prog_63_method_9_code 56 = .ok (.ifnull 35, 3) := by decide +kernel
theorem d7_59 : decode prog_63_method_9_code 59 = .ok (.iconst 0, 1) := by decide +kernel
theorem d7_60 : decode prog_63_method_9_code 60 = .ok (.istore 6, 2) := by decide +kernel
theorem d7_62 : decode prog_63_method_9_code 62 = .ok (.iload 6, 2) := by decide +kernel
theorem d7_64 : decode prog_63_method_9_code 64 = .ok (.aload_n 0, 1) := by decide +kernel
theorem d7_65 : decode prog_63_method_9_code 65 = .ok (.getfield 36, 3) := by decide +kernel
theorem d7_68 : decode prog_63_method_9_code 68 = .ok (.if_icmp .ge 23, 3) := by decide +kernel
theorem d7_71 : decode prog_63_method_9_code 71 = .ok (.aload_n 3, 1) := by decide +kernel
theorem d7_72 : decode prog_63_method_9_code 72 = .ok (.iload 6, 2) := by decide +kernel
theorem d7_74 : decode prog_63_method_9_code 74 = .ok (.aload_n 0, 1) := by decide +kernel
theorem d7_75 : decode prog_63_method_9_code 75 = .ok (.getfield 43, 3) := by decide +kernel
theorem d7_78 : decode prog_63_method_9_code 78 = .ok (.iload 5, 2) := by decide +kernel
theorem d7_80 : decode prog_63_method_9_code 80 = .ok (.iload 6, 2) := by decide +kernel
theorem d7_82 : decode prog_63_method_9_code 82 = .ok (.iadd, 1) := by decide +kernel
theorem d7_83 : decode prog_63_method_9_code 83 = .ok (.iaload, 1) := by decide +kernel
theorem d7_84 : decode prog_63_method_9_code 84 = .ok (.iastore, 1) := by decide +kernel
theorem d7_85 : decode prog_63_method_9_code 85 = .ok (.iinc 6 1, 3) := by decide +kernel
theorem d7_88 : decode prog_63_method_9_code 88 = .ok (.goto (-26), 3) := by decide +kernel
theorem d7_91 : decode prog_63_method_9_code 91 = .ok (.return_, 1) := by decide +kernel
theorem ef7_1_0 (m : MethodId) (x0 : Addr) (x2 : Addr) (x3 : Addr) (x4 : Addr) : entryFrame m #[(.ref x0), (.int 0), (.ref x2), (.ref x3), (.ref x4)] 7 = mkF m 0 #[.val (.ref x0), .val (.int 0), .val (.ref x2), .val (.ref x3), .val (.ref x4), .unset, .unset] [] := by first | (simp [entryFrame, mkF, argsToLocals, Value.category]; done) | rfl
def Q7_1_0 (Z : State) (a0_ : Addr) (ie_ : Addr) (ib_ : Addr) (ip_ : Addr) (x_entries : Addr) (x_blocks : Addr) (x_parts : Addr) (k_entries : ClassId) (k_blocks : ClassId) (k_parts : ClassId) (ke_ : ClassId) (kp_ : ClassId) (kb_ : ClassId) (e0_ : Int32) (e1_ : Int32) (c0_ : Int32) (d0_ : UInt64) (d1_ : UInt64) (h0 : Heap) (n0 : Nat) (v : Option Value) (h : Heap) (L : List Loc) : Prop := v = none ∧ Fr n0 L ∧ Keep h0 h [ie_, ib_, ip_] ∧ Arv Z h ie_ ke_ .int (2 : Int32) [(.int e0_), (.int 7)] (.int 0) ∧ Arv Z h ib_ kb_ .int (2 : Int32) [(.int c0_), (.int 7)] (.int 0) ∧ Arv Z h ip_ kp_ .double (2 : Int32) [(.double d0_), (.double (4602678819172646912 : UInt64))] (.double (FP.l2d 0))
theorem rm7_1_0 (l : Launch) (Z : State) (a0 : Array Value) (hw : ∀ d ∈ tables_1, d.before a0 Z = true) (ws : List Jvm.Cond) (a0_ : Addr) (ie_ : Addr) (ib_ : Addr) (ip_ : Addr) (x_entries : Addr) (x_blocks : Addr) (x_parts : Addr) (k_entries : ClassId) (k_blocks : ClassId) (k_parts : ClassId) (ke_ : ClassId) (kp_ : ClassId) (kb_ : ClassId) (e0_ : Int32) (e1_ : Int32) (c0_ : Int32) (d0_ : UInt64) (d1_ : UInt64) (h0 : Heap) (n0 : Nat) (Z0 : n0 ≤ h0.size) (O0 : Old Z n0 h0) (E0 : Exa Z h0 a0_ sq0) (F_count : Fld Z h0 a0_ sq0 "count" "I" (.int 1)) (F_entries : Fld Z h0 a0_ sq0 "entries" "[I" (.ref x_entries)) (F_blocks : Fld Z h0 a0_ sq0 "blocks" "[I" (.ref x_blocks)) (F_parts : Fld Z h0 a0_ sq0 "parts" "[D" (.ref x_parts)) (V_entries : Arv Z h0 x_entries k_entries .int (16 : Int32) [(.int e0_), (.int e1_), (.int 0), (.int 0)] (.int 0)) (V_blocks : Arv Z h0 x_blocks k_blocks .int (16 : Int32) [(.int c0_), (.int 0), (.int 0), (.int 0)] (.int 0)) (V_parts : Arv Z h0 x_parts k_parts .double (16 : Int32) [(.double d0_), (.double d1_), (.double (FP.l2d 0)), (.double (FP.l2d 0))] (.double (FP.l2d 0))) (V_ie : Arv Z h0 ie_ ke_ .int (2 : Int32) [(.int 7), (.int 7)] (.int 0)) (V_ib : Arv Z h0 ib_ kb_ .int (2 : Int32) [(.int 7), (.int 7)] (.int 0)) (V_ip : Arv Z h0 ip_ kp_ .double (2 : Int32) [(.double (4602678819172646912 : UInt64)), (.double (4602678819172646912 : UInt64))] (.double (FP.l2d 0))) (g_ie_ : n0 ≤ ie_) (g_ib_ : n0 ≤ ib_) (g_ip_ : n0 ≤ ip_) (o_ie__ib_ : ie_ < ib_) (o_ib__ip_ : ib_ < ip_) (o_ip__a0_ : ip_ < a0_) (o_a0__x_entries : a0_ < x_entries) (o_x_entries_x_blocks : x_entries < x_blocks) (o_x_blocks_x_parts : x_blocks < x_parts) :
    Met l Z ws (⟨sq0, "copy", "(I[I[I[D)V"⟩ : MethodName) prog_63_method_9_code 7 none (Rm 0 0 0 0) #[(.ref a0_), (.int 0), (.ref ie_), (.ref ib_), (.ref ip_)] h0 (Q7_1_0 Z a0_ ie_ ib_ ip_ x_entries x_blocks x_parts k_entries k_blocks k_parts ke_ kp_ kb_ e0_ e1_ c0_ d0_ d1_ h0 n0) := by
  refine Met.enter (L0 := #[.val (.ref a0_), .val (.int 0), .val (.ref ie_), .val (.ref ib_), .val (.ref ip_), .unset, .unset]) (plainFor_of_name pn56) (fun m => ef7_1_0 m a0_ ie_ ib_ ip_) ?_
  intro p e s m below meth c s₁ hx hby hml hown hnm hret hlk hZ X0 e0
  have N0 := Fr.nil n0
  have K0 : Keep h0 h0 [ie_, ib_, ip_] := Keep.refl h0 _
  refine Go.st (t' := s₁.setTop (mkF m 2 #[.val (.ref a0_), .val (.int 0), .val (.ref ie_), .val (.ref ib_), .val (.ref ip_), .unset, .unset] [(.ref a0_), (.int 0)])) (fun target kt => ?_) ?_
  · refine XS.iloadN X0.here hx rfl (hb hby d7_0) rfl ?_
    refine XS.aloadN X0.here hx rfl (hb hby d7_1) rfl rfl ?_
    exact kt
  obtain ⟨T10, X10, e10, st10⟩ := getF X0 hx hZ hown (host := "") (Or.inl (hw _ tw29)) Via.refl e0 F_count (g := (mkF m 2 #[.val (.ref a0_), .val (.int 0), .val (.ref ie_), .val (.ref ib_), .val (.ref ip_), .unset, .unset] [(.ref a0_), (.int 0)])) rfl rfl (hb hby d7_2)
  refine Go.st st10 ?_
  refine Go.st (t' := T10.setTop (mkF m 14 #[.val (.ref a0_), .val (.int 0), .val (.ref ie_), .val (.ref ib_), .val (.ref ip_), .val (.int 0), .val (.int 0)] [(.ref a0_), (.int 0)])) (fun target kt => ?_) ?_
  · refine XS.imul X10.here hx rfl (hb hby d7_5) rfl ?_
    refine XS.istore X10.here hx rfl (hb hby d7_6) rfl (l' := #[.val (.ref a0_), .val (.int 0), .val (.ref ie_), .val (.ref ib_), .val (.ref ip_), .val (.int 0), .unset]) rfl ?_
    refine XS.iconst X10.here hx rfl (hb hby d7_8) ?_
    refine XS.istore X10.here hx rfl (hb hby d7_9) rfl (l' := #[.val (.ref a0_), .val (.int 0), .val (.ref ie_), .val (.ref ib_), .val (.ref ip_), .val (.int 0), .val (.int 0)]) rfl ?_
    refine XS.iload X10.here hx rfl (hb hby d7_11) rfl ?_
    refine XS.aloadN X10.here hx rfl (hb hby d7_13) rfl rfl ?_
    exact kt
  obtain ⟨T11, X11, e11, st11⟩ := getF X10 hx hZ hown (host := "") (Or.inl (hw _ tw29)) Via.refl e10 F_count (g := (mkF m 14 #[.val (.ref a0_), .val (.int 0), .val (.ref ie_), .val (.ref ib_), .val (.ref ip_), .val (.int 0), .val (.int 0)] [(.ref a0_), (.int 0)])) rfl rfl (hb hby d7_14)
  refine Go.st st11 ?_
  refine Go.st (t' := T11.setTop (mkF m 24 #[.val (.ref a0_), .val (.int 0), .val (.ref ie_), .val (.ref ib_), .val (.ref ip_), .val (.int 0), .val (.int 0)] [(.ref a0_), (.int 0), (.ref ie_)])) (fun target kt => ?_) ?_
  · refine XS.icmpNo X11.here hx rfl (hb hby d7_17) rfl (tlt (by decide : (0 : Int32) < (1 : Int32))).2.1 ?_
    refine XS.aloadN X11.here hx rfl (hb hby d7_20) rfl rfl ?_
    refine XS.iload X11.here hx rfl (hb hby d7_21) rfl ?_
    refine XS.aloadN X11.here hx rfl (hb hby d7_23) rfl rfl ?_
    exact kt
  obtain ⟨T12, X12, e12, st12⟩ := getF X11 hx hZ hown (host := "") (Or.inl (hw _ tw31)) Via.refl e11 F_entries (g := (mkF m 24 #[.val (.ref a0_), .val (.int 0), .val (.ref ie_), .val (.ref ib_), .val (.ref ip_), .val (.int 0), .val (.int 0)] [(.ref a0_), (.int 0), (.ref ie_)])) rfl rfl (hb hby d7_24)
  refine Go.st st12 ?_
  obtain ⟨cl13, Ar13, -, S13, M13, H13, -⟩ := id V_entries
  have hin13 : ¬ ((0 : Int32) < 0 ∨ cl13.slots.size ≤ ((0 : Int32)).toNatClampNeg) := inb_of S13 ⟨by decide, by decide⟩
  have hat13 : cl13.slots[((0 : Int32)).toNatClampNeg]? = some (.int e0_) := H13.at hin13 rfl
  refine Go.st (t' := T12.setTop (mkF m 33 #[.val (.ref a0_), .val (.int 0), .val (.ref ie_), .val (.ref ib_), .val (.ref ip_), .val (.int 0), .val (.int 0)] [(.int e0_), (.int 0), (.ref ie_)])) (fun target kt => ?_) ?_
  · refine XS.iload X12.here hx rfl (hb hby d7_27) rfl ?_
    refine XS.iload X12.here hx rfl (hb hby d7_29) rfl ?_
    refine XS.iadd X12.here hx rfl (hb hby d7_31) rfl ?_
    refine X12.iaload hx (j := (0 : Int32)) (v := (.int e0_)) (by rw [e12]; exact Ar13.1) (State.isArrayOf_alike hZ.alike Ar13.2.1) Ar13.2.2 hin13 hat13 (g := (mkF m 32 #[.val (.ref a0_), .val (.int 0), .val (.ref ie_), .val (.ref ib_), .val (.ref ip_), .val (.int 0), .val (.int 0)] [(.int 0), (.ref x_entries), (.int 0), (.ref ie_)])) rfl rfl (hb hby d7_32) _ ?_
    exact kt
  obtain ⟨cl14, Ar14, q14, S14, M14, H14, G14⟩ := id V_ie
  have hin14 : ¬ ((0 : Int32) < 0 ∨ cl14.slots.size ≤ ((0 : Int32)).toNatClampNeg) := inb_of S14 ⟨by decide, by decide⟩
  obtain ⟨T14, h14, X14, e14, W14, st14⟩ := stI X12 hx hZ e12 Ar14 (j := (0 : Int32)) hin14 (g := (mkF m 33 #[.val (.ref a0_), .val (.int 0), .val (.ref ie_), .val (.ref ib_), .val (.ref ip_), .val (.int 0), .val (.int 0)] [(.int e0_), (.int 0), (.ref ie_)])) rfl rfl (hb hby d7_33)
  have V15 : Arv Z h14 ie_ ke_ .int (2 : Int32) [(.int e0_), (.int 7)] (.int 0) := Arv.set Ar14 q14 S14 M14 H14 G14 rfl W14 0 rfl (Nat.le_of_ble_eq_true rfl)
  have K16 := K0.wr W14 (Or.inl mI0)
  have O17 := O0.wr W14 g_ie_
  have N14 := Fr.snoc X14 N0 g_ie_
  refine Go.st st14 ?_
  refine Go.st (t' := T14.setTop (mkF m 39 #[.val (.ref a0_), .val (.int 0), .val (.ref ie_), .val (.ref ib_), .val (.ref ip_), .val (.int 0), .val (.int 0)] [(.ref a0_), (.int 0), (.ref ip_)])) (fun target kt => ?_) ?_
  · refine XS.aload X14.here hx rfl (hb hby d7_34) rfl rfl ?_
    refine XS.iload X14.here hx rfl (hb hby d7_36) rfl ?_
    refine XS.aloadN X14.here hx rfl (hb hby d7_38) rfl rfl ?_
    exact kt
  have ne18 : ip_ ≠ a0_ := Nat.ne_of_lt o_ip__a0_
  have ne19 : ib_ ≠ a0_ := Nat.ne_of_lt (Nat.lt_trans o_ib__ip_ o_ip__a0_)
  have ne20 : ie_ ≠ a0_ := Nat.ne_of_lt (Nat.lt_trans (Nat.lt_trans o_ie__ib_ o_ib__ip_) o_ip__a0_)
  have c21 := F_parts.keep K16 (ninS (Ne.symm ne20) (ninS (Ne.symm ne19) (ninS (Ne.symm ne18) nin0)))
  obtain ⟨T22, X22, e22, st22⟩ := getF X14 hx hZ hown (host := "") (Or.inl (hw _ tw35)) Via.refl e14 c21 (g := (mkF m 39 #[.val (.ref a0_), .val (.int 0), .val (.ref ie_), .val (.ref ib_), .val (.ref ip_), .val (.int 0), .val (.int 0)] [(.ref a0_), (.int 0), (.ref ip_)])) rfl rfl (hb hby d7_39)
  refine Go.st st22 ?_
  have ne23 : ip_ ≠ x_parts := Nat.ne_of_lt (Nat.lt_trans (Nat.lt_trans (Nat.lt_trans o_ip__a0_ o_a0__x_entries) o_x_entries_x_blocks) o_x_blocks_x_parts)
  have ne24 : ib_ ≠ x_parts := Nat.ne_of_lt (Nat.lt_trans (Nat.lt_trans (Nat.lt_trans (Nat.lt_trans o_ib__ip_ o_ip__a0_) o_a0__x_entries) o_x_entries_x_blocks) o_x_blocks_x_parts)
  have ne25 : ie_ ≠ x_parts := Nat.ne_of_lt (Nat.lt_trans (Nat.lt_trans (Nat.lt_trans (Nat.lt_trans (Nat.lt_trans o_ie__ib_ o_ib__ip_) o_ip__a0_) o_a0__x_entries) o_x_entries_x_blocks) o_x_blocks_x_parts)
  have c26 := V_parts.keep K16 (ninS (Ne.symm ne25) (ninS (Ne.symm ne24) (ninS (Ne.symm ne23) nin0)))
  obtain ⟨cl27, Ar27, -, S27, M27, H27, -⟩ := id c26
  have hin27 : ¬ ((0 : Int32) < 0 ∨ cl27.slots.size ≤ ((0 : Int32)).toNatClampNeg) := inb_of S27 ⟨by decide, by decide⟩
  have hat27 : cl27.slots[((0 : Int32)).toNatClampNeg]? = some (.double d0_) := H27.at hin27 rfl
  refine Go.st (t' := T22.setTop (mkF m 48 #[.val (.ref a0_), .val (.int 0), .val (.ref ie_), .val (.ref ib_), .val (.ref ip_), .val (.int 0), .val (.int 0)] [(.double d0_), (.int 0), (.ref ip_)])) (fun target kt => ?_) ?_
  · refine XS.iload X22.here hx rfl (hb hby d7_42) rfl ?_
    refine XS.iload X22.here hx rfl (hb hby d7_44) rfl ?_
    refine XS.iadd X22.here hx rfl (hb hby d7_46) rfl ?_
    refine X22.daload hx (j := (0 : Int32)) (v := (.double d0_)) (by rw [e22]; exact Ar27.1) (State.isArrayOf_alike hZ.alike Ar27.2.1) Ar27.2.2 hin27 hat27 (g := (mkF m 47 #[.val (.ref a0_), .val (.int 0), .val (.ref ie_), .val (.ref ib_), .val (.ref ip_), .val (.int 0), .val (.int 0)] [(.int 0), (.ref x_parts), (.int 0), (.ref ip_)])) rfl rfl (hb hby d7_47) _ ?_
    exact kt
  have ne28 : ie_ ≠ ip_ := Nat.ne_of_lt (Nat.lt_trans o_ie__ib_ o_ib__ip_)
  have c29 := V_ip.other W14 (Ne.symm ne28)
  obtain ⟨cl30, Ar30, q30, S30, M30, H30, G30⟩ := id c29
  have hin30 : ¬ ((0 : Int32) < 0 ∨ cl30.slots.size ≤ ((0 : Int32)).toNatClampNeg) := inb_of S30 ⟨by decide, by decide⟩
  obtain ⟨T30, h30, X30, e30, W30, st30⟩ := stD X22 hx hZ e22 Ar30 (j := (0 : Int32)) hin30 (g := (mkF m 48 #[.val (.ref a0_), .val (.int 0), .val (.ref ie_), .val (.ref ib_), .val (.ref ip_), .val (.int 0), .val (.int 0)] [(.double d0_), (.int 0), (.ref ip_)])) rfl rfl (hb hby d7_48)
  have V31 : Arv Z h30 ip_ kp_ .double (2 : Int32) [(.double d0_), (.double (4602678819172646912 : UInt64))] (.double (FP.l2d 0)) := Arv.set Ar30 q30 S30 M30 H30 G30 rfl W30 0 rfl (Nat.le_of_ble_eq_true rfl)
  have K32 := K16.wr W30 (Or.inl mI2)
  have O33 := O17.wr W30 g_ip_
  have N30 := Fr.snoc X30 N14 g_ip_
  refine Go.st st30 ?_
  refine Go.st (t' := T30.setTop (mkF m 14 #[.val (.ref a0_), .val (.int 0), .val (.ref ie_), .val (.ref ib_), .val (.ref ip_), .val (.int 0), .val (.int 1)] [(.ref a0_), (.int 1)])) (fun target kt => ?_) ?_
  · refine XS.iinc X30.here hx rfl (hb hby d7_49) rfl (l' := #[.val (.ref a0_), .val (.int 0), .val (.ref ie_), .val (.ref ib_), .val (.ref ip_), .val (.int 0), .val (.int 1)]) rfl ?_
    refine XS.goto X30.here hx rfl (pc0 := 52) (pc' := 11) rfl (hb hby d7_52) (by decide) (by decide) ?_
    refine XS.iload X30.here hx rfl (hb hby d7_11) rfl ?_
    refine XS.aloadN X30.here hx rfl (hb hby d7_13) rfl rfl ?_
    exact kt
  have c34 := F_count.keep K32 (ninS (Ne.symm ne20) (ninS (Ne.symm ne19) (ninS (Ne.symm ne18) nin0)))
  obtain ⟨T35, X35, e35, st35⟩ := getF X30 hx hZ hown (host := "") (Or.inl (hw _ tw29)) Via.refl e30 c34 (g := (mkF m 14 #[.val (.ref a0_), .val (.int 0), .val (.ref ie_), .val (.ref ib_), .val (.ref ip_), .val (.int 0), .val (.int 1)] [(.ref a0_), (.int 1)])) rfl rfl (hb hby d7_14)
  refine Go.st st35 ?_
  refine Go.st (t' := T35.setTop (mkF m 65 #[.val (.ref a0_), .val (.int 0), .val (.ref ie_), .val (.ref ib_), .val (.ref ip_), .val (.int 0), .val (.int 0)] [(.ref a0_), (.int 0)])) (fun target kt => ?_) ?_
  · refine XS.icmpYes X35.here hx rfl (pc0 := 17) (pc' := 55) rfl (hb hby d7_17) rfl (flt (by decide : ¬ ((1 : Int32) < (1 : Int32)))).2.1 (by decide) (by decide) ?_
    refine XS.aloadN X35.here hx rfl (hb hby d7_55) rfl rfl ?_
    refine XS.ifnullNo X35.here hx rfl (hb hby d7_56) rfl ?_
    refine XS.iconst X35.here hx rfl (hb hby d7_59) ?_
    refine XS.istore X35.here hx rfl (hb hby d7_60) rfl (l' := #[.val (.ref a0_), .val (.int 0), .val (.ref ie_), .val (.ref ib_), .val (.ref ip_), .val (.int 0), .val (.int 0)]) rfl ?_
    refine XS.iload X35.here hx rfl (hb hby d7_62) rfl ?_
    refine XS.aloadN X35.here hx rfl (hb hby d7_64) rfl rfl ?_
    exact kt
  obtain ⟨T36, X36, e36, st36⟩ := getF X35 hx hZ hown (host := "") (Or.inl (hw _ tw29)) Via.refl e35 c34 (g := (mkF m 65 #[.val (.ref a0_), .val (.int 0), .val (.ref ie_), .val (.ref ib_), .val (.ref ip_), .val (.int 0), .val (.int 0)] [(.ref a0_), (.int 0)])) rfl rfl (hb hby d7_65)
  refine Go.st st36 ?_
  refine Go.st (t' := T36.setTop (mkF m 75 #[.val (.ref a0_), .val (.int 0), .val (.ref ie_), .val (.ref ib_), .val (.ref ip_), .val (.int 0), .val (.int 0)] [(.ref a0_), (.int 0), (.ref ib_)])) (fun target kt => ?_) ?_
  · refine XS.icmpNo X36.here hx rfl (hb hby d7_68) rfl (tlt (by decide : (0 : Int32) < (1 : Int32))).2.1 ?_
    refine XS.aloadN X36.here hx rfl (hb hby d7_71) rfl rfl ?_
    refine XS.iload X36.here hx rfl (hb hby d7_72) rfl ?_
    refine XS.aloadN X36.here hx rfl (hb hby d7_74) rfl rfl ?_
    exact kt
  have c37 := F_blocks.keep K32 (ninS (Ne.symm ne20) (ninS (Ne.symm ne19) (ninS (Ne.symm ne18) nin0)))
  obtain ⟨T38, X38, e38, st38⟩ := getF X36 hx hZ hown (host := "") (Or.inl (hw _ tw33)) Via.refl e36 c37 (g := (mkF m 75 #[.val (.ref a0_), .val (.int 0), .val (.ref ie_), .val (.ref ib_), .val (.ref ip_), .val (.int 0), .val (.int 0)] [(.ref a0_), (.int 0), (.ref ib_)])) rfl rfl (hb hby d7_75)
  refine Go.st st38 ?_
  have ne39 : ip_ ≠ x_blocks := Nat.ne_of_lt (Nat.lt_trans (Nat.lt_trans o_ip__a0_ o_a0__x_entries) o_x_entries_x_blocks)
  have ne40 : ib_ ≠ x_blocks := Nat.ne_of_lt (Nat.lt_trans (Nat.lt_trans (Nat.lt_trans o_ib__ip_ o_ip__a0_) o_a0__x_entries) o_x_entries_x_blocks)
  have ne41 : ie_ ≠ x_blocks := Nat.ne_of_lt (Nat.lt_trans (Nat.lt_trans (Nat.lt_trans (Nat.lt_trans o_ie__ib_ o_ib__ip_) o_ip__a0_) o_a0__x_entries) o_x_entries_x_blocks)
  have c42 := V_blocks.keep K32 (ninS (Ne.symm ne41) (ninS (Ne.symm ne40) (ninS (Ne.symm ne39) nin0)))
  obtain ⟨cl43, Ar43, -, S43, M43, H43, -⟩ := id c42
  have hin43 : ¬ ((0 : Int32) < 0 ∨ cl43.slots.size ≤ ((0 : Int32)).toNatClampNeg) := inb_of S43 ⟨by decide, by decide⟩
  have hat43 : cl43.slots[((0 : Int32)).toNatClampNeg]? = some (.int c0_) := H43.at hin43 rfl
  refine Go.st (t' := T38.setTop (mkF m 84 #[.val (.ref a0_), .val (.int 0), .val (.ref ie_), .val (.ref ib_), .val (.ref ip_), .val (.int 0), .val (.int 0)] [(.int c0_), (.int 0), (.ref ib_)])) (fun target kt => ?_) ?_
  · refine XS.iload X38.here hx rfl (hb hby d7_78) rfl ?_
    refine XS.iload X38.here hx rfl (hb hby d7_80) rfl ?_
    refine XS.iadd X38.here hx rfl (hb hby d7_82) rfl ?_
    refine X38.iaload hx (j := (0 : Int32)) (v := (.int c0_)) (by rw [e38]; exact Ar43.1) (State.isArrayOf_alike hZ.alike Ar43.2.1) Ar43.2.2 hin43 hat43 (g := (mkF m 83 #[.val (.ref a0_), .val (.int 0), .val (.ref ie_), .val (.ref ib_), .val (.ref ip_), .val (.int 0), .val (.int 0)] [(.int 0), (.ref x_blocks), (.int 0), (.ref ib_)])) rfl rfl (hb hby d7_83) _ ?_
    exact kt
  have ne44 : ie_ ≠ ib_ := Nat.ne_of_lt o_ie__ib_
  have ne45 : ib_ ≠ ip_ := Nat.ne_of_lt o_ib__ip_
  have c46 := (V_ib.other W14 (Ne.symm ne44)).other W30 ne45
  obtain ⟨cl47, Ar47, q47, S47, M47, H47, G47⟩ := id c46
  have hin47 : ¬ ((0 : Int32) < 0 ∨ cl47.slots.size ≤ ((0 : Int32)).toNatClampNeg) := inb_of S47 ⟨by decide, by decide⟩
  obtain ⟨T47, h47, X47, e47, W47, st47⟩ := stI X38 hx hZ e38 Ar47 (j := (0 : Int32)) hin47 (g := (mkF m 84 #[.val (.ref a0_), .val (.int 0), .val (.ref ie_), .val (.ref ib_), .val (.ref ip_), .val (.int 0), .val (.int 0)] [(.int c0_), (.int 0), (.ref ib_)])) rfl rfl (hb hby d7_84)
  have V48 : Arv Z h47 ib_ kb_ .int (2 : Int32) [(.int c0_), (.int 7)] (.int 0) := Arv.set Ar47 q47 S47 M47 H47 G47 rfl W47 0 rfl (Nat.le_of_ble_eq_true rfl)
  have K49 := K32.wr W47 (Or.inl mI1)
  have O50 := O33.wr W47 g_ib_
  have N47 := Fr.snoc X47 N30 g_ib_
  refine Go.st st47 ?_
  refine Go.st (t' := T47.setTop (mkF m 65 #[.val (.ref a0_), .val (.int 0), .val (.ref ie_), .val (.ref ib_), .val (.ref ip_), .val (.int 0), .val (.int 1)] [(.ref a0_), (.int 1)])) (fun target kt => ?_) ?_
  · refine XS.iinc X47.here hx rfl (hb hby d7_85) rfl (l' := #[.val (.ref a0_), .val (.int 0), .val (.ref ie_), .val (.ref ib_), .val (.ref ip_), .val (.int 0), .val (.int 1)]) rfl ?_
    refine XS.goto X47.here hx rfl (pc0 := 88) (pc' := 62) rfl (hb hby d7_88) (by decide) (by decide) ?_
    refine XS.iload X47.here hx rfl (hb hby d7_62) rfl ?_
    refine XS.aloadN X47.here hx rfl (hb hby d7_64) rfl rfl ?_
    exact kt
  have c51 := c34.other W47 (Or.inl (Ne.symm ne19))
  obtain ⟨T52, X52, e52, st52⟩ := getF X47 hx hZ hown (host := "") (Or.inl (hw _ tw29)) Via.refl e47 c51 (g := (mkF m 65 #[.val (.ref a0_), .val (.int 0), .val (.ref ie_), .val (.ref ib_), .val (.ref ip_), .val (.int 0), .val (.int 1)] [(.ref a0_), (.int 1)])) rfl rfl (hb hby d7_65)
  refine Go.st st52 ?_
  refine Go.st (t' := T52.setTop (mkF m 91 #[.val (.ref a0_), .val (.int 0), .val (.ref ie_), .val (.ref ib_), .val (.ref ip_), .val (.int 0), .val (.int 1)] [])) (fun target kt => ?_) ?_
  · refine XS.icmpYes X52.here hx rfl (pc0 := 68) (pc' := 91) rfl (hb hby d7_68) rfl (flt (by decide : ¬ ((1 : Int32) < (1 : Int32)))).2.1 (by decide) (by decide) ?_
    exact kt
  have S_53 : Keep h14 h47 [ip_, ib_] := (((Keep.refl h14 [ip_, ib_]).wr W30 (Or.inl mI0)).wr W47 (Or.inl mI1))
  have c54 := V15.keep S_53 (ninS ne28 (ninS ne44 nin0))
  have c55 := V31.other W47 (Ne.symm ne45)
  refine Go.ret X52 (v := none) (fun _ => rfl) hlk (fun fs hr => X52.returnOut hx hret (hb hby d7_91) hr) ?_ (by decide) (by decide)
  show Q7_1_0 Z a0_ ie_ ib_ ip_ x_entries x_blocks x_parts k_entries k_blocks k_parts ke_ kp_ kb_ e0_ e1_ c0_ d0_ d1_ h0 n0 _ T52.heap _
  rw [e52]
  exact ⟨rfl, N47, K49, c54, V48, c55⟩
theorem ef7_1_1 (m : MethodId) (x0 : Addr) (x2 : Addr) (x4 : Addr) : entryFrame m #[(.ref x0), (.int 1), (.ref x2), .null, (.ref x4)] 7 = mkF m 0 #[.val (.ref x0), .val (.int 1), .val (.ref x2), .val .null, .val (.ref x4), .unset, .unset] [] := by first | (simp [entryFrame, mkF, argsToLocals, Value.category]; done) | rfl
def Q7_1_1 (Z : State) (a0_ : Addr) (ie_ : Addr) (ip_ : Addr) (x_entries : Addr) (x_blocks : Addr) (x_parts : Addr) (k_entries : ClassId) (k_blocks : ClassId) (k_parts : ClassId) (ke_ : ClassId) (kp_ : ClassId) (e0_ : Int32) (e1_ : Int32) (c0_ : Int32) (d0_ : UInt64) (d1_ : UInt64) (h0 : Heap) (n0 : Nat) (v : Option Value) (h : Heap) (L : List Loc) : Prop := v = none ∧ Fr n0 L ∧ Keep h0 h [ie_, ip_] ∧ Arv Z h ie_ ke_ .int (2 : Int32) [(.int e1_), (.int 7)] (.int 0) ∧ Arv Z h ip_ kp_ .double (2 : Int32) [(.double d1_), (.double (4602678819172646912 : UInt64))] (.double (FP.l2d 0))
theorem rm7_1_1 (l : Launch) (Z : State) (a0 : Array Value) (hw : ∀ d ∈ tables_1, d.before a0 Z = true) (ws : List Jvm.Cond) (a0_ : Addr) (ie_ : Addr) (ip_ : Addr) (x_entries : Addr) (x_blocks : Addr) (x_parts : Addr) (k_entries : ClassId) (k_blocks : ClassId) (k_parts : ClassId) (ke_ : ClassId) (kp_ : ClassId) (e0_ : Int32) (e1_ : Int32) (c0_ : Int32) (d0_ : UInt64) (d1_ : UInt64) (h0 : Heap) (n0 : Nat) (Z0 : n0 ≤ h0.size) (O0 : Old Z n0 h0) (E0 : Exa Z h0 a0_ sq0) (F_count : Fld Z h0 a0_ sq0 "count" "I" (.int 1)) (F_entries : Fld Z h0 a0_ sq0 "entries" "[I" (.ref x_entries)) (F_blocks : Fld Z h0 a0_ sq0 "blocks" "[I" (.ref x_blocks)) (F_parts : Fld Z h0 a0_ sq0 "parts" "[D" (.ref x_parts)) (V_entries : Arv Z h0 x_entries k_entries .int (16 : Int32) [(.int e0_), (.int e1_), (.int 0), (.int 0)] (.int 0)) (V_blocks : Arv Z h0 x_blocks k_blocks .int (16 : Int32) [(.int c0_), (.int 0), (.int 0), (.int 0)] (.int 0)) (V_parts : Arv Z h0 x_parts k_parts .double (16 : Int32) [(.double d0_), (.double d1_), (.double (FP.l2d 0)), (.double (FP.l2d 0))] (.double (FP.l2d 0))) (V_ie : Arv Z h0 ie_ ke_ .int (2 : Int32) [(.int 7), (.int 7)] (.int 0)) (V_ip : Arv Z h0 ip_ kp_ .double (2 : Int32) [(.double (4602678819172646912 : UInt64)), (.double (4602678819172646912 : UInt64))] (.double (FP.l2d 0))) (g_ie_ : n0 ≤ ie_) (g_ip_ : n0 ≤ ip_) (o_ie__ip_ : ie_ < ip_) (o_ip__a0_ : ip_ < a0_) (o_a0__x_entries : a0_ < x_entries) (o_x_entries_x_blocks : x_entries < x_blocks) (o_x_blocks_x_parts : x_blocks < x_parts) :
    Met l Z ws (⟨sq0, "copy", "(I[I[I[D)V"⟩ : MethodName) prog_63_method_9_code 7 none (Rm 0 0 0 0) #[(.ref a0_), (.int 1), (.ref ie_), .null, (.ref ip_)] h0 (Q7_1_1 Z a0_ ie_ ip_ x_entries x_blocks x_parts k_entries k_blocks k_parts ke_ kp_ e0_ e1_ c0_ d0_ d1_ h0 n0) := by
  refine Met.enter (L0 := #[.val (.ref a0_), .val (.int 1), .val (.ref ie_), .val .null, .val (.ref ip_), .unset, .unset]) (plainFor_of_name pn56) (fun m => ef7_1_1 m a0_ ie_ ip_) ?_
  intro p e s m below meth c s₁ hx hby hml hown hnm hret hlk hZ X0 e0
  have N0 := Fr.nil n0
  have K0 : Keep h0 h0 [ie_, ip_] := Keep.refl h0 _
  refine Go.st (t' := s₁.setTop (mkF m 2 #[.val (.ref a0_), .val (.int 1), .val (.ref ie_), .val .null, .val (.ref ip_), .unset, .unset] [(.ref a0_), (.int 1)])) (fun target kt => ?_) ?_
  · refine XS.iloadN X0.here hx rfl (hb hby d7_0) rfl ?_
    refine XS.aloadN X0.here hx rfl (hb hby d7_1) rfl rfl ?_
    exact kt
  obtain ⟨T10, X10, e10, st10⟩ := getF X0 hx hZ hown (host := "") (Or.inl (hw _ tw29)) Via.refl e0 F_count (g := (mkF m 2 #[.val (.ref a0_), .val (.int 1), .val (.ref ie_), .val .null, .val (.ref ip_), .unset, .unset] [(.ref a0_), (.int 1)])) rfl rfl (hb hby d7_2)
  refine Go.st st10 ?_
  refine Go.st (t' := T10.setTop (mkF m 14 #[.val (.ref a0_), .val (.int 1), .val (.ref ie_), .val .null, .val (.ref ip_), .val (.int 1), .val (.int 0)] [(.ref a0_), (.int 0)])) (fun target kt => ?_) ?_
  · refine XS.imul X10.here hx rfl (hb hby d7_5) rfl ?_
    refine XS.istore X10.here hx rfl (hb hby d7_6) rfl (l' := #[.val (.ref a0_), .val (.int 1), .val (.ref ie_), .val .null, .val (.ref ip_), .val (.int 1), .unset]) rfl ?_
    refine XS.iconst X10.here hx rfl (hb hby d7_8) ?_
    refine XS.istore X10.here hx rfl (hb hby d7_9) rfl (l' := #[.val (.ref a0_), .val (.int 1), .val (.ref ie_), .val .null, .val (.ref ip_), .val (.int 1), .val (.int 0)]) rfl ?_
    refine XS.iload X10.here hx rfl (hb hby d7_11) rfl ?_
    refine XS.aloadN X10.here hx rfl (hb hby d7_13) rfl rfl ?_
    exact kt
  obtain ⟨T11, X11, e11, st11⟩ := getF X10 hx hZ hown (host := "") (Or.inl (hw _ tw29)) Via.refl e10 F_count (g := (mkF m 14 #[.val (.ref a0_), .val (.int 1), .val (.ref ie_), .val .null, .val (.ref ip_), .val (.int 1), .val (.int 0)] [(.ref a0_), (.int 0)])) rfl rfl (hb hby d7_14)
  refine Go.st st11 ?_
  refine Go.st (t' := T11.setTop (mkF m 24 #[.val (.ref a0_), .val (.int 1), .val (.ref ie_), .val .null, .val (.ref ip_), .val (.int 1), .val (.int 0)] [(.ref a0_), (.int 0), (.ref ie_)])) (fun target kt => ?_) ?_
  · refine XS.icmpNo X11.here hx rfl (hb hby d7_17) rfl (tlt (by decide : (0 : Int32) < (1 : Int32))).2.1 ?_
    refine XS.aloadN X11.here hx rfl (hb hby d7_20) rfl rfl ?_
    refine XS.iload X11.here hx rfl (hb hby d7_21) rfl ?_
    refine XS.aloadN X11.here hx rfl (hb hby d7_23) rfl rfl ?_
    exact kt
  obtain ⟨T12, X12, e12, st12⟩ := getF X11 hx hZ hown (host := "") (Or.inl (hw _ tw31)) Via.refl e11 F_entries (g := (mkF m 24 #[.val (.ref a0_), .val (.int 1), .val (.ref ie_), .val .null, .val (.ref ip_), .val (.int 1), .val (.int 0)] [(.ref a0_), (.int 0), (.ref ie_)])) rfl rfl (hb hby d7_24)
  refine Go.st st12 ?_
  obtain ⟨cl13, Ar13, -, S13, M13, H13, -⟩ := id V_entries
  have hin13 : ¬ ((1 : Int32) < 0 ∨ cl13.slots.size ≤ ((1 : Int32)).toNatClampNeg) := inb_of S13 ⟨by decide, by decide⟩
  have hat13 : cl13.slots[((1 : Int32)).toNatClampNeg]? = some (.int e1_) := H13.at hin13 rfl
  refine Go.st (t' := T12.setTop (mkF m 33 #[.val (.ref a0_), .val (.int 1), .val (.ref ie_), .val .null, .val (.ref ip_), .val (.int 1), .val (.int 0)] [(.int e1_), (.int 0), (.ref ie_)])) (fun target kt => ?_) ?_
  · refine XS.iload X12.here hx rfl (hb hby d7_27) rfl ?_
    refine XS.iload X12.here hx rfl (hb hby d7_29) rfl ?_
    refine XS.iadd X12.here hx rfl (hb hby d7_31) rfl ?_
    refine X12.iaload hx (j := (1 : Int32)) (v := (.int e1_)) (by rw [e12]; exact Ar13.1) (State.isArrayOf_alike hZ.alike Ar13.2.1) Ar13.2.2 hin13 hat13 (g := (mkF m 32 #[.val (.ref a0_), .val (.int 1), .val (.ref ie_), .val .null, .val (.ref ip_), .val (.int 1), .val (.int 0)] [(.int 1), (.ref x_entries), (.int 0), (.ref ie_)])) rfl rfl (hb hby d7_32) _ ?_
    exact kt
  obtain ⟨cl14, Ar14, q14, S14, M14, H14, G14⟩ := id V_ie
  have hin14 : ¬ ((0 : Int32) < 0 ∨ cl14.slots.size ≤ ((0 : Int32)).toNatClampNeg) := inb_of S14 ⟨by decide, by decide⟩
  obtain ⟨T14, h14, X14, e14, W14, st14⟩ := stI X12 hx hZ e12 Ar14 (j := (0 : Int32)) hin14 (g := (mkF m 33 #[.val (.ref a0_), .val (.int 1), .val (.ref ie_), .val .null, .val (.ref ip_), .val (.int 1), .val (.int 0)] [(.int e1_), (.int 0), (.ref ie_)])) rfl rfl (hb hby d7_33)
  have V15 : Arv Z h14 ie_ ke_ .int (2 : Int32) [(.int e1_), (.int 7)] (.int 0) := Arv.set Ar14 q14 S14 M14 H14 G14 rfl W14 0 rfl (Nat.le_of_ble_eq_true rfl)
  have K16 := K0.wr W14 (Or.inl mI0)
  have O17 := O0.wr W14 g_ie_
  have N14 := Fr.snoc X14 N0 g_ie_
  refine Go.st st14 ?_
  refine Go.st (t' := T14.setTop (mkF m 39 #[.val (.ref a0_), .val (.int 1), .val (.ref ie_), .val .null, .val (.ref ip_), .val (.int 1), .val (.int 0)] [(.ref a0_), (.int 0), (.ref ip_)])) (fun target kt => ?_) ?_
  · refine XS.aload X14.here hx rfl (hb hby d7_34) rfl rfl ?_
    refine XS.iload X14.here hx rfl (hb hby d7_36) rfl ?_
    refine XS.aloadN X14.here hx rfl (hb hby d7_38) rfl rfl ?_
    exact kt
  have ne18 : ip_ ≠ a0_ := Nat.ne_of_lt o_ip__a0_
  have ne19 : ie_ ≠ a0_ := Nat.ne_of_lt (Nat.lt_trans o_ie__ip_ o_ip__a0_)
  have c20 := F_parts.keep K16 (ninS (Ne.symm ne19) (ninS (Ne.symm ne18) nin0))
  obtain ⟨T21, X21, e21, st21⟩ := getF X14 hx hZ hown (host := "") (Or.inl (hw _ tw35)) Via.refl e14 c20 (g := (mkF m 39 #[.val (.ref a0_), .val (.int 1), .val (.ref ie_), .val .null, .val (.ref ip_), .val (.int 1), .val (.int 0)] [(.ref a0_), (.int 0), (.ref ip_)])) rfl rfl (hb hby d7_39)
  refine Go.st st21 ?_
  have ne22 : ip_ ≠ x_parts := Nat.ne_of_lt (Nat.lt_trans (Nat.lt_trans (Nat.lt_trans o_ip__a0_ o_a0__x_entries) o_x_entries_x_blocks) o_x_blocks_x_parts)
  have ne23 : ie_ ≠ x_parts := Nat.ne_of_lt (Nat.lt_trans (Nat.lt_trans (Nat.lt_trans (Nat.lt_trans o_ie__ip_ o_ip__a0_) o_a0__x_entries) o_x_entries_x_blocks) o_x_blocks_x_parts)
  have c24 := V_parts.keep K16 (ninS (Ne.symm ne23) (ninS (Ne.symm ne22) nin0))
  obtain ⟨cl25, Ar25, -, S25, M25, H25, -⟩ := id c24
  have hin25 : ¬ ((1 : Int32) < 0 ∨ cl25.slots.size ≤ ((1 : Int32)).toNatClampNeg) := inb_of S25 ⟨by decide, by decide⟩
  have hat25 : cl25.slots[((1 : Int32)).toNatClampNeg]? = some (.double d1_) := H25.at hin25 rfl
  refine Go.st (t' := T21.setTop (mkF m 48 #[.val (.ref a0_), .val (.int 1), .val (.ref ie_), .val .null, .val (.ref ip_), .val (.int 1), .val (.int 0)] [(.double d1_), (.int 0), (.ref ip_)])) (fun target kt => ?_) ?_
  · refine XS.iload X21.here hx rfl (hb hby d7_42) rfl ?_
    refine XS.iload X21.here hx rfl (hb hby d7_44) rfl ?_
    refine XS.iadd X21.here hx rfl (hb hby d7_46) rfl ?_
    refine X21.daload hx (j := (1 : Int32)) (v := (.double d1_)) (by rw [e21]; exact Ar25.1) (State.isArrayOf_alike hZ.alike Ar25.2.1) Ar25.2.2 hin25 hat25 (g := (mkF m 47 #[.val (.ref a0_), .val (.int 1), .val (.ref ie_), .val .null, .val (.ref ip_), .val (.int 1), .val (.int 0)] [(.int 1), (.ref x_parts), (.int 0), (.ref ip_)])) rfl rfl (hb hby d7_47) _ ?_
    exact kt
  have ne26 : ie_ ≠ ip_ := Nat.ne_of_lt o_ie__ip_
  have c27 := V_ip.other W14 (Ne.symm ne26)
  obtain ⟨cl28, Ar28, q28, S28, M28, H28, G28⟩ := id c27
  have hin28 : ¬ ((0 : Int32) < 0 ∨ cl28.slots.size ≤ ((0 : Int32)).toNatClampNeg) := inb_of S28 ⟨by decide, by decide⟩
  obtain ⟨T28, h28, X28, e28, W28, st28⟩ := stD X21 hx hZ e21 Ar28 (j := (0 : Int32)) hin28 (g := (mkF m 48 #[.val (.ref a0_), .val (.int 1), .val (.ref ie_), .val .null, .val (.ref ip_), .val (.int 1), .val (.int 0)] [(.double d1_), (.int 0), (.ref ip_)])) rfl rfl (hb hby d7_48)
  have V29 : Arv Z h28 ip_ kp_ .double (2 : Int32) [(.double d1_), (.double (4602678819172646912 : UInt64))] (.double (FP.l2d 0)) := Arv.set Ar28 q28 S28 M28 H28 G28 rfl W28 0 rfl (Nat.le_of_ble_eq_true rfl)
  have K30 := K16.wr W28 (Or.inl mI1)
  have O31 := O17.wr W28 g_ip_
  have N28 := Fr.snoc X28 N14 g_ip_
  refine Go.st st28 ?_
  refine Go.st (t' := T28.setTop (mkF m 14 #[.val (.ref a0_), .val (.int 1), .val (.ref ie_), .val .null, .val (.ref ip_), .val (.int 1), .val (.int 1)] [(.ref a0_), (.int 1)])) (fun target kt => ?_) ?_
  · refine XS.iinc X28.here hx rfl (hb hby d7_49) rfl (l' := #[.val (.ref a0_), .val (.int 1), .val (.ref ie_), .val .null, .val (.ref ip_), .val (.int 1), .val (.int 1)]) rfl ?_
    refine XS.goto X28.here hx rfl (pc0 := 52) (pc' := 11) rfl (hb hby d7_52) (by decide) (by decide) ?_
    refine XS.iload X28.here hx rfl (hb hby d7_11) rfl ?_
    refine XS.aloadN X28.here hx rfl (hb hby d7_13) rfl rfl ?_
    exact kt
  have c32 := F_count.keep K30 (ninS (Ne.symm ne19) (ninS (Ne.symm ne18) nin0))
  obtain ⟨T33, X33, e33, st33⟩ := getF X28 hx hZ hown (host := "") (Or.inl (hw _ tw29)) Via.refl e28 c32 (g := (mkF m 14 #[.val (.ref a0_), .val (.int 1), .val (.ref ie_), .val .null, .val (.ref ip_), .val (.int 1), .val (.int 1)] [(.ref a0_), (.int 1)])) rfl rfl (hb hby d7_14)
  refine Go.st st33 ?_
  refine Go.st (t' := T33.setTop (mkF m 91 #[.val (.ref a0_), .val (.int 1), .val (.ref ie_), .val .null, .val (.ref ip_), .val (.int 1), .val (.int 1)] [])) (fun target kt => ?_) ?_
  · refine XS.icmpYes X33.here hx rfl (pc0 := 17) (pc' := 55) rfl (hb hby d7_17) rfl (flt (by decide : ¬ ((1 : Int32) < (1 : Int32)))).2.1 (by decide) (by decide) ?_
    refine XS.aloadN X33.here hx rfl (hb hby d7_55) rfl rfl ?_
    refine XS.ifnullYes X33.here hx rfl (pc0 := 56) (pc' := 91) rfl (hb hby d7_56) rfl (by decide) (by decide) ?_
    exact kt
  have c34 := V15.other W28 ne26
  refine Go.ret X33 (v := none) (fun _ => rfl) hlk (fun fs hr => X33.returnOut hx hret (hb hby d7_91) hr) ?_ (by decide) (by decide)
  show Q7_1_1 Z a0_ ie_ ip_ x_entries x_blocks x_parts k_entries k_blocks k_parts ke_ kp_ e0_ e1_ c0_ d0_ d1_ h0 n0 _ T33.heap _
  rw [e33]
  exact ⟨rfl, N28, K30, c34, V29⟩
theorem ef7_2_0 (m : MethodId) (x0 : Addr) (x2 : Addr) (x3 : Addr) (x4 : Addr) : entryFrame m #[(.ref x0), (.int 0), (.ref x2), (.ref x3), (.ref x4)] 7 = mkF m 0 #[.val (.ref x0), .val (.int 0), .val (.ref x2), .val (.ref x3), .val (.ref x4), .unset, .unset] [] := by first | (simp [entryFrame, mkF, argsToLocals, Value.category]; done) | rfl
def Q7_2_0 (Z : State) (a0_ : Addr) (ie_ : Addr) (ib_ : Addr) (ip_ : Addr) (x_entries : Addr) (x_blocks : Addr) (x_parts : Addr) (k_entries : ClassId) (k_blocks : ClassId) (k_parts : ClassId) (ke_ : ClassId) (kp_ : ClassId) (kb_ : ClassId) (e0_ : Int32) (e1_ : Int32) (e2_ : Int32) (e3_ : Int32) (c0_ : Int32) (c1_ : Int32) (d0_ : UInt64) (d1_ : UInt64) (d2_ : UInt64) (d3_ : UInt64) (h0 : Heap) (n0 : Nat) (v : Option Value) (h : Heap) (L : List Loc) : Prop := v = none ∧ Fr n0 L ∧ Keep h0 h [ie_, ib_, ip_] ∧ Arv Z h ie_ ke_ .int (2 : Int32) [(.int e0_), (.int e1_)] (.int 0) ∧ Arv Z h ib_ kb_ .int (2 : Int32) [(.int c0_), (.int c1_)] (.int 0) ∧ Arv Z h ip_ kp_ .double (2 : Int32) [(.double d0_), (.double d1_)] (.double (FP.l2d 0))
theorem rm7_2_0 (l : Launch) (Z : State) (a0 : Array Value) (hw : ∀ d ∈ tables_1, d.before a0 Z = true) (ws : List Jvm.Cond) (a0_ : Addr) (ie_ : Addr) (ib_ : Addr) (ip_ : Addr) (x_entries : Addr) (x_blocks : Addr) (x_parts : Addr) (k_entries : ClassId) (k_blocks : ClassId) (k_parts : ClassId) (ke_ : ClassId) (kp_ : ClassId) (kb_ : ClassId) (e0_ : Int32) (e1_ : Int32) (e2_ : Int32) (e3_ : Int32) (c0_ : Int32) (c1_ : Int32) (d0_ : UInt64) (d1_ : UInt64) (d2_ : UInt64) (d3_ : UInt64) (h0 : Heap) (n0 : Nat) (Z0 : n0 ≤ h0.size) (O0 : Old Z n0 h0) (E0 : Exa Z h0 a0_ sq0) (F_count : Fld Z h0 a0_ sq0 "count" "I" (.int 2)) (F_entries : Fld Z h0 a0_ sq0 "entries" "[I" (.ref x_entries)) (F_blocks : Fld Z h0 a0_ sq0 "blocks" "[I" (.ref x_blocks)) (F_parts : Fld Z h0 a0_ sq0 "parts" "[D" (.ref x_parts)) (V_entries : Arv Z h0 x_entries k_entries .int (32 : Int32) [(.int e0_), (.int e1_), (.int e2_), (.int e3_)] (.int 0)) (V_blocks : Arv Z h0 x_blocks k_blocks .int (32 : Int32) [(.int c0_), (.int c1_), (.int 0), (.int 0)] (.int 0)) (V_parts : Arv Z h0 x_parts k_parts .double (32 : Int32) [(.double d0_), (.double d1_), (.double d2_), (.double d3_)] (.double (FP.l2d 0))) (V_ie : Arv Z h0 ie_ ke_ .int (2 : Int32) [(.int 7), (.int 7)] (.int 0)) (V_ib : Arv Z h0 ib_ kb_ .int (2 : Int32) [(.int 7), (.int 7)] (.int 0)) (V_ip : Arv Z h0 ip_ kp_ .double (2 : Int32) [(.double (4602678819172646912 : UInt64)), (.double (4602678819172646912 : UInt64))] (.double (FP.l2d 0))) (g_ie_ : n0 ≤ ie_) (g_ib_ : n0 ≤ ib_) (g_ip_ : n0 ≤ ip_) (o_ie__ib_ : ie_ < ib_) (o_ib__ip_ : ib_ < ip_) (o_ip__a0_ : ip_ < a0_) (o_a0__x_entries : a0_ < x_entries) (o_x_entries_x_blocks : x_entries < x_blocks) (o_x_blocks_x_parts : x_blocks < x_parts) :
    Met l Z ws (⟨sq0, "copy", "(I[I[I[D)V"⟩ : MethodName) prog_63_method_9_code 7 none (Rm 0 0 0 0) #[(.ref a0_), (.int 0), (.ref ie_), (.ref ib_), (.ref ip_)] h0 (Q7_2_0 Z a0_ ie_ ib_ ip_ x_entries x_blocks x_parts k_entries k_blocks k_parts ke_ kp_ kb_ e0_ e1_ e2_ e3_ c0_ c1_ d0_ d1_ d2_ d3_ h0 n0) := by
  refine Met.enter (L0 := #[.val (.ref a0_), .val (.int 0), .val (.ref ie_), .val (.ref ib_), .val (.ref ip_), .unset, .unset]) (plainFor_of_name pn56) (fun m => ef7_2_0 m a0_ ie_ ib_ ip_) ?_
  intro p e s m below meth c s₁ hx hby hml hown hnm hret hlk hZ X0 e0
  have N0 := Fr.nil n0
  have K0 : Keep h0 h0 [ie_, ib_, ip_] := Keep.refl h0 _
  refine Go.st (t' := s₁.setTop (mkF m 2 #[.val (.ref a0_), .val (.int 0), .val (.ref ie_), .val (.ref ib_), .val (.ref ip_), .unset, .unset] [(.ref a0_), (.int 0)])) (fun target kt => ?_) ?_
  · refine XS.iloadN X0.here hx rfl (hb hby d7_0) rfl ?_
    refine XS.aloadN X0.here hx rfl (hb hby d7_1) rfl rfl ?_
    exact kt
  obtain ⟨T10, X10, e10, st10⟩ := getF X0 hx hZ hown (host := "") (Or.inl (hw _ tw29)) Via.refl e0 F_count (g := (mkF m 2 #[.val (.ref a0_), .val (.int 0), .val (.ref ie_), .val (.ref ib_), .val (.ref ip_), .unset, .unset] [(.ref a0_), (.int 0)])) rfl rfl (hb hby d7_2)
  refine Go.st st10 ?_
  refine Go.st (t' := T10.setTop (mkF m 14 #[.val (.ref a0_), .val (.int 0), .val (.ref ie_), .val (.ref ib_), .val (.ref ip_), .val (.int 0), .val (.int 0)] [(.ref a0_), (.int 0)])) (fun target kt => ?_) ?_
  · refine XS.imul X10.here hx rfl (hb hby d7_5) rfl ?_
    refine XS.istore X10.here hx rfl (hb hby d7_6) rfl (l' := #[.val (.ref a0_), .val (.int 0), .val (.ref ie_), .val (.ref ib_), .val (.ref ip_), .val (.int 0), .unset]) rfl ?_
    refine XS.iconst X10.here hx rfl (hb hby d7_8) ?_
    refine XS.istore X10.here hx rfl (hb hby d7_9) rfl (l' := #[.val (.ref a0_), .val (.int 0), .val (.ref ie_), .val (.ref ib_), .val (.ref ip_), .val (.int 0), .val (.int 0)]) rfl ?_
    refine XS.iload X10.here hx rfl (hb hby d7_11) rfl ?_
    refine XS.aloadN X10.here hx rfl (hb hby d7_13) rfl rfl ?_
    exact kt
  obtain ⟨T11, X11, e11, st11⟩ := getF X10 hx hZ hown (host := "") (Or.inl (hw _ tw29)) Via.refl e10 F_count (g := (mkF m 14 #[.val (.ref a0_), .val (.int 0), .val (.ref ie_), .val (.ref ib_), .val (.ref ip_), .val (.int 0), .val (.int 0)] [(.ref a0_), (.int 0)])) rfl rfl (hb hby d7_14)
  refine Go.st st11 ?_
  refine Go.st (t' := T11.setTop (mkF m 24 #[.val (.ref a0_), .val (.int 0), .val (.ref ie_), .val (.ref ib_), .val (.ref ip_), .val (.int 0), .val (.int 0)] [(.ref a0_), (.int 0), (.ref ie_)])) (fun target kt => ?_) ?_
  · refine XS.icmpNo X11.here hx rfl (hb hby d7_17) rfl (tlt (by decide : (0 : Int32) < (2 : Int32))).2.1 ?_
    refine XS.aloadN X11.here hx rfl (hb hby d7_20) rfl rfl ?_
    refine XS.iload X11.here hx rfl (hb hby d7_21) rfl ?_
    refine XS.aloadN X11.here hx rfl (hb hby d7_23) rfl rfl ?_
    exact kt
  obtain ⟨T12, X12, e12, st12⟩ := getF X11 hx hZ hown (host := "") (Or.inl (hw _ tw31)) Via.refl e11 F_entries (g := (mkF m 24 #[.val (.ref a0_), .val (.int 0), .val (.ref ie_), .val (.ref ib_), .val (.ref ip_), .val (.int 0), .val (.int 0)] [(.ref a0_), (.int 0), (.ref ie_)])) rfl rfl (hb hby d7_24)
  refine Go.st st12 ?_
  obtain ⟨cl13, Ar13, -, S13, M13, H13, -⟩ := id V_entries
  have hin13 : ¬ ((0 : Int32) < 0 ∨ cl13.slots.size ≤ ((0 : Int32)).toNatClampNeg) := inb_of S13 ⟨by decide, by decide⟩
  have hat13 : cl13.slots[((0 : Int32)).toNatClampNeg]? = some (.int e0_) := H13.at hin13 rfl
  refine Go.st (t' := T12.setTop (mkF m 33 #[.val (.ref a0_), .val (.int 0), .val (.ref ie_), .val (.ref ib_), .val (.ref ip_), .val (.int 0), .val (.int 0)] [(.int e0_), (.int 0), (.ref ie_)])) (fun target kt => ?_) ?_
  · refine XS.iload X12.here hx rfl (hb hby d7_27) rfl ?_
    refine XS.iload X12.here hx rfl (hb hby d7_29) rfl ?_
    refine XS.iadd X12.here hx rfl (hb hby d7_31) rfl ?_
    refine X12.iaload hx (j := (0 : Int32)) (v := (.int e0_)) (by rw [e12]; exact Ar13.1) (State.isArrayOf_alike hZ.alike Ar13.2.1) Ar13.2.2 hin13 hat13 (g := (mkF m 32 #[.val (.ref a0_), .val (.int 0), .val (.ref ie_), .val (.ref ib_), .val (.ref ip_), .val (.int 0), .val (.int 0)] [(.int 0), (.ref x_entries), (.int 0), (.ref ie_)])) rfl rfl (hb hby d7_32) _ ?_
    exact kt
  obtain ⟨cl14, Ar14, q14, S14, M14, H14, G14⟩ := id V_ie
  have hin14 : ¬ ((0 : Int32) < 0 ∨ cl14.slots.size ≤ ((0 : Int32)).toNatClampNeg) := inb_of S14 ⟨by decide, by decide⟩
  obtain ⟨T14, h14, X14, e14, W14, st14⟩ := stI X12 hx hZ e12 Ar14 (j := (0 : Int32)) hin14 (g := (mkF m 33 #[.val (.ref a0_), .val (.int 0), .val (.ref ie_), .val (.ref ib_), .val (.ref ip_), .val (.int 0), .val (.int 0)] [(.int e0_), (.int 0), (.ref ie_)])) rfl rfl (hb hby d7_33)
  have V15 : Arv Z h14 ie_ ke_ .int (2 : Int32) [(.int e0_), (.int 7)] (.int 0) := Arv.set Ar14 q14 S14 M14 H14 G14 rfl W14 0 rfl (Nat.le_of_ble_eq_true rfl)
  have K16 := K0.wr W14 (Or.inl mI0)
  have O17 := O0.wr W14 g_ie_
  have N14 := Fr.snoc X14 N0 g_ie_
  refine Go.st st14 ?_
  refine Go.st (t' := T14.setTop (mkF m 39 #[.val (.ref a0_), .val (.int 0), .val (.ref ie_), .val (.ref ib_), .val (.ref ip_), .val (.int 0), .val (.int 0)] [(.ref a0_), (.int 0), (.ref ip_)])) (fun target kt => ?_) ?_
  · refine XS.aload X14.here hx rfl (hb hby d7_34) rfl rfl ?_
    refine XS.iload X14.here hx rfl (hb hby d7_36) rfl ?_
    refine XS.aloadN X14.here hx rfl (hb hby d7_38) rfl rfl ?_
    exact kt
  have ne18 : ip_ ≠ a0_ := Nat.ne_of_lt o_ip__a0_
  have ne19 : ib_ ≠ a0_ := Nat.ne_of_lt (Nat.lt_trans o_ib__ip_ o_ip__a0_)
  have ne20 : ie_ ≠ a0_ := Nat.ne_of_lt (Nat.lt_trans (Nat.lt_trans o_ie__ib_ o_ib__ip_) o_ip__a0_)
  have c21 := F_parts.keep K16 (ninS (Ne.symm ne20) (ninS (Ne.symm ne19) (ninS (Ne.symm ne18) nin0)))
  obtain ⟨T22, X22, e22, st22⟩ := getF X14 hx hZ hown (host := "") (Or.inl (hw _ tw35)) Via.refl e14 c21 (g := (mkF m 39 #[.val (.ref a0_), .val (.int 0), .val (.ref ie_), .val (.ref ib_), .val (.ref ip_), .val (.int 0), .val (.int 0)] [(.ref a0_), (.int 0), (.ref ip_)])) rfl rfl (hb hby d7_39)
  refine Go.st st22 ?_
  have ne23 : ip_ ≠ x_parts := Nat.ne_of_lt (Nat.lt_trans (Nat.lt_trans (Nat.lt_trans o_ip__a0_ o_a0__x_entries) o_x_entries_x_blocks) o_x_blocks_x_parts)
  have ne24 : ib_ ≠ x_parts := Nat.ne_of_lt (Nat.lt_trans (Nat.lt_trans (Nat.lt_trans (Nat.lt_trans o_ib__ip_ o_ip__a0_) o_a0__x_entries) o_x_entries_x_blocks) o_x_blocks_x_parts)
  have ne25 : ie_ ≠ x_parts := Nat.ne_of_lt (Nat.lt_trans (Nat.lt_trans (Nat.lt_trans (Nat.lt_trans (Nat.lt_trans o_ie__ib_ o_ib__ip_) o_ip__a0_) o_a0__x_entries) o_x_entries_x_blocks) o_x_blocks_x_parts)
  have c26 := V_parts.keep K16 (ninS (Ne.symm ne25) (ninS (Ne.symm ne24) (ninS (Ne.symm ne23) nin0)))
  obtain ⟨cl27, Ar27, -, S27, M27, H27, -⟩ := id c26
  have hin27 : ¬ ((0 : Int32) < 0 ∨ cl27.slots.size ≤ ((0 : Int32)).toNatClampNeg) := inb_of S27 ⟨by decide, by decide⟩
  have hat27 : cl27.slots[((0 : Int32)).toNatClampNeg]? = some (.double d0_) := H27.at hin27 rfl
  refine Go.st (t' := T22.setTop (mkF m 48 #[.val (.ref a0_), .val (.int 0), .val (.ref ie_), .val (.ref ib_), .val (.ref ip_), .val (.int 0), .val (.int 0)] [(.double d0_), (.int 0), (.ref ip_)])) (fun target kt => ?_) ?_
  · refine XS.iload X22.here hx rfl (hb hby d7_42) rfl ?_
    refine XS.iload X22.here hx rfl (hb hby d7_44) rfl ?_
    refine XS.iadd X22.here hx rfl (hb hby d7_46) rfl ?_
    refine X22.daload hx (j := (0 : Int32)) (v := (.double d0_)) (by rw [e22]; exact Ar27.1) (State.isArrayOf_alike hZ.alike Ar27.2.1) Ar27.2.2 hin27 hat27 (g := (mkF m 47 #[.val (.ref a0_), .val (.int 0), .val (.ref ie_), .val (.ref ib_), .val (.ref ip_), .val (.int 0), .val (.int 0)] [(.int 0), (.ref x_parts), (.int 0), (.ref ip_)])) rfl rfl (hb hby d7_47) _ ?_
    exact kt
  have ne28 : ie_ ≠ ip_ := Nat.ne_of_lt (Nat.lt_trans o_ie__ib_ o_ib__ip_)
  have c29 := V_ip.other W14 (Ne.symm ne28)
  obtain ⟨cl30, Ar30, q30, S30, M30, H30, G30⟩ := id c29
  have hin30 : ¬ ((0 : Int32) < 0 ∨ cl30.slots.size ≤ ((0 : Int32)).toNatClampNeg) := inb_of S30 ⟨by decide, by decide⟩
  obtain ⟨T30, h30, X30, e30, W30, st30⟩ := stD X22 hx hZ e22 Ar30 (j := (0 : Int32)) hin30 (g := (mkF m 48 #[.val (.ref a0_), .val (.int 0), .val (.ref ie_), .val (.ref ib_), .val (.ref ip_), .val (.int 0), .val (.int 0)] [(.double d0_), (.int 0), (.ref ip_)])) rfl rfl (hb hby d7_48)
  have V31 : Arv Z h30 ip_ kp_ .double (2 : Int32) [(.double d0_), (.double (4602678819172646912 : UInt64))] (.double (FP.l2d 0)) := Arv.set Ar30 q30 S30 M30 H30 G30 rfl W30 0 rfl (Nat.le_of_ble_eq_true rfl)
  have K32 := K16.wr W30 (Or.inl mI2)
  have O33 := O17.wr W30 g_ip_
  have N30 := Fr.snoc X30 N14 g_ip_
  refine Go.st st30 ?_
  refine Go.st (t' := T30.setTop (mkF m 14 #[.val (.ref a0_), .val (.int 0), .val (.ref ie_), .val (.ref ib_), .val (.ref ip_), .val (.int 0), .val (.int 1)] [(.ref a0_), (.int 1)])) (fun target kt => ?_) ?_
  · refine XS.iinc X30.here hx rfl (hb hby d7_49) rfl (l' := #[.val (.ref a0_), .val (.int 0), .val (.ref ie_), .val (.ref ib_), .val (.ref ip_), .val (.int 0), .val (.int 1)]) rfl ?_
    refine XS.goto X30.here hx rfl (pc0 := 52) (pc' := 11) rfl (hb hby d7_52) (by decide) (by decide) ?_
    refine XS.iload X30.here hx rfl (hb hby d7_11) rfl ?_
    refine XS.aloadN X30.here hx rfl (hb hby d7_13) rfl rfl ?_
    exact kt
  have c34 := F_count.keep K32 (ninS (Ne.symm ne20) (ninS (Ne.symm ne19) (ninS (Ne.symm ne18) nin0)))
  obtain ⟨T35, X35, e35, st35⟩ := getF X30 hx hZ hown (host := "") (Or.inl (hw _ tw29)) Via.refl e30 c34 (g := (mkF m 14 #[.val (.ref a0_), .val (.int 0), .val (.ref ie_), .val (.ref ib_), .val (.ref ip_), .val (.int 0), .val (.int 1)] [(.ref a0_), (.int 1)])) rfl rfl (hb hby d7_14)
  refine Go.st st35 ?_
  refine Go.st (t' := T35.setTop (mkF m 24 #[.val (.ref a0_), .val (.int 0), .val (.ref ie_), .val (.ref ib_), .val (.ref ip_), .val (.int 0), .val (.int 1)] [(.ref a0_), (.int 1), (.ref ie_)])) (fun target kt => ?_) ?_
  · refine XS.icmpNo X35.here hx rfl (hb hby d7_17) rfl (tlt (by decide : (1 : Int32) < (2 : Int32))).2.1 ?_
    refine XS.aloadN X35.here hx rfl (hb hby d7_20) rfl rfl ?_
    refine XS.iload X35.here hx rfl (hb hby d7_21) rfl ?_
    refine XS.aloadN X35.here hx rfl (hb hby d7_23) rfl rfl ?_
    exact kt
  have c36 := F_entries.keep K32 (ninS (Ne.symm ne20) (ninS (Ne.symm ne19) (ninS (Ne.symm ne18) nin0)))
  obtain ⟨T37, X37, e37, st37⟩ := getF X35 hx hZ hown (host := "") (Or.inl (hw _ tw31)) Via.refl e35 c36 (g := (mkF m 24 #[.val (.ref a0_), .val (.int 0), .val (.ref ie_), .val (.ref ib_), .val (.ref ip_), .val (.int 0), .val (.int 1)] [(.ref a0_), (.int 1), (.ref ie_)])) rfl rfl (hb hby d7_24)
  refine Go.st st37 ?_
  have ne38 : ip_ ≠ x_entries := Nat.ne_of_lt (Nat.lt_trans o_ip__a0_ o_a0__x_entries)
  have ne39 : ib_ ≠ x_entries := Nat.ne_of_lt (Nat.lt_trans (Nat.lt_trans o_ib__ip_ o_ip__a0_) o_a0__x_entries)
  have ne40 : ie_ ≠ x_entries := Nat.ne_of_lt (Nat.lt_trans (Nat.lt_trans (Nat.lt_trans o_ie__ib_ o_ib__ip_) o_ip__a0_) o_a0__x_entries)
  have c41 := V_entries.keep K32 (ninS (Ne.symm ne40) (ninS (Ne.symm ne39) (ninS (Ne.symm ne38) nin0)))
  obtain ⟨cl42, Ar42, -, S42, M42, H42, -⟩ := id c41
  have hin42 : ¬ ((1 : Int32) < 0 ∨ cl42.slots.size ≤ ((1 : Int32)).toNatClampNeg) := inb_of S42 ⟨by decide, by decide⟩
  have hat42 : cl42.slots[((1 : Int32)).toNatClampNeg]? = some (.int e1_) := H42.at hin42 rfl
  refine Go.st (t' := T37.setTop (mkF m 33 #[.val (.ref a0_), .val (.int 0), .val (.ref ie_), .val (.ref ib_), .val (.ref ip_), .val (.int 0), .val (.int 1)] [(.int e1_), (.int 1), (.ref ie_)])) (fun target kt => ?_) ?_
  · refine XS.iload X37.here hx rfl (hb hby d7_27) rfl ?_
    refine XS.iload X37.here hx rfl (hb hby d7_29) rfl ?_
    refine XS.iadd X37.here hx rfl (hb hby d7_31) rfl ?_
    refine X37.iaload hx (j := (1 : Int32)) (v := (.int e1_)) (by rw [e37]; exact Ar42.1) (State.isArrayOf_alike hZ.alike Ar42.2.1) Ar42.2.2 hin42 hat42 (g := (mkF m 32 #[.val (.ref a0_), .val (.int 0), .val (.ref ie_), .val (.ref ib_), .val (.ref ip_), .val (.int 0), .val (.int 1)] [(.int 1), (.ref x_entries), (.int 1), (.ref ie_)])) rfl rfl (hb hby d7_32) _ ?_
    exact kt
  have c43 := V15.other W30 ne28
  obtain ⟨cl44, Ar44, q44, S44, M44, H44, G44⟩ := id c43
  have hin44 : ¬ ((1 : Int32) < 0 ∨ cl44.slots.size ≤ ((1 : Int32)).toNatClampNeg) := inb_of S44 ⟨by decide, by decide⟩
  obtain ⟨T44, h44, X44, e44, W44, st44⟩ := stI X37 hx hZ e37 Ar44 (j := (1 : Int32)) hin44 (g := (mkF m 33 #[.val (.ref a0_), .val (.int 0), .val (.ref ie_), .val (.ref ib_), .val (.ref ip_), .val (.int 0), .val (.int 1)] [(.int e1_), (.int 1), (.ref ie_)])) rfl rfl (hb hby d7_33)
  have V45 : Arv Z h44 ie_ ke_ .int (2 : Int32) [(.int e0_), (.int e1_)] (.int 0) := Arv.set Ar44 q44 S44 M44 H44 G44 rfl W44 1 rfl (Nat.le_of_ble_eq_true rfl)
  have K46 := K32.wr W44 (Or.inl mI0)
  have O47 := O33.wr W44 g_ie_
  have N44 := Fr.snoc X44 N30 g_ie_
  refine Go.st st44 ?_
  refine Go.st (t' := T44.setTop (mkF m 39 #[.val (.ref a0_), .val (.int 0), .val (.ref ie_), .val (.ref ib_), .val (.ref ip_), .val (.int 0), .val (.int 1)] [(.ref a0_), (.int 1), (.ref ip_)])) (fun target kt => ?_) ?_
  · refine XS.aload X44.here hx rfl (hb hby d7_34) rfl rfl ?_
    refine XS.iload X44.here hx rfl (hb hby d7_36) rfl ?_
    refine XS.aloadN X44.here hx rfl (hb hby d7_38) rfl rfl ?_
    exact kt
  have S_48 : Keep h14 h44 [ip_, ie_] := (((Keep.refl h14 [ip_, ie_]).wr W30 (Or.inl mI0)).wr W44 (Or.inl mI1))
  have c49 := c21.keep S_48 (ninS (Ne.symm ne18) (ninS (Ne.symm ne20) nin0))
  obtain ⟨T50, X50, e50, st50⟩ := getF X44 hx hZ hown (host := "") (Or.inl (hw _ tw35)) Via.refl e44 c49 (g := (mkF m 39 #[.val (.ref a0_), .val (.int 0), .val (.ref ie_), .val (.ref ib_), .val (.ref ip_), .val (.int 0), .val (.int 1)] [(.ref a0_), (.int 1), (.ref ip_)])) rfl rfl (hb hby d7_39)
  refine Go.st st50 ?_
  have c51 := c26.keep S_48 (ninS (Ne.symm ne23) (ninS (Ne.symm ne25) nin0))
  obtain ⟨cl52, Ar52, -, S52, M52, H52, -⟩ := id c51
  have hin52 : ¬ ((1 : Int32) < 0 ∨ cl52.slots.size ≤ ((1 : Int32)).toNatClampNeg) := inb_of S52 ⟨by decide, by decide⟩
  have hat52 : cl52.slots[((1 : Int32)).toNatClampNeg]? = some (.double d1_) := H52.at hin52 rfl
  refine Go.st (t' := T50.setTop (mkF m 48 #[.val (.ref a0_), .val (.int 0), .val (.ref ie_), .val (.ref ib_), .val (.ref ip_), .val (.int 0), .val (.int 1)] [(.double d1_), (.int 1), (.ref ip_)])) (fun target kt => ?_) ?_
  · refine XS.iload X50.here hx rfl (hb hby d7_42) rfl ?_
    refine XS.iload X50.here hx rfl (hb hby d7_44) rfl ?_
    refine XS.iadd X50.here hx rfl (hb hby d7_46) rfl ?_
    refine X50.daload hx (j := (1 : Int32)) (v := (.double d1_)) (by rw [e50]; exact Ar52.1) (State.isArrayOf_alike hZ.alike Ar52.2.1) Ar52.2.2 hin52 hat52 (g := (mkF m 47 #[.val (.ref a0_), .val (.int 0), .val (.ref ie_), .val (.ref ib_), .val (.ref ip_), .val (.int 0), .val (.int 1)] [(.int 1), (.ref x_parts), (.int 1), (.ref ip_)])) rfl rfl (hb hby d7_47) _ ?_
    exact kt
  have c53 := V31.other W44 (Ne.symm ne28)
  obtain ⟨cl54, Ar54, q54, S54, M54, H54, G54⟩ := id c53
  have hin54 : ¬ ((1 : Int32) < 0 ∨ cl54.slots.size ≤ ((1 : Int32)).toNatClampNeg) := inb_of S54 ⟨by decide, by decide⟩
  obtain ⟨T54, h54, X54, e54, W54, st54⟩ := stD X50 hx hZ e50 Ar54 (j := (1 : Int32)) hin54 (g := (mkF m 48 #[.val (.ref a0_), .val (.int 0), .val (.ref ie_), .val (.ref ib_), .val (.ref ip_), .val (.int 0), .val (.int 1)] [(.double d1_), (.int 1), (.ref ip_)])) rfl rfl (hb hby d7_48)
  have V55 : Arv Z h54 ip_ kp_ .double (2 : Int32) [(.double d0_), (.double d1_)] (.double (FP.l2d 0)) := Arv.set Ar54 q54 S54 M54 H54 G54 rfl W54 1 rfl (Nat.le_of_ble_eq_true rfl)
  have K56 := K46.wr W54 (Or.inl mI2)
  have O57 := O47.wr W54 g_ip_
  have N54 := Fr.snoc X54 N44 g_ip_
  refine Go.st st54 ?_
  refine Go.st (t' := T54.setTop (mkF m 14 #[.val (.ref a0_), .val (.int 0), .val (.ref ie_), .val (.ref ib_), .val (.ref ip_), .val (.int 0), .val (.int 2)] [(.ref a0_), (.int 2)])) (fun target kt => ?_) ?_
  · refine XS.iinc X54.here hx rfl (hb hby d7_49) rfl (l' := #[.val (.ref a0_), .val (.int 0), .val (.ref ie_), .val (.ref ib_), .val (.ref ip_), .val (.int 0), .val (.int 2)]) rfl ?_
    refine XS.goto X54.here hx rfl (pc0 := 52) (pc' := 11) rfl (hb hby d7_52) (by decide) (by decide) ?_
    refine XS.iload X54.here hx rfl (hb hby d7_11) rfl ?_
    refine XS.aloadN X54.here hx rfl (hb hby d7_13) rfl rfl ?_
    exact kt
  have S_58 : Keep h30 h54 [ie_, ip_] := (((Keep.refl h30 [ie_, ip_]).wr W44 (Or.inl mI0)).wr W54 (Or.inl mI1))
  have c59 := c34.keep S_58 (ninS (Ne.symm ne20) (ninS (Ne.symm ne18) nin0))
  obtain ⟨T60, X60, e60, st60⟩ := getF X54 hx hZ hown (host := "") (Or.inl (hw _ tw29)) Via.refl e54 c59 (g := (mkF m 14 #[.val (.ref a0_), .val (.int 0), .val (.ref ie_), .val (.ref ib_), .val (.ref ip_), .val (.int 0), .val (.int 2)] [(.ref a0_), (.int 2)])) rfl rfl (hb hby d7_14)
  refine Go.st st60 ?_
  refine Go.st (t' := T60.setTop (mkF m 65 #[.val (.ref a0_), .val (.int 0), .val (.ref ie_), .val (.ref ib_), .val (.ref ip_), .val (.int 0), .val (.int 0)] [(.ref a0_), (.int 0)])) (fun target kt => ?_) ?_
  · refine XS.icmpYes X60.here hx rfl (pc0 := 17) (pc' := 55) rfl (hb hby d7_17) rfl (flt (by decide : ¬ ((2 : Int32) < (2 : Int32)))).2.1 (by decide) (by decide) ?_
    refine XS.aloadN X60.here hx rfl (hb hby d7_55) rfl rfl ?_
    refine XS.ifnullNo X60.here hx rfl (hb hby d7_56) rfl ?_
    refine XS.iconst X60.here hx rfl (hb hby d7_59) ?_
    refine XS.istore X60.here hx rfl (hb hby d7_60) rfl (l' := #[.val (.ref a0_), .val (.int 0), .val (.ref ie_), .val (.ref ib_), .val (.ref ip_), .val (.int 0), .val (.int 0)]) rfl ?_
    refine XS.iload X60.here hx rfl (hb hby d7_62) rfl ?_
    refine XS.aloadN X60.here hx rfl (hb hby d7_64) rfl rfl ?_
    exact kt
  obtain ⟨T61, X61, e61, st61⟩ := getF X60 hx hZ hown (host := "") (Or.inl (hw _ tw29)) Via.refl e60 c59 (g := (mkF m 65 #[.val (.ref a0_), .val (.int 0), .val (.ref ie_), .val (.ref ib_), .val (.ref ip_), .val (.int 0), .val (.int 0)] [(.ref a0_), (.int 0)])) rfl rfl (hb hby d7_65)
  refine Go.st st61 ?_
  refine Go.st (t' := T61.setTop (mkF m 75 #[.val (.ref a0_), .val (.int 0), .val (.ref ie_), .val (.ref ib_), .val (.ref ip_), .val (.int 0), .val (.int 0)] [(.ref a0_), (.int 0), (.ref ib_)])) (fun target kt => ?_) ?_
  · refine XS.icmpNo X61.here hx rfl (hb hby d7_68) rfl (tlt (by decide : (0 : Int32) < (2 : Int32))).2.1 ?_
    refine XS.aloadN X61.here hx rfl (hb hby d7_71) rfl rfl ?_
    refine XS.iload X61.here hx rfl (hb hby d7_72) rfl ?_
    refine XS.aloadN X61.here hx rfl (hb hby d7_74) rfl rfl ?_
    exact kt
  have c62 := F_blocks.keep K56 (ninS (Ne.symm ne20) (ninS (Ne.symm ne19) (ninS (Ne.symm ne18) nin0)))
  obtain ⟨T63, X63, e63, st63⟩ := getF X61 hx hZ hown (host := "") (Or.inl (hw _ tw33)) Via.refl e61 c62 (g := (mkF m 75 #[.val (.ref a0_), .val (.int 0), .val (.ref ie_), .val (.ref ib_), .val (.ref ip_), .val (.int 0), .val (.int 0)] [(.ref a0_), (.int 0), (.ref ib_)])) rfl rfl (hb hby d7_75)
  refine Go.st st63 ?_
  have ne64 : ip_ ≠ x_blocks := Nat.ne_of_lt (Nat.lt_trans (Nat.lt_trans o_ip__a0_ o_a0__x_entries) o_x_entries_x_blocks)
  have ne65 : ib_ ≠ x_blocks := Nat.ne_of_lt (Nat.lt_trans (Nat.lt_trans (Nat.lt_trans o_ib__ip_ o_ip__a0_) o_a0__x_entries) o_x_entries_x_blocks)
  have ne66 : ie_ ≠ x_blocks := Nat.ne_of_lt (Nat.lt_trans (Nat.lt_trans (Nat.lt_trans (Nat.lt_trans o_ie__ib_ o_ib__ip_) o_ip__a0_) o_a0__x_entries) o_x_entries_x_blocks)
  have c67 := V_blocks.keep K56 (ninS (Ne.symm ne66) (ninS (Ne.symm ne65) (ninS (Ne.symm ne64) nin0)))
  obtain ⟨cl68, Ar68, -, S68, M68, H68, -⟩ := id c67
  have hin68 : ¬ ((0 : Int32) < 0 ∨ cl68.slots.size ≤ ((0 : Int32)).toNatClampNeg) := inb_of S68 ⟨by decide, by decide⟩
  have hat68 : cl68.slots[((0 : Int32)).toNatClampNeg]? = some (.int c0_) := H68.at hin68 rfl
  refine Go.st (t' := T63.setTop (mkF m 84 #[.val (.ref a0_), .val (.int 0), .val (.ref ie_), .val (.ref ib_), .val (.ref ip_), .val (.int 0), .val (.int 0)] [(.int c0_), (.int 0), (.ref ib_)])) (fun target kt => ?_) ?_
  · refine XS.iload X63.here hx rfl (hb hby d7_78) rfl ?_
    refine XS.iload X63.here hx rfl (hb hby d7_80) rfl ?_
    refine XS.iadd X63.here hx rfl (hb hby d7_82) rfl ?_
    refine X63.iaload hx (j := (0 : Int32)) (v := (.int c0_)) (by rw [e63]; exact Ar68.1) (State.isArrayOf_alike hZ.alike Ar68.2.1) Ar68.2.2 hin68 hat68 (g := (mkF m 83 #[.val (.ref a0_), .val (.int 0), .val (.ref ie_), .val (.ref ib_), .val (.ref ip_), .val (.int 0), .val (.int 0)] [(.int 0), (.ref x_blocks), (.int 0), (.ref ib_)])) rfl rfl (hb hby d7_83) _ ?_
    exact kt
  have ne69 : ie_ ≠ ib_ := Nat.ne_of_lt o_ie__ib_
  have ne70 : ib_ ≠ ip_ := Nat.ne_of_lt o_ib__ip_
  have c71 := (((V_ib.other W14 (Ne.symm ne69)).other W30 ne70).other W44 (Ne.symm ne69)).other W54 ne70
  obtain ⟨cl72, Ar72, q72, S72, M72, H72, G72⟩ := id c71
  have hin72 : ¬ ((0 : Int32) < 0 ∨ cl72.slots.size ≤ ((0 : Int32)).toNatClampNeg) := inb_of S72 ⟨by decide, by decide⟩
  obtain ⟨T72, h72, X72, e72, W72, st72⟩ := stI X63 hx hZ e63 Ar72 (j := (0 : Int32)) hin72 (g := (mkF m 84 #[.val (.ref a0_), .val (.int 0), .val (.ref ie_), .val (.ref ib_), .val (.ref ip_), .val (.int 0), .val (.int 0)] [(.int c0_), (.int 0), (.ref ib_)])) rfl rfl (hb hby d7_84)
  have V73 : Arv Z h72 ib_ kb_ .int (2 : Int32) [(.int c0_), (.int 7)] (.int 0) := Arv.set Ar72 q72 S72 M72 H72 G72 rfl W72 0 rfl (Nat.le_of_ble_eq_true rfl)
  have K74 := K56.wr W72 (Or.inl mI1)
  have O75 := O57.wr W72 g_ib_
  have N72 := Fr.snoc X72 N54 g_ib_
  refine Go.st st72 ?_
  refine Go.st (t' := T72.setTop (mkF m 65 #[.val (.ref a0_), .val (.int 0), .val (.ref ie_), .val (.ref ib_), .val (.ref ip_), .val (.int 0), .val (.int 1)] [(.ref a0_), (.int 1)])) (fun target kt => ?_) ?_
  · refine XS.iinc X72.here hx rfl (hb hby d7_85) rfl (l' := #[.val (.ref a0_), .val (.int 0), .val (.ref ie_), .val (.ref ib_), .val (.ref ip_), .val (.int 0), .val (.int 1)]) rfl ?_
    refine XS.goto X72.here hx rfl (pc0 := 88) (pc' := 62) rfl (hb hby d7_88) (by decide) (by decide) ?_
    refine XS.iload X72.here hx rfl (hb hby d7_62) rfl ?_
    refine XS.aloadN X72.here hx rfl (hb hby d7_64) rfl rfl ?_
    exact kt
  have c76 := c59.other W72 (Or.inl (Ne.symm ne19))
  obtain ⟨T77, X77, e77, st77⟩ := getF X72 hx hZ hown (host := "") (Or.inl (hw _ tw29)) Via.refl e72 c76 (g := (mkF m 65 #[.val (.ref a0_), .val (.int 0), .val (.ref ie_), .val (.ref ib_), .val (.ref ip_), .val (.int 0), .val (.int 1)] [(.ref a0_), (.int 1)])) rfl rfl (hb hby d7_65)
  refine Go.st st77 ?_
  refine Go.st (t' := T77.setTop (mkF m 75 #[.val (.ref a0_), .val (.int 0), .val (.ref ie_), .val (.ref ib_), .val (.ref ip_), .val (.int 0), .val (.int 1)] [(.ref a0_), (.int 1), (.ref ib_)])) (fun target kt => ?_) ?_
  · refine XS.icmpNo X77.here hx rfl (hb hby d7_68) rfl (tlt (by decide : (1 : Int32) < (2 : Int32))).2.1 ?_
    refine XS.aloadN X77.here hx rfl (hb hby d7_71) rfl rfl ?_
    refine XS.iload X77.here hx rfl (hb hby d7_72) rfl ?_
    refine XS.aloadN X77.here hx rfl (hb hby d7_74) rfl rfl ?_
    exact kt
  have c78 := c62.other W72 (Or.inl (Ne.symm ne19))
  obtain ⟨T79, X79, e79, st79⟩ := getF X77 hx hZ hown (host := "") (Or.inl (hw _ tw33)) Via.refl e77 c78 (g := (mkF m 75 #[.val (.ref a0_), .val (.int 0), .val (.ref ie_), .val (.ref ib_), .val (.ref ip_), .val (.int 0), .val (.int 1)] [(.ref a0_), (.int 1), (.ref ib_)])) rfl rfl (hb hby d7_75)
  refine Go.st st79 ?_
  have c80 := c67.other W72 (Ne.symm ne65)
  obtain ⟨cl81, Ar81, -, S81, M81, H81, -⟩ := id c80
  have hin81 : ¬ ((1 : Int32) < 0 ∨ cl81.slots.size ≤ ((1 : Int32)).toNatClampNeg) := inb_of S81 ⟨by decide, by decide⟩
  have hat81 : cl81.slots[((1 : Int32)).toNatClampNeg]? = some (.int c1_) := H81.at hin81 rfl
  refine Go.st (t' := T79.setTop (mkF m 84 #[.val (.ref a0_), .val (.int 0), .val (.ref ie_), .val (.ref ib_), .val (.ref ip_), .val (.int 0), .val (.int 1)] [(.int c1_), (.int 1), (.ref ib_)])) (fun target kt => ?_) ?_
  · refine XS.iload X79.here hx rfl (hb hby d7_78) rfl ?_
    refine XS.iload X79.here hx rfl (hb hby d7_80) rfl ?_
    refine XS.iadd X79.here hx rfl (hb hby d7_82) rfl ?_
    refine X79.iaload hx (j := (1 : Int32)) (v := (.int c1_)) (by rw [e79]; exact Ar81.1) (State.isArrayOf_alike hZ.alike Ar81.2.1) Ar81.2.2 hin81 hat81 (g := (mkF m 83 #[.val (.ref a0_), .val (.int 0), .val (.ref ie_), .val (.ref ib_), .val (.ref ip_), .val (.int 0), .val (.int 1)] [(.int 1), (.ref x_blocks), (.int 1), (.ref ib_)])) rfl rfl (hb hby d7_83) _ ?_
    exact kt
  obtain ⟨cl82, Ar82, q82, S82, M82, H82, G82⟩ := id V73
  have hin82 : ¬ ((1 : Int32) < 0 ∨ cl82.slots.size ≤ ((1 : Int32)).toNatClampNeg) := inb_of S82 ⟨by decide, by decide⟩
  obtain ⟨T82, h82, X82, e82, W82, st82⟩ := stI X79 hx hZ e79 Ar82 (j := (1 : Int32)) hin82 (g := (mkF m 84 #[.val (.ref a0_), .val (.int 0), .val (.ref ie_), .val (.ref ib_), .val (.ref ip_), .val (.int 0), .val (.int 1)] [(.int c1_), (.int 1), (.ref ib_)])) rfl rfl (hb hby d7_84)
  have V83 : Arv Z h82 ib_ kb_ .int (2 : Int32) [(.int c0_), (.int c1_)] (.int 0) := Arv.set Ar82 q82 S82 M82 H82 G82 rfl W82 1 rfl (Nat.le_of_ble_eq_true rfl)
  have K84 := K74.wr W82 (Or.inl mI1)
  have O85 := O75.wr W82 g_ib_
  have N82 := Fr.snoc X82 N72 g_ib_
  refine Go.st st82 ?_
  refine Go.st (t' := T82.setTop (mkF m 65 #[.val (.ref a0_), .val (.int 0), .val (.ref ie_), .val (.ref ib_), .val (.ref ip_), .val (.int 0), .val (.int 2)] [(.ref a0_), (.int 2)])) (fun target kt => ?_) ?_
  · refine XS.iinc X82.here hx rfl (hb hby d7_85) rfl (l' := #[.val (.ref a0_), .val (.int 0), .val (.ref ie_), .val (.ref ib_), .val (.ref ip_), .val (.int 0), .val (.int 2)]) rfl ?_
    refine XS.goto X82.here hx rfl (pc0 := 88) (pc' := 62) rfl (hb hby d7_88) (by decide) (by decide) ?_
    refine XS.iload X82.here hx rfl (hb hby d7_62) rfl ?_
    refine XS.aloadN X82.here hx rfl (hb hby d7_64) rfl rfl ?_
    exact kt
  have c86 := c76.other W82 (Or.inl (Ne.symm ne19))
  obtain ⟨T87, X87, e87, st87⟩ := getF X82 hx hZ hown (host := "") (Or.inl (hw _ tw29)) Via.refl e82 c86 (g := (mkF m 65 #[.val (.ref a0_), .val (.int 0), .val (.ref ie_), .val (.ref ib_), .val (.ref ip_), .val (.int 0), .val (.int 2)] [(.ref a0_), (.int 2)])) rfl rfl (hb hby d7_65)
  refine Go.st st87 ?_
  refine Go.st (t' := T87.setTop (mkF m 91 #[.val (.ref a0_), .val (.int 0), .val (.ref ie_), .val (.ref ib_), .val (.ref ip_), .val (.int 0), .val (.int 2)] [])) (fun target kt => ?_) ?_
  · refine XS.icmpYes X87.here hx rfl (pc0 := 68) (pc' := 91) rfl (hb hby d7_68) rfl (flt (by decide : ¬ ((2 : Int32) < (2 : Int32)))).2.1 (by decide) (by decide) ?_
    exact kt
  have S_88 : Keep h44 h82 [ip_, ib_] := ((((Keep.refl h44 [ip_, ib_]).wr W54 (Or.inl mI0)).wr W72 (Or.inl mI1)).wr W82 (Or.inl mI1))
  have c89 := V45.keep S_88 (ninS ne28 (ninS ne69 nin0))
  have S_90 : Keep h54 h82 [ib_] := (((Keep.refl h54 [ib_]).wr W72 (Or.inl mI0)).wr W82 (Or.inl mI0))
  have c91 := V55.keep S_90 (ninS (Ne.symm ne70) nin0)
  refine Go.ret X87 (v := none) (fun _ => rfl) hlk (fun fs hr => X87.returnOut hx hret (hb hby d7_91) hr) ?_ (by decide) (by decide)
  show Q7_2_0 Z a0_ ie_ ib_ ip_ x_entries x_blocks x_parts k_entries k_blocks k_parts ke_ kp_ kb_ e0_ e1_ e2_ e3_ c0_ c1_ d0_ d1_ d2_ d3_ h0 n0 _ T87.heap _
  rw [e87]
  exact ⟨rfl, N82, K84, c89, V83, c91⟩
theorem ef7_2_1 (m : MethodId) (x0 : Addr) (x2 : Addr) (x4 : Addr) : entryFrame m #[(.ref x0), (.int 1), (.ref x2), .null, (.ref x4)] 7 = mkF m 0 #[.val (.ref x0), .val (.int 1), .val (.ref x2), .val .null, .val (.ref x4), .unset, .unset] [] := by first | (simp [entryFrame, mkF, argsToLocals, Value.category]; done) | rfl
def Q7_2_1 (Z : State) (a0_ : Addr) (ie_ : Addr) (ip_ : Addr) (x_entries : Addr) (x_blocks : Addr) (x_parts : Addr) (k_entries : ClassId) (k_blocks : ClassId) (k_parts : ClassId) (ke_ : ClassId) (kp_ : ClassId) (e0_ : Int32) (e1_ : Int32) (e2_ : Int32) (e3_ : Int32) (c0_ : Int32) (c1_ : Int32) (d0_ : UInt64) (d1_ : UInt64) (d2_ : UInt64) (d3_ : UInt64) (h0 : Heap) (n0 : Nat) (v : Option Value) (h : Heap) (L : List Loc) : Prop := v = none ∧ Fr n0 L ∧ Keep h0 h [ie_, ip_] ∧ Arv Z h ie_ ke_ .int (2 : Int32) [(.int e2_), (.int e3_)] (.int 0) ∧ Arv Z h ip_ kp_ .double (2 : Int32) [(.double d2_), (.double d3_)] (.double (FP.l2d 0))
theorem rm7_2_1 (l : Launch) (Z : State) (a0 : Array Value) (hw : ∀ d ∈ tables_1, d.before a0 Z = true) (ws : List Jvm.Cond) (a0_ : Addr) (ie_ : Addr) (ip_ : Addr) (x_entries : Addr) (x_blocks : Addr) (x_parts : Addr) (k_entries : ClassId) (k_blocks : ClassId) (k_parts : ClassId) (ke_ : ClassId) (kp_ : ClassId) (e0_ : Int32) (e1_ : Int32) (e2_ : Int32) (e3_ : Int32) (c0_ : Int32) (c1_ : Int32) (d0_ : UInt64) (d1_ : UInt64) (d2_ : UInt64) (d3_ : UInt64) (h0 : Heap) (n0 : Nat) (Z0 : n0 ≤ h0.size) (O0 : Old Z n0 h0) (E0 : Exa Z h0 a0_ sq0) (F_count : Fld Z h0 a0_ sq0 "count" "I" (.int 2)) (F_entries : Fld Z h0 a0_ sq0 "entries" "[I" (.ref x_entries)) (F_blocks : Fld Z h0 a0_ sq0 "blocks" "[I" (.ref x_blocks)) (F_parts : Fld Z h0 a0_ sq0 "parts" "[D" (.ref x_parts)) (V_entries : Arv Z h0 x_entries k_entries .int (32 : Int32) [(.int e0_), (.int e1_), (.int e2_), (.int e3_)] (.int 0)) (V_blocks : Arv Z h0 x_blocks k_blocks .int (32 : Int32) [(.int c0_), (.int c1_), (.int 0), (.int 0)] (.int 0)) (V_parts : Arv Z h0 x_parts k_parts .double (32 : Int32) [(.double d0_), (.double d1_), (.double d2_), (.double d3_)] (.double (FP.l2d 0))) (V_ie : Arv Z h0 ie_ ke_ .int (2 : Int32) [(.int 7), (.int 7)] (.int 0)) (V_ip : Arv Z h0 ip_ kp_ .double (2 : Int32) [(.double (4602678819172646912 : UInt64)), (.double (4602678819172646912 : UInt64))] (.double (FP.l2d 0))) (g_ie_ : n0 ≤ ie_) (g_ip_ : n0 ≤ ip_) (o_ie__ip_ : ie_ < ip_) (o_ip__a0_ : ip_ < a0_) (o_a0__x_entries : a0_ < x_entries) (o_x_entries_x_blocks : x_entries < x_blocks) (o_x_blocks_x_parts : x_blocks < x_parts) :
    Met l Z ws (⟨sq0, "copy", "(I[I[I[D)V"⟩ : MethodName) prog_63_method_9_code 7 none (Rm 0 0 0 0) #[(.ref a0_), (.int 1), (.ref ie_), .null, (.ref ip_)] h0 (Q7_2_1 Z a0_ ie_ ip_ x_entries x_blocks x_parts k_entries k_blocks k_parts ke_ kp_ e0_ e1_ e2_ e3_ c0_ c1_ d0_ d1_ d2_ d3_ h0 n0) := by
  refine Met.enter (L0 := #[.val (.ref a0_), .val (.int 1), .val (.ref ie_), .val .null, .val (.ref ip_), .unset, .unset]) (plainFor_of_name pn56) (fun m => ef7_2_1 m a0_ ie_ ip_) ?_
  intro p e s m below meth c s₁ hx hby hml hown hnm hret hlk hZ X0 e0
  have N0 := Fr.nil n0
  have K0 : Keep h0 h0 [ie_, ip_] := Keep.refl h0 _
  refine Go.st (t' := s₁.setTop (mkF m 2 #[.val (.ref a0_), .val (.int 1), .val (.ref ie_), .val .null, .val (.ref ip_), .unset, .unset] [(.ref a0_), (.int 1)])) (fun target kt => ?_) ?_
  · refine XS.iloadN X0.here hx rfl (hb hby d7_0) rfl ?_
    refine XS.aloadN X0.here hx rfl (hb hby d7_1) rfl rfl ?_
    exact kt
  obtain ⟨T10, X10, e10, st10⟩ := getF X0 hx hZ hown (host := "") (Or.inl (hw _ tw29)) Via.refl e0 F_count (g := (mkF m 2 #[.val (.ref a0_), .val (.int 1), .val (.ref ie_), .val .null, .val (.ref ip_), .unset, .unset] [(.ref a0_), (.int 1)])) rfl rfl (hb hby d7_2)
  refine Go.st st10 ?_
  refine Go.st (t' := T10.setTop (mkF m 14 #[.val (.ref a0_), .val (.int 1), .val (.ref ie_), .val .null, .val (.ref ip_), .val (.int 2), .val (.int 0)] [(.ref a0_), (.int 0)])) (fun target kt => ?_) ?_
  · refine XS.imul X10.here hx rfl (hb hby d7_5) rfl ?_
    refine XS.istore X10.here hx rfl (hb hby d7_6) rfl (l' := #[.val (.ref a0_), .val (.int 1), .val (.ref ie_), .val .null, .val (.ref ip_), .val (.int 2), .unset]) rfl ?_
    refine XS.iconst X10.here hx rfl (hb hby d7_8) ?_
    refine XS.istore X10.here hx rfl (hb hby d7_9) rfl (l' := #[.val (.ref a0_), .val (.int 1), .val (.ref ie_), .val .null, .val (.ref ip_), .val (.int 2), .val (.int 0)]) rfl ?_
    refine XS.iload X10.here hx rfl (hb hby d7_11) rfl ?_
    refine XS.aloadN X10.here hx rfl (hb hby d7_13) rfl rfl ?_
    exact kt
  obtain ⟨T11, X11, e11, st11⟩ := getF X10 hx hZ hown (host := "") (Or.inl (hw _ tw29)) Via.refl e10 F_count (g := (mkF m 14 #[.val (.ref a0_), .val (.int 1), .val (.ref ie_), .val .null, .val (.ref ip_), .val (.int 2), .val (.int 0)] [(.ref a0_), (.int 0)])) rfl rfl (hb hby d7_14)
  refine Go.st st11 ?_
  refine Go.st (t' := T11.setTop (mkF m 24 #[.val (.ref a0_), .val (.int 1), .val (.ref ie_), .val .null, .val (.ref ip_), .val (.int 2), .val (.int 0)] [(.ref a0_), (.int 0), (.ref ie_)])) (fun target kt => ?_) ?_
  · refine XS.icmpNo X11.here hx rfl (hb hby d7_17) rfl (tlt (by decide : (0 : Int32) < (2 : Int32))).2.1 ?_
    refine XS.aloadN X11.here hx rfl (hb hby d7_20) rfl rfl ?_
    refine XS.iload X11.here hx rfl (hb hby d7_21) rfl ?_
    refine XS.aloadN X11.here hx rfl (hb hby d7_23) rfl rfl ?_
    exact kt
  obtain ⟨T12, X12, e12, st12⟩ := getF X11 hx hZ hown (host := "") (Or.inl (hw _ tw31)) Via.refl e11 F_entries (g := (mkF m 24 #[.val (.ref a0_), .val (.int 1), .val (.ref ie_), .val .null, .val (.ref ip_), .val (.int 2), .val (.int 0)] [(.ref a0_), (.int 0), (.ref ie_)])) rfl rfl (hb hby d7_24)
  refine Go.st st12 ?_
  obtain ⟨cl13, Ar13, -, S13, M13, H13, -⟩ := id V_entries
  have hin13 : ¬ ((2 : Int32) < 0 ∨ cl13.slots.size ≤ ((2 : Int32)).toNatClampNeg) := inb_of S13 ⟨by decide, by decide⟩
  have hat13 : cl13.slots[((2 : Int32)).toNatClampNeg]? = some (.int e2_) := H13.at hin13 rfl
  refine Go.st (t' := T12.setTop (mkF m 33 #[.val (.ref a0_), .val (.int 1), .val (.ref ie_), .val .null, .val (.ref ip_), .val (.int 2), .val (.int 0)] [(.int e2_), (.int 0), (.ref ie_)])) (fun target kt => ?_) ?_
  · refine XS.iload X12.here hx rfl (hb hby d7_27) rfl ?_
    refine XS.iload X12.here hx rfl (hb hby d7_29) rfl ?_
    refine XS.iadd X12.here hx rfl (hb hby d7_31) rfl ?_
    refine X12.iaload hx (j := (2 : Int32)) (v := (.int e2_)) (by rw [e12]; exact Ar13.1) (State.isArrayOf_alike hZ.alike Ar13.2.1) Ar13.2.2 hin13 hat13 (g := (mkF m 32 #[.val (.ref a0_), .val (.int 1), .val (.ref ie_), .val .null, .val (.ref ip_), .val (.int 2), .val (.int 0)] [(.int 2), (.ref x_entries), (.int 0), (.ref ie_)])) rfl rfl (hb hby d7_32) _ ?_
    exact kt
  obtain ⟨cl14, Ar14, q14, S14, M14, H14, G14⟩ := id V_ie
  have hin14 : ¬ ((0 : Int32) < 0 ∨ cl14.slots.size ≤ ((0 : Int32)).toNatClampNeg) := inb_of S14 ⟨by decide, by decide⟩
  obtain ⟨T14, h14, X14, e14, W14, st14⟩ := stI X12 hx hZ e12 Ar14 (j := (0 : Int32)) hin14 (g := (mkF m 33 #[.val (.ref a0_), .val (.int 1), .val (.ref ie_), .val .null, .val (.ref ip_), .val (.int 2), .val (.int 0)] [(.int e2_), (.int 0), (.ref ie_)])) rfl rfl (hb hby d7_33)
  have V15 : Arv Z h14 ie_ ke_ .int (2 : Int32) [(.int e2_), (.int 7)] (.int 0) := Arv.set Ar14 q14 S14 M14 H14 G14 rfl W14 0 rfl (Nat.le_of_ble_eq_true rfl)
  have K16 := K0.wr W14 (Or.inl mI0)
  have O17 := O0.wr W14 g_ie_
  have N14 := Fr.snoc X14 N0 g_ie_
  refine Go.st st14 ?_
  refine Go.st (t' := T14.setTop (mkF m 39 #[.val (.ref a0_), .val (.int 1), .val (.ref ie_), .val .null, .val (.ref ip_), .val (.int 2), .val (.int 0)] [(.ref a0_), (.int 0), (.ref ip_)])) (fun target kt => ?_) ?_
  · refine XS.aload X14.here hx rfl (hb hby d7_34) rfl rfl ?_
    refine XS.iload X14.here hx rfl (hb hby d7_36) rfl ?_
    refine XS.aloadN X14.here hx rfl (hb hby d7_38) rfl rfl ?_
    exact kt
  have ne18 : ip_ ≠ a0_ := Nat.ne_of_lt o_ip__a0_
  have ne19 : ie_ ≠ a0_ := Nat.ne_of_lt (Nat.lt_trans o_ie__ip_ o_ip__a0_)
  have c20 := F_parts.keep K16 (ninS (Ne.symm ne19) (ninS (Ne.symm ne18) nin0))
  obtain ⟨T21, X21, e21, st21⟩ := getF X14 hx hZ hown (host := "") (Or.inl (hw _ tw35)) Via.refl e14 c20 (g := (mkF m 39 #[.val (.ref a0_), .val (.int 1), .val (.ref ie_), .val .null, .val (.ref ip_), .val (.int 2), .val (.int 0)] [(.ref a0_), (.int 0), (.ref ip_)])) rfl rfl (hb hby d7_39)
  refine Go.st st21 ?_
  have ne22 : ip_ ≠ x_parts := Nat.ne_of_lt (Nat.lt_trans (Nat.lt_trans (Nat.lt_trans o_ip__a0_ o_a0__x_entries) o_x_entries_x_blocks) o_x_blocks_x_parts)
  have ne23 : ie_ ≠ x_parts := Nat.ne_of_lt (Nat.lt_trans (Nat.lt_trans (Nat.lt_trans (Nat.lt_trans o_ie__ip_ o_ip__a0_) o_a0__x_entries) o_x_entries_x_blocks) o_x_blocks_x_parts)
  have c24 := V_parts.keep K16 (ninS (Ne.symm ne23) (ninS (Ne.symm ne22) nin0))
  obtain ⟨cl25, Ar25, -, S25, M25, H25, -⟩ := id c24
  have hin25 : ¬ ((2 : Int32) < 0 ∨ cl25.slots.size ≤ ((2 : Int32)).toNatClampNeg) := inb_of S25 ⟨by decide, by decide⟩
  have hat25 : cl25.slots[((2 : Int32)).toNatClampNeg]? = some (.double d2_) := H25.at hin25 rfl
  refine Go.st (t' := T21.setTop (mkF m 48 #[.val (.ref a0_), .val (.int 1), .val (.ref ie_), .val .null, .val (.ref ip_), .val (.int 2), .val (.int 0)] [(.double d2_), (.int 0), (.ref ip_)])) (fun target kt => ?_) ?_
  · refine XS.iload X21.here hx rfl (hb hby d7_42) rfl ?_
    refine XS.iload X21.here hx rfl (hb hby d7_44) rfl ?_
    refine XS.iadd X21.here hx rfl (hb hby d7_46) rfl ?_
    refine X21.daload hx (j := (2 : Int32)) (v := (.double d2_)) (by rw [e21]; exact Ar25.1) (State.isArrayOf_alike hZ.alike Ar25.2.1) Ar25.2.2 hin25 hat25 (g := (mkF m 47 #[.val (.ref a0_), .val (.int 1), .val (.ref ie_), .val .null, .val (.ref ip_), .val (.int 2), .val (.int 0)] [(.int 2), (.ref x_parts), (.int 0), (.ref ip_)])) rfl rfl (hb hby d7_47) _ ?_
    exact kt
  have ne26 : ie_ ≠ ip_ := Nat.ne_of_lt o_ie__ip_
  have c27 := V_ip.other W14 (Ne.symm ne26)
  obtain ⟨cl28, Ar28, q28, S28, M28, H28, G28⟩ := id c27
  have hin28 : ¬ ((0 : Int32) < 0 ∨ cl28.slots.size ≤ ((0 : Int32)).toNatClampNeg) := inb_of S28 ⟨by decide, by decide⟩
  obtain ⟨T28, h28, X28, e28, W28, st28⟩ := stD X21 hx hZ e21 Ar28 (j := (0 : Int32)) hin28 (g := (mkF m 48 #[.val (.ref a0_), .val (.int 1), .val (.ref ie_), .val .null, .val (.ref ip_), .val (.int 2), .val (.int 0)] [(.double d2_), (.int 0), (.ref ip_)])) rfl rfl (hb hby d7_48)
  have V29 : Arv Z h28 ip_ kp_ .double (2 : Int32) [(.double d2_), (.double (4602678819172646912 : UInt64))] (.double (FP.l2d 0)) := Arv.set Ar28 q28 S28 M28 H28 G28 rfl W28 0 rfl (Nat.le_of_ble_eq_true rfl)
  have K30 := K16.wr W28 (Or.inl mI1)
  have O31 := O17.wr W28 g_ip_
  have N28 := Fr.snoc X28 N14 g_ip_
  refine Go.st st28 ?_
  refine Go.st (t' := T28.setTop (mkF m 14 #[.val (.ref a0_), .val (.int 1), .val (.ref ie_), .val .null, .val (.ref ip_), .val (.int 2), .val (.int 1)] [(.ref a0_), (.int 1)])) (fun target kt => ?_) ?_
  · refine XS.iinc X28.here hx rfl (hb hby d7_49) rfl (l' := #[.val (.ref a0_), .val (.int 1), .val (.ref ie_), .val .null, .val (.ref ip_), .val (.int 2), .val (.int 1)]) rfl ?_
    refine XS.goto X28.here hx rfl (pc0 := 52) (pc' := 11) rfl (hb hby d7_52) (by decide) (by decide) ?_
    refine XS.iload X28.here hx rfl (hb hby d7_11) rfl ?_
    refine XS.aloadN X28.here hx rfl (hb hby d7_13) rfl rfl ?_
    exact kt
  have c32 := F_count.keep K30 (ninS (Ne.symm ne19) (ninS (Ne.symm ne18) nin0))
  obtain ⟨T33, X33, e33, st33⟩ := getF X28 hx hZ hown (host := "") (Or.inl (hw _ tw29)) Via.refl e28 c32 (g := (mkF m 14 #[.val (.ref a0_), .val (.int 1), .val (.ref ie_), .val .null, .val (.ref ip_), .val (.int 2), .val (.int 1)] [(.ref a0_), (.int 1)])) rfl rfl (hb hby d7_14)
  refine Go.st st33 ?_
  refine Go.st (t' := T33.setTop (mkF m 24 #[.val (.ref a0_), .val (.int 1), .val (.ref ie_), .val .null, .val (.ref ip_), .val (.int 2), .val (.int 1)] [(.ref a0_), (.int 1), (.ref ie_)])) (fun target kt => ?_) ?_
  · refine XS.icmpNo X33.here hx rfl (hb hby d7_17) rfl (tlt (by decide : (1 : Int32) < (2 : Int32))).2.1 ?_
    refine XS.aloadN X33.here hx rfl (hb hby d7_20) rfl rfl ?_
    refine XS.iload X33.here hx rfl (hb hby d7_21) rfl ?_
    refine XS.aloadN X33.here hx rfl (hb hby d7_23) rfl rfl ?_
    exact kt
  have c34 := F_entries.keep K30 (ninS (Ne.symm ne19) (ninS (Ne.symm ne18) nin0))
  obtain ⟨T35, X35, e35, st35⟩ := getF X33 hx hZ hown (host := "") (Or.inl (hw _ tw31)) Via.refl e33 c34 (g := (mkF m 24 #[.val (.ref a0_), .val (.int 1), .val (.ref ie_), .val .null, .val (.ref ip_), .val (.int 2), .val (.int 1)] [(.ref a0_), (.int 1), (.ref ie_)])) rfl rfl (hb hby d7_24)
  refine Go.st st35 ?_
  have ne36 : ip_ ≠ x_entries := Nat.ne_of_lt (Nat.lt_trans o_ip__a0_ o_a0__x_entries)
  have ne37 : ie_ ≠ x_entries := Nat.ne_of_lt (Nat.lt_trans (Nat.lt_trans o_ie__ip_ o_ip__a0_) o_a0__x_entries)
  have c38 := V_entries.keep K30 (ninS (Ne.symm ne37) (ninS (Ne.symm ne36) nin0))
  obtain ⟨cl39, Ar39, -, S39, M39, H39, -⟩ := id c38
  have hin39 : ¬ ((3 : Int32) < 0 ∨ cl39.slots.size ≤ ((3 : Int32)).toNatClampNeg) := inb_of S39 ⟨by decide, by decide⟩
  have hat39 : cl39.slots[((3 : Int32)).toNatClampNeg]? = some (.int e3_) := H39.at hin39 rfl
  refine Go.st (t' := T35.setTop (mkF m 33 #[.val (.ref a0_), .val (.int 1), .val (.ref ie_), .val .null, .val (.ref ip_), .val (.int 2), .val (.int 1)] [(.int e3_), (.int 1), (.ref ie_)])) (fun target kt => ?_) ?_
  · refine XS.iload X35.here hx rfl (hb hby d7_27) rfl ?_
    refine XS.iload X35.here hx rfl (hb hby d7_29) rfl ?_
    refine XS.iadd X35.here hx rfl (hb hby d7_31) rfl ?_
    refine X35.iaload hx (j := (3 : Int32)) (v := (.int e3_)) (by rw [e35]; exact Ar39.1) (State.isArrayOf_alike hZ.alike Ar39.2.1) Ar39.2.2 hin39 hat39 (g := (mkF m 32 #[.val (.ref a0_), .val (.int 1), .val (.ref ie_), .val .null, .val (.ref ip_), .val (.int 2), .val (.int 1)] [(.int 3), (.ref x_entries), (.int 1), (.ref ie_)])) rfl rfl (hb hby d7_32) _ ?_
    exact kt
  have c40 := V15.other W28 ne26
  obtain ⟨cl41, Ar41, q41, S41, M41, H41, G41⟩ := id c40
  have hin41 : ¬ ((1 : Int32) < 0 ∨ cl41.slots.size ≤ ((1 : Int32)).toNatClampNeg) := inb_of S41 ⟨by decide, by decide⟩
  obtain ⟨T41, h41, X41, e41, W41, st41⟩ := stI X35 hx hZ e35 Ar41 (j := (1 : Int32)) hin41 (g := (mkF m 33 #[.val (.ref a0_), .val (.int 1), .val (.ref ie_), .val .null, .val (.ref ip_), .val (.int 2), .val (.int 1)] [(.int e3_), (.int 1), (.ref ie_)])) rfl rfl (hb hby d7_33)
  have V42 : Arv Z h41 ie_ ke_ .int (2 : Int32) [(.int e2_), (.int e3_)] (.int 0) := Arv.set Ar41 q41 S41 M41 H41 G41 rfl W41 1 rfl (Nat.le_of_ble_eq_true rfl)
  have K43 := K30.wr W41 (Or.inl mI0)
  have O44 := O31.wr W41 g_ie_
  have N41 := Fr.snoc X41 N28 g_ie_
  refine Go.st st41 ?_
  refine Go.st (t' := T41.setTop (mkF m 39 #[.val (.ref a0_), .val (.int 1), .val (.ref ie_), .val .null, .val (.ref ip_), .val (.int 2), .val (.int 1)] [(.ref a0_), (.int 1), (.ref ip_)])) (fun target kt => ?_) ?_
  · refine XS.aload X41.here hx rfl (hb hby d7_34) rfl rfl ?_
    refine XS.iload X41.here hx rfl (hb hby d7_36) rfl ?_
    refine XS.aloadN X41.here hx rfl (hb hby d7_38) rfl rfl ?_
    exact kt
  have S_45 : Keep h14 h41 [ip_, ie_] := (((Keep.refl h14 [ip_, ie_]).wr W28 (Or.inl mI0)).wr W41 (Or.inl mI1))
  have c46 := c20.keep S_45 (ninS (Ne.symm ne18) (ninS (Ne.symm ne19) nin0))
  obtain ⟨T47, X47, e47, st47⟩ := getF X41 hx hZ hown (host := "") (Or.inl (hw _ tw35)) Via.refl e41 c46 (g := (mkF m 39 #[.val (.ref a0_), .val (.int 1), .val (.ref ie_), .val .null, .val (.ref ip_), .val (.int 2), .val (.int 1)] [(.ref a0_), (.int 1), (.ref ip_)])) rfl rfl (hb hby d7_39)
  refine Go.st st47 ?_
  have c48 := c24.keep S_45 (ninS (Ne.symm ne22) (ninS (Ne.symm ne23) nin0))
  obtain ⟨cl49, Ar49, -, S49, M49, H49, -⟩ := id c48
  have hin49 : ¬ ((3 : Int32) < 0 ∨ cl49.slots.size ≤ ((3 : Int32)).toNatClampNeg) := inb_of S49 ⟨by decide, by decide⟩
  have hat49 : cl49.slots[((3 : Int32)).toNatClampNeg]? = some (.double d3_) := H49.at hin49 rfl
  refine Go.st (t' := T47.setTop (mkF m 48 #[.val (.ref a0_), .val (.int 1), .val (.ref ie_), .val .null, .val (.ref ip_), .val (.int 2), .val (.int 1)] [(.double d3_), (.int 1), (.ref ip_)])) (fun target kt => ?_) ?_
  · refine XS.iload X47.here hx rfl (hb hby d7_42) rfl ?_
    refine XS.iload X47.here hx rfl (hb hby d7_44) rfl ?_
    refine XS.iadd X47.here hx rfl (hb hby d7_46) rfl ?_
    refine X47.daload hx (j := (3 : Int32)) (v := (.double d3_)) (by rw [e47]; exact Ar49.1) (State.isArrayOf_alike hZ.alike Ar49.2.1) Ar49.2.2 hin49 hat49 (g := (mkF m 47 #[.val (.ref a0_), .val (.int 1), .val (.ref ie_), .val .null, .val (.ref ip_), .val (.int 2), .val (.int 1)] [(.int 3), (.ref x_parts), (.int 1), (.ref ip_)])) rfl rfl (hb hby d7_47) _ ?_
    exact kt
  have c50 := V29.other W41 (Ne.symm ne26)
  obtain ⟨cl51, Ar51, q51, S51, M51, H51, G51⟩ := id c50
  have hin51 : ¬ ((1 : Int32) < 0 ∨ cl51.slots.size ≤ ((1 : Int32)).toNatClampNeg) := inb_of S51 ⟨by decide, by decide⟩
  obtain ⟨T51, h51, X51, e51, W51, st51⟩ := stD X47 hx hZ e47 Ar51 (j := (1 : Int32)) hin51 (g := (mkF m 48 #[.val (.ref a0_), .val (.int 1), .val (.ref ie_), .val .null, .val (.ref ip_), .val (.int 2), .val (.int 1)] [(.double d3_), (.int 1), (.ref ip_)])) rfl rfl (hb hby d7_48)
  have V52 : Arv Z h51 ip_ kp_ .double (2 : Int32) [(.double d2_), (.double d3_)] (.double (FP.l2d 0)) := Arv.set Ar51 q51 S51 M51 H51 G51 rfl W51 1 rfl (Nat.le_of_ble_eq_true rfl)
  have K53 := K43.wr W51 (Or.inl mI1)
  have O54 := O44.wr W51 g_ip_
  have N51 := Fr.snoc X51 N41 g_ip_
  refine Go.st st51 ?_
  refine Go.st (t' := T51.setTop (mkF m 14 #[.val (.ref a0_), .val (.int 1), .val (.ref ie_), .val .null, .val (.ref ip_), .val (.int 2), .val (.int 2)] [(.ref a0_), (.int 2)])) (fun target kt => ?_) ?_
  · refine XS.iinc X51.here hx rfl (hb hby d7_49) rfl (l' := #[.val (.ref a0_), .val (.int 1), .val (.ref ie_), .val .null, .val (.ref ip_), .val (.int 2), .val (.int 2)]) rfl ?_
    refine XS.goto X51.here hx rfl (pc0 := 52) (pc' := 11) rfl (hb hby d7_52) (by decide) (by decide) ?_
    refine XS.iload X51.here hx rfl (hb hby d7_11) rfl ?_
    refine XS.aloadN X51.here hx rfl (hb hby d7_13) rfl rfl ?_
    exact kt
  have S_55 : Keep h28 h51 [ie_, ip_] := (((Keep.refl h28 [ie_, ip_]).wr W41 (Or.inl mI0)).wr W51 (Or.inl mI1))
  have c56 := c32.keep S_55 (ninS (Ne.symm ne19) (ninS (Ne.symm ne18) nin0))
  obtain ⟨T57, X57, e57, st57⟩ := getF X51 hx hZ hown (host := "") (Or.inl (hw _ tw29)) Via.refl e51 c56 (g := (mkF m 14 #[.val (.ref a0_), .val (.int 1), .val (.ref ie_), .val .null, .val (.ref ip_), .val (.int 2), .val (.int 2)] [(.ref a0_), (.int 2)])) rfl rfl (hb hby d7_14)
  refine Go.st st57 ?_
  refine Go.st (t' := T57.setTop (mkF m 91 #[.val (.ref a0_), .val (.int 1), .val (.ref ie_), .val .null, .val (.ref ip_), .val (.int 2), .val (.int 2)] [])) (fun target kt => ?_) ?_
  · refine XS.icmpYes X57.here hx rfl (pc0 := 17) (pc' := 55) rfl (hb hby d7_17) rfl (flt (by decide : ¬ ((2 : Int32) < (2 : Int32)))).2.1 (by decide) (by decide) ?_
    refine XS.aloadN X57.here hx rfl (hb hby d7_55) rfl rfl ?_
    refine XS.ifnullYes X57.here hx rfl (pc0 := 56) (pc' := 91) rfl (hb hby d7_56) rfl (by decide) (by decide) ?_
    exact kt
  have c58 := V42.other W51 ne26
  refine Go.ret X57 (v := none) (fun _ => rfl) hlk (fun fs hr => X57.returnOut hx hret (hb hby d7_91) hr) ?_ (by decide) (by decide)
  show Q7_2_1 Z a0_ ie_ ip_ x_entries x_blocks x_parts k_entries k_blocks k_parts ke_ kp_ e0_ e1_ e2_ e3_ c0_ c1_ d0_ d1_ d2_ d3_ h0 n0 _ T57.heap _
  rw [e57]
  exact ⟨rfl, N51, K53, c58, V52⟩
theorem tw2 : (Jvm.Cond.constantDouble "com/example/docstride/docstride/search/topk/StretchQueueCopyPinLaw" (7 : Nat) (4602678819172646912 : UInt64)) ∈ tables_1 := List.mem_of_getElem? (i := 2) rfl
theorem tw3 : (Jvm.Cond.classLink "com/example/docstride/docstride/search/topk/StretchQueueCopyPinLaw" (9 : Nat) "com/example/docstride/docstride/search/topk/StretchQueue") ∈ tables_1 := List.mem_of_getElem? (i := 3) rfl
theorem tw6 : (Jvm.Cond.methodLink "com/example/docstride/docstride/search/topk/StretchQueueCopyPinLaw" (11 : Nat) ({ cls := "com/example/docstride/docstride/search/topk/StretchQueue", name := "<init>", desc := "(I)V" } : Jvm.MethodName)) ∈ tables_1 := List.mem_of_getElem? (i := 6) rfl
theorem tw8 : (Jvm.Cond.code ({ cls := "com/example/docstride/docstride/search/topk/StretchQueue", name := "<init>", desc := "(I)V" } : Jvm.MethodName) prog_63_method_1_code (2 : Nat) (Option.none : Option Jvm.ClassFile.FieldType)) ∈ tables_1 := List.mem_of_getElem? (i := 8) rfl
theorem tw7 : (Jvm.Cond.instanceMethod ({ cls := "com/example/docstride/docstride/search/topk/StretchQueue", name := "<init>", desc := "(I)V" } : Jvm.MethodName)) ∈ tables_1 := List.mem_of_getElem? (i := 7) rfl
theorem tw37 : (Jvm.Cond.methodLink "com/example/docstride/docstride/search/topk/StretchQueueCopyPinLaw" (14 : Nat) ({ cls := "com/example/docstride/docstride/search/topk/StretchQueue", name := "add", desc := "(IIID[I[I[D)V" } : Jvm.MethodName)) ∈ tables_1 := List.mem_of_getElem? (i := 37) rfl
theorem tw41 : (Jvm.Cond.code ({ cls := "com/example/docstride/docstride/search/topk/StretchQueue", name := "add", desc := "(IIID[I[I[D)V" } : Jvm.MethodName) prog_63_method_10_code (12 : Nat) (Option.none : Option Jvm.ClassFile.FieldType)) ∈ tables_1 := List.mem_of_getElem? (i := 41) rfl
theorem pd3 : parseMethodDescriptor "(IIID[I[I[D)V" = some ⟨[.int, .int, .int, .double, (.array .int), (.array .int), (.array .double)], none⟩ := by decide +kernel
theorem tw40 : (Jvm.Cond.selects "com/example/docstride/docstride/search/topk/StretchQueue" ({ cls := "com/example/docstride/docstride/search/topk/StretchQueue", name := "add", desc := "(IIID[I[I[D)V" } : Jvm.MethodName) ({ cls := "com/example/docstride/docstride/search/topk/StretchQueue", name := "add", desc := "(IIID[I[I[D)V" } : Jvm.MethodName)) ∈ tables_1 := List.mem_of_getElem? (i := 40) rfl
theorem tw38 : (Jvm.Cond.declares ({ cls := "com/example/docstride/docstride/search/topk/StretchQueue", name := "add", desc := "(IIID[I[I[D)V" } : Jvm.MethodName)) ∈ tables_1 := List.mem_of_getElem? (i := 38) rfl
theorem tw39 : (Jvm.Cond.instanceMethod ({ cls := "com/example/docstride/docstride/search/topk/StretchQueue", name := "add", desc := "(IIID[I[I[D)V" } : Jvm.MethodName)) ∈ tables_1 := List.mem_of_getElem? (i := 39) rfl
theorem tw57 : (Jvm.Cond.methodLink "com/example/docstride/docstride/search/topk/StretchQueueCopyPinLaw" (18 : Nat) ({ cls := "com/example/docstride/docstride/search/topk/StretchQueue", name := "copy", desc := "(I[I[I[D)V" } : Jvm.MethodName)) ∈ tables_1 := List.mem_of_getElem? (i := 57) rfl
theorem tw61 : (Jvm.Cond.code ({ cls := "com/example/docstride/docstride/search/topk/StretchQueue", name := "copy", desc := "(I[I[I[D)V" } : Jvm.MethodName) prog_63_method_9_code (7 : Nat) (Option.none : Option Jvm.ClassFile.FieldType)) ∈ tables_1 := List.mem_of_getElem? (i := 61) rfl
theorem pd4 : parseMethodDescriptor "(I[I[I[D)V" = some ⟨[.int, (.array .int), (.array .int), (.array .double)], none⟩ := by decide +kernel
theorem tw60 : (Jvm.Cond.selects "com/example/docstride/docstride/search/topk/StretchQueue" ({ cls := "com/example/docstride/docstride/search/topk/StretchQueue", name := "copy", desc := "(I[I[I[D)V" } : Jvm.MethodName) ({ cls := "com/example/docstride/docstride/search/topk/StretchQueue", name := "copy", desc := "(I[I[I[D)V" } : Jvm.MethodName)) ∈ tables_1 := List.mem_of_getElem? (i := 60) rfl
theorem tw58 : (Jvm.Cond.declares ({ cls := "com/example/docstride/docstride/search/topk/StretchQueue", name := "copy", desc := "(I[I[I[D)V" } : Jvm.MethodName)) ∈ tables_1 := List.mem_of_getElem? (i := 58) rfl
theorem tw59 : (Jvm.Cond.instanceMethod ({ cls := "com/example/docstride/docstride/search/topk/StretchQueue", name := "copy", desc := "(I[I[I[D)V" } : Jvm.MethodName)) ∈ tables_1 := List.mem_of_getElem? (i := 59) rfl
theorem ef0 (m : MethodId) (x0 : Int32) (x1 : Int32) (x2 : Int32) (x3 : Int32) (x4 : Int64) (x5 : Int32) : entryFrame m #[(.int x0), (.int x1), (.int x2), (.int x3), (.long x4), (.int x5)] maxLocals = mkF m 0 #[.val (.int x0), .val (.int x1), .val (.int x2), .val (.int x3), .val (.long x4), .second, .val (.int x5), .unset, .unset, .unset, .unset, .unset, .unset, .unset, .unset, .unset, .unset, .unset, .unset, .unset, .unset, .unset, .unset, .unset, .unset, .unset, .unset, .unset, .unset, .unset] [] := by first | (simp [entryFrame, mkF, argsToLocals, Value.category, maxLocals]; done) | rfl
def Q0 (Z : State) (p0 : Int32) (p1 : Int32) (p2 : Int32) (p3 : Int32) (q4 : Int64) (p5 : Int32) (h0 : Heap) (n0 : Nat) (v : Option Value) (h : Heap) (L : List Loc) : Prop := v = some (.int 1) ∧ Fr n0 L ∧ Keep h0 h []
theorem pn286 : plainName "com/example/docstride/docstride/search/topk/StretchQueueCopyPinLaw" = true := by first | (simp [plainName, overriddenIn]; done) | decide +kernel
theorem rm0 (l : Launch) (Z : State) (a0 : Array Value) (hw : ∀ d ∈ tables_1, d.before a0 Z = true) (ws : List Jvm.Cond) (p0 : Int32) (p1 : Int32) (p2 : Int32) (p3 : Int32) (q4 : Int64) (p5 : Int32) (h0 : Heap) (n0 : Nat) (Z0 : n0 ≤ h0.size) (O0 : Old Z n0 h0) :
    Met l Z ws x code maxLocals ret room_1 #[(.int p0), (.int p1), (.int p2), (.int p3), (.long q4), (.int p5)] h0 (Q0 Z p0 p1 p2 p3 q4 p5 h0 n0) := by
  refine Met.enter (L0 := #[.val (.int p0), .val (.int p1), .val (.int p2), .val (.int p3), .val (.long q4), .second, .val (.int p5), .unset, .unset, .unset, .unset, .unset, .unset, .unset, .unset, .unset, .unset, .unset, .unset, .unset, .unset, .unset, .unset, .unset, .unset, .unset, .unset, .unset, .unset, .unset]) (plainFor_of_name pn286) (fun m => ef0 m p0 p1 p2 p3 q4 p5) ?_
  intro p e s m below meth c s₁ hx hby hml hown hnm hret hlk hZ X0 e0
  have N0 := Fr.nil n0
  have K0 : Keep h0 h0 [] := Keep.refl h0 _
  refine Go.st (t' := s₁.setTop (mkF m 8 #[.val (.int p0), .val (.int p1), .val (.int p2), .val (.int p3), .val (.long q4), .second, .val (.int p5), .val (.int ((1 : Int32) + (p5 &&& (1 : Int32)))), .unset, .unset, .unset, .unset, .unset, .unset, .unset, .unset, .unset, .unset, .unset, .unset, .unset, .unset, .unset, .unset, .unset, .unset, .unset, .unset, .unset, .unset] [])) (fun target kt => ?_) ?_
  · refine XS.iconst X0.here hx rfl (hb hby at_0) ?_
    refine XS.iload X0.here hx rfl (hb hby at_1) rfl ?_
    refine XS.iconst X0.here hx rfl (hb hby at_3) ?_
    refine XS.iand X0.here hx rfl (hb hby at_4) rfl ?_
    refine XS.iadd X0.here hx rfl (hb hby at_5) rfl ?_
    refine XS.istore X0.here hx rfl (hb hby at_6) rfl (l' := #[.val (.int p0), .val (.int p1), .val (.int p2), .val (.int p3), .val (.long q4), .second, .val (.int p5), .val (.int ((1 : Int32) + (p5 &&& (1 : Int32)))), .unset, .unset, .unset, .unset, .unset, .unset, .unset, .unset, .unset, .unset, .unset, .unset, .unset, .unset, .unset, .unset, .unset, .unset, .unset, .unset, .unset, .unset]) rfl ?_
    exact kt
  obtain ⟨cn, h_cn⟩ : ∃ z, z = ((1 : Int32) + (p5 &&& (1 : Int32))) := ⟨_, rfl⟩
  rw [← h_cn]
  show Go _ _ _ _ _ _ _ (s₁.setTop (mkF m 8 _ []))
  refine Go.st (t' := s₁.setTop (mkF m 45 #[.val (.int p0), .val (.int p1), .val (.int p2), .val (.int p3), .val (.long q4), .second, .val (.int p5), .val (.int cn), .val (.double (FP.l2d (((q4.toInt32).toInt16.toInt32).toInt64))), .second, .val (.double (FP.l2d (((((q4.toUInt64 >>> ((16 : Int32) &&& 0x3f).toInt64.toUInt64).toInt64).toInt32).toInt16.toInt32).toInt64))), .second, .val (.double (FP.l2d (((((q4.toUInt64 >>> ((32 : Int32) &&& 0x3f).toInt64.toUInt64).toInt64).toInt32).toInt16.toInt32).toInt64))), .second, .val (.double (FP.l2d (((((q4.toUInt64 >>> ((48 : Int32) &&& 0x3f).toInt64.toUInt64).toInt64).toInt32).toInt16.toInt32).toInt64))), .second, .unset, .unset, .unset, .unset, .unset, .unset, .unset, .unset, .unset, .unset, .unset, .unset, .unset, .unset] [])) (fun target kt => ?_) ?_
  · refine XS.lload X0.here hx rfl (hb hby at_8) rfl ?_
    refine XS.l2i X0.here hx rfl (hb hby at_10) rfl ?_
    refine XS.i2s X0.here hx rfl (hb hby at_11) rfl ?_
    refine XS.i2dS X0.here hx rfl (hb hby at_12) rfl (i2d_w ((q4.toInt32).toInt16.toInt32)) ?_
    refine XS.dstore X0.here hx rfl (hb hby at_13) rfl (l' := #[.val (.int p0), .val (.int p1), .val (.int p2), .val (.int p3), .val (.long q4), .second, .val (.int p5), .val (.int cn), .val (.double (FP.l2d (((q4.toInt32).toInt16.toInt32).toInt64))), .second, .unset, .unset, .unset, .unset, .unset, .unset, .unset, .unset, .unset, .unset, .unset, .unset, .unset, .unset, .unset, .unset, .unset, .unset, .unset, .unset]) rfl ?_
    refine XS.lload X0.here hx rfl (hb hby at_15) rfl ?_
    refine XS.bipush X0.here hx rfl (hb hby at_17) ?_
    refine XS.lushr X0.here hx rfl (hb hby at_19) rfl ?_
    refine XS.l2i X0.here hx rfl (hb hby at_20) rfl ?_
    refine XS.i2s X0.here hx rfl (hb hby at_21) rfl ?_
    refine XS.i2dS X0.here hx rfl (hb hby at_22) rfl (i2d_w ((((q4.toUInt64 >>> ((16 : Int32) &&& 0x3f).toInt64.toUInt64).toInt64).toInt32).toInt16.toInt32)) ?_
    refine XS.dstore X0.here hx rfl (hb hby at_23) rfl (l' := #[.val (.int p0), .val (.int p1), .val (.int p2), .val (.int p3), .val (.long q4), .second, .val (.int p5), .val (.int cn), .val (.double (FP.l2d (((q4.toInt32).toInt16.toInt32).toInt64))), .second, .val (.double (FP.l2d (((((q4.toUInt64 >>> ((16 : Int32) &&& 0x3f).toInt64.toUInt64).toInt64).toInt32).toInt16.toInt32).toInt64))), .second, .unset, .unset, .unset, .unset, .unset, .unset, .unset, .unset, .unset, .unset, .unset, .unset, .unset, .unset, .unset, .unset, .unset, .unset]) rfl ?_
    refine XS.lload X0.here hx rfl (hb hby at_25) rfl ?_
    refine XS.bipush X0.here hx rfl (hb hby at_27) ?_
    refine XS.lushr X0.here hx rfl (hb hby at_29) rfl ?_
    refine XS.l2i X0.here hx rfl (hb hby at_30) rfl ?_
    refine XS.i2s X0.here hx rfl (hb hby at_31) rfl ?_
    refine XS.i2dS X0.here hx rfl (hb hby at_32) rfl (i2d_w ((((q4.toUInt64 >>> ((32 : Int32) &&& 0x3f).toInt64.toUInt64).toInt64).toInt32).toInt16.toInt32)) ?_
    refine XS.dstore X0.here hx rfl (hb hby at_33) rfl (l' := #[.val (.int p0), .val (.int p1), .val (.int p2), .val (.int p3), .val (.long q4), .second, .val (.int p5), .val (.int cn), .val (.double (FP.l2d (((q4.toInt32).toInt16.toInt32).toInt64))), .second, .val (.double (FP.l2d (((((q4.toUInt64 >>> ((16 : Int32) &&& 0x3f).toInt64.toUInt64).toInt64).toInt32).toInt16.toInt32).toInt64))), .second, .val (.double (FP.l2d (((((q4.toUInt64 >>> ((32 : Int32) &&& 0x3f).toInt64.toUInt64).toInt64).toInt32).toInt16.toInt32).toInt64))), .second, .unset, .unset, .unset, .unset, .unset, .unset, .unset, .unset, .unset, .unset, .unset, .unset, .unset, .unset, .unset, .unset]) rfl ?_
    refine XS.lload X0.here hx rfl (hb hby at_35) rfl ?_
    refine XS.bipush X0.here hx rfl (hb hby at_37) ?_
    refine XS.lushr X0.here hx rfl (hb hby at_39) rfl ?_
    refine XS.l2i X0.here hx rfl (hb hby at_40) rfl ?_
    refine XS.i2s X0.here hx rfl (hb hby at_41) rfl ?_
    refine XS.i2dS X0.here hx rfl (hb hby at_42) rfl (i2d_w ((((q4.toUInt64 >>> ((48 : Int32) &&& 0x3f).toInt64.toUInt64).toInt64).toInt32).toInt16.toInt32)) ?_
    refine XS.dstore X0.here hx rfl (hb hby at_43) rfl (l' := #[.val (.int p0), .val (.int p1), .val (.int p2), .val (.int p3), .val (.long q4), .second, .val (.int p5), .val (.int cn), .val (.double (FP.l2d (((q4.toInt32).toInt16.toInt32).toInt64))), .second, .val (.double (FP.l2d (((((q4.toUInt64 >>> ((16 : Int32) &&& 0x3f).toInt64.toUInt64).toInt64).toInt32).toInt16.toInt32).toInt64))), .second, .val (.double (FP.l2d (((((q4.toUInt64 >>> ((32 : Int32) &&& 0x3f).toInt64.toUInt64).toInt64).toInt32).toInt16.toInt32).toInt64))), .second, .val (.double (FP.l2d (((((q4.toUInt64 >>> ((48 : Int32) &&& 0x3f).toInt64.toUInt64).toInt64).toInt32).toInt16.toInt32).toInt64))), .second, .unset, .unset, .unset, .unset, .unset, .unset, .unset, .unset, .unset, .unset, .unset, .unset, .unset, .unset]) rfl ?_
    exact kt
  obtain ⟨ld1, h_ld1⟩ : ∃ z, z = (((q4.toInt32).toInt16.toInt32).toInt64) := ⟨_, rfl⟩
  rw [← h_ld1]
  show Go _ _ _ _ _ _ _ (s₁.setTop (mkF m 45 _ []))
  obtain ⟨ld2, h_ld2⟩ : ∃ z, z = (((((q4.toUInt64 >>> ((16 : Int32) &&& 0x3f).toInt64.toUInt64).toInt64).toInt32).toInt16.toInt32).toInt64) := ⟨_, rfl⟩
  rw [← h_ld2]
  show Go _ _ _ _ _ _ _ (s₁.setTop (mkF m 45 _ []))
  obtain ⟨ld3, h_ld3⟩ : ∃ z, z = (((((q4.toUInt64 >>> ((32 : Int32) &&& 0x3f).toInt64.toUInt64).toInt64).toInt32).toInt16.toInt32).toInt64) := ⟨_, rfl⟩
  rw [← h_ld3]
  show Go _ _ _ _ _ _ _ (s₁.setTop (mkF m 45 _ []))
  obtain ⟨ld4, h_ld4⟩ : ∃ z, z = (((((q4.toUInt64 >>> ((48 : Int32) &&& 0x3f).toInt64.toUInt64).toInt64).toInt32).toInt16.toInt32).toInt64) := ⟨_, rfl⟩
  rw [← h_ld4]
  show Go _ _ _ _ _ _ _ (s₁.setTop (mkF m 45 _ []))
  refine Go.st (t' := s₁.setTop (mkF m 46 #[.val (.int p0), .val (.int p1), .val (.int p2), .val (.int p3), .val (.long q4), .second, .val (.int p5), .val (.int cn), .val (.double (FP.l2d ld1)), .second, .val (.double (FP.l2d ld2)), .second, .val (.double (FP.l2d ld3)), .second, .val (.double (FP.l2d ld4)), .second, .unset, .unset, .unset, .unset, .unset, .unset, .unset, .unset, .unset, .unset, .unset, .unset, .unset, .unset] [(.int 2)])) (fun target kt => ?_) ?_
  · refine XS.iconst X0.here hx rfl (hb hby at_45) ?_
    exact kt
  obtain ⟨T10, h10, k10, X10, e10, E10, A10, B10, st10⟩ := newPE (aty := .int) X0 hx hZ (hw _ tw0) e0 (g := (mkF m 46 #[.val (.int p0), .val (.int p1), .val (.int p2), .val (.int p3), .val (.long q4), .second, .val (.int p5), .val (.int cn), .val (.double (FP.l2d ld1)), .second, .val (.double (FP.l2d ld2)), .second, .val (.double (FP.l2d ld3)), .second, .val (.double (FP.l2d ld4)), .second, .unset, .unset, .unset, .unset, .unset, .unset, .unset, .unset, .unset, .unset, .unset, .unset, .unset, .unset] [(.int 2)])) rfl (hb hby at_46) rfl (by decide) (cap := 2) (by decide) (by decide) (by decide) (by decide) (ad := "[I") (by decide)
  obtain ⟨b10, g10⟩ : ∃ z, z = h0.size := ⟨_, rfl⟩
  rw [← g10] at A10 B10 st10
  have lb11 : h0.size ≤ b10 := Nat.le_of_eq g10.symm
  have sz12 : h0.size ≤ b10 := Nat.le_trans K0.1 lb11
  have g13 : n0 ≤ b10 := Nat.le_trans Z0 sz12
  have K14 := K0.ext E10
  have O15 := O0.ext E10
  have V16 : Arv Z h10 b10 k10 .int (2 : Int32) [(.int 0), (.int 0)] (.int 0) := (Arv.new A10 (by decide)).pad (pad_rep [] (.int 0) 2)
  refine Go.st st10 ?_
  refine Go.st (t' := T10.setTop (mkF m 51 #[.val (.int p0), .val (.int p1), .val (.int p2), .val (.int p3), .val (.long q4), .second, .val (.int p5), .val (.int cn), .val (.double (FP.l2d ld1)), .second, .val (.double (FP.l2d ld2)), .second, .val (.double (FP.l2d ld3)), .second, .val (.double (FP.l2d ld4)), .second, .unset, .unset, .unset, .unset, .unset, .unset, .unset, .unset, .unset, .unset, .unset, .unset, .unset, .unset] [(.int p0), (.int 0), (.ref b10), (.ref b10)])) (fun target kt => ?_) ?_
  · refine XS.dup X10.here hx rfl (hb hby at_48) rfl rfl ?_
    refine XS.iconst X10.here hx rfl (hb hby at_49) ?_
    refine XS.iloadN X10.here hx rfl (hb hby at_50) rfl ?_
    exact kt
  obtain ⟨cl17, Ar17, q17, S17, M17, H17, G17⟩ := id V16
  have hin17 : ¬ ((0 : Int32) < 0 ∨ cl17.slots.size ≤ ((0 : Int32)).toNatClampNeg) := inb_of S17 ⟨by decide, by decide⟩
  obtain ⟨T17, h17, X17, e17, W17, st17⟩ := stI X10 hx hZ e10 Ar17 (j := (0 : Int32)) hin17 (g := (mkF m 51 #[.val (.int p0), .val (.int p1), .val (.int p2), .val (.int p3), .val (.long q4), .second, .val (.int p5), .val (.int cn), .val (.double (FP.l2d ld1)), .second, .val (.double (FP.l2d ld2)), .second, .val (.double (FP.l2d ld3)), .second, .val (.double (FP.l2d ld4)), .second, .unset, .unset, .unset, .unset, .unset, .unset, .unset, .unset, .unset, .unset, .unset, .unset, .unset, .unset] [(.int p0), (.int 0), (.ref b10), (.ref b10)])) rfl rfl (hb hby at_51)
  have V18 : Arv Z h17 b10 k10 .int (2 : Int32) [(.int p0), (.int 0)] (.int 0) := Arv.set Ar17 q17 S17 M17 H17 G17 rfl W17 0 rfl (Nat.le_of_ble_eq_true rfl)
  have K19 := K14.wr W17 (Or.inr sz12)
  have O20 := O15.wr W17 g13
  have N17 := Fr.snoc X17 N0 g13
  refine Go.st st17 ?_
  refine Go.st (t' := T17.setTop (mkF m 55 #[.val (.int p0), .val (.int p1), .val (.int p2), .val (.int p3), .val (.long q4), .second, .val (.int p5), .val (.int cn), .val (.double (FP.l2d ld1)), .second, .val (.double (FP.l2d ld2)), .second, .val (.double (FP.l2d ld3)), .second, .val (.double (FP.l2d ld4)), .second, .unset, .unset, .unset, .unset, .unset, .unset, .unset, .unset, .unset, .unset, .unset, .unset, .unset, .unset] [(.int p1), (.int 1), (.ref b10), (.ref b10)])) (fun target kt => ?_) ?_
  · refine XS.dup X17.here hx rfl (hb hby at_52) rfl rfl ?_
    refine XS.iconst X17.here hx rfl (hb hby at_53) ?_
    refine XS.iloadN X17.here hx rfl (hb hby at_54) rfl ?_
    exact kt
  obtain ⟨cl21, Ar21, q21, S21, M21, H21, G21⟩ := id V18
  have hin21 : ¬ ((1 : Int32) < 0 ∨ cl21.slots.size ≤ ((1 : Int32)).toNatClampNeg) := inb_of S21 ⟨by decide, by decide⟩
  obtain ⟨T21, h21, X21, e21, W21, st21⟩ := stI X17 hx hZ e17 Ar21 (j := (1 : Int32)) hin21 (g := (mkF m 55 #[.val (.int p0), .val (.int p1), .val (.int p2), .val (.int p3), .val (.long q4), .second, .val (.int p5), .val (.int cn), .val (.double (FP.l2d ld1)), .second, .val (.double (FP.l2d ld2)), .second, .val (.double (FP.l2d ld3)), .second, .val (.double (FP.l2d ld4)), .second, .unset, .unset, .unset, .unset, .unset, .unset, .unset, .unset, .unset, .unset, .unset, .unset, .unset, .unset] [(.int p1), (.int 1), (.ref b10), (.ref b10)])) rfl rfl (hb hby at_55)
  have V22 : Arv Z h21 b10 k10 .int (2 : Int32) [(.int p0), (.int p1)] (.int 0) := Arv.set Ar21 q21 S21 M21 H21 G21 rfl W21 1 rfl (Nat.le_of_ble_eq_true rfl)
  have K23 := K19.wr W21 (Or.inr sz12)
  have O24 := O20.wr W21 g13
  have N21 := Fr.snoc X21 N17 g13
  refine Go.st st21 ?_
  refine Go.st (t' := T21.setTop (mkF m 59 #[.val (.int p0), .val (.int p1), .val (.int p2), .val (.int p3), .val (.long q4), .second, .val (.int p5), .val (.int cn), .val (.double (FP.l2d ld1)), .second, .val (.double (FP.l2d ld2)), .second, .val (.double (FP.l2d ld3)), .second, .val (.double (FP.l2d ld4)), .second, .val (.ref b10), .unset, .unset, .unset, .unset, .unset, .unset, .unset, .unset, .unset, .unset, .unset, .unset, .unset] [(.int 2)])) (fun target kt => ?_) ?_
  · refine XS.astore X21.here hx rfl (hb hby at_56) rfl rfl (l' := #[.val (.int p0), .val (.int p1), .val (.int p2), .val (.int p3), .val (.long q4), .second, .val (.int p5), .val (.int cn), .val (.double (FP.l2d ld1)), .second, .val (.double (FP.l2d ld2)), .second, .val (.double (FP.l2d ld3)), .second, .val (.double (FP.l2d ld4)), .second, .val (.ref b10), .unset, .unset, .unset, .unset, .unset, .unset, .unset, .unset, .unset, .unset, .unset, .unset, .unset]) rfl ?_
    refine XS.iconst X21.here hx rfl (hb hby at_58) ?_
    exact kt
  obtain ⟨T25, h25, k25, X25, e25, E25, A25, B25, st25⟩ := newPE (aty := .int) X21 hx hZ (hw _ tw0) e21 (g := (mkF m 59 #[.val (.int p0), .val (.int p1), .val (.int p2), .val (.int p3), .val (.long q4), .second, .val (.int p5), .val (.int cn), .val (.double (FP.l2d ld1)), .second, .val (.double (FP.l2d ld2)), .second, .val (.double (FP.l2d ld3)), .second, .val (.double (FP.l2d ld4)), .second, .val (.ref b10), .unset, .unset, .unset, .unset, .unset, .unset, .unset, .unset, .unset, .unset, .unset, .unset, .unset] [(.int 2)])) rfl (hb hby at_59) rfl (by decide) (cap := 2) (by decide) (by decide) (by decide) (by decide) (ad := "[I") (by decide)
  obtain ⟨b25, g25⟩ : ∃ z, z = h21.size := ⟨_, rfl⟩
  rw [← g25] at A25 B25 st25
  have lb26 : h21.size ≤ b25 := Nat.le_of_eq g25.symm
  have sz27 : h0.size ≤ b25 := Nat.le_trans K23.1 lb26
  have g28 : n0 ≤ b25 := Nat.le_trans Z0 sz27
  have K29 := K23.ext E25
  have O30 := O24.ext E25
  have V31 : Arv Z h25 b25 k25 .int (2 : Int32) [(.int 0), (.int 0)] (.int 0) := (Arv.new A25 (by decide)).pad (pad_rep [] (.int 0) 2)
  refine Go.st st25 ?_
  refine Go.st (t' := T25.setTop (mkF m 64 #[.val (.int p0), .val (.int p1), .val (.int p2), .val (.int p3), .val (.long q4), .second, .val (.int p5), .val (.int cn), .val (.double (FP.l2d ld1)), .second, .val (.double (FP.l2d ld2)), .second, .val (.double (FP.l2d ld3)), .second, .val (.double (FP.l2d ld4)), .second, .val (.ref b10), .unset, .unset, .unset, .unset, .unset, .unset, .unset, .unset, .unset, .unset, .unset, .unset, .unset] [(.int p2), (.int 0), (.ref b25), (.ref b25)])) (fun target kt => ?_) ?_
  · refine XS.dup X25.here hx rfl (hb hby at_61) rfl rfl ?_
    refine XS.iconst X25.here hx rfl (hb hby at_62) ?_
    refine XS.iloadN X25.here hx rfl (hb hby at_63) rfl ?_
    exact kt
  obtain ⟨cl32, Ar32, q32, S32, M32, H32, G32⟩ := id V31
  have hin32 : ¬ ((0 : Int32) < 0 ∨ cl32.slots.size ≤ ((0 : Int32)).toNatClampNeg) := inb_of S32 ⟨by decide, by decide⟩
  obtain ⟨T32, h32, X32, e32, W32, st32⟩ := stI X25 hx hZ e25 Ar32 (j := (0 : Int32)) hin32 (g := (mkF m 64 #[.val (.int p0), .val (.int p1), .val (.int p2), .val (.int p3), .val (.long q4), .second, .val (.int p5), .val (.int cn), .val (.double (FP.l2d ld1)), .second, .val (.double (FP.l2d ld2)), .second, .val (.double (FP.l2d ld3)), .second, .val (.double (FP.l2d ld4)), .second, .val (.ref b10), .unset, .unset, .unset, .unset, .unset, .unset, .unset, .unset, .unset, .unset, .unset, .unset, .unset] [(.int p2), (.int 0), (.ref b25), (.ref b25)])) rfl rfl (hb hby at_64)
  have V33 : Arv Z h32 b25 k25 .int (2 : Int32) [(.int p2), (.int 0)] (.int 0) := Arv.set Ar32 q32 S32 M32 H32 G32 rfl W32 0 rfl (Nat.le_of_ble_eq_true rfl)
  have K34 := K29.wr W32 (Or.inr sz27)
  have O35 := O30.wr W32 g28
  have N32 := Fr.snoc X32 N21 g28
  refine Go.st st32 ?_
  refine Go.st (t' := T32.setTop (mkF m 68 #[.val (.int p0), .val (.int p1), .val (.int p2), .val (.int p3), .val (.long q4), .second, .val (.int p5), .val (.int cn), .val (.double (FP.l2d ld1)), .second, .val (.double (FP.l2d ld2)), .second, .val (.double (FP.l2d ld3)), .second, .val (.double (FP.l2d ld4)), .second, .val (.ref b10), .unset, .unset, .unset, .unset, .unset, .unset, .unset, .unset, .unset, .unset, .unset, .unset, .unset] [(.int p3), (.int 1), (.ref b25), (.ref b25)])) (fun target kt => ?_) ?_
  · refine XS.dup X32.here hx rfl (hb hby at_65) rfl rfl ?_
    refine XS.iconst X32.here hx rfl (hb hby at_66) ?_
    refine XS.iloadN X32.here hx rfl (hb hby at_67) rfl ?_
    exact kt
  obtain ⟨cl36, Ar36, q36, S36, M36, H36, G36⟩ := id V33
  have hin36 : ¬ ((1 : Int32) < 0 ∨ cl36.slots.size ≤ ((1 : Int32)).toNatClampNeg) := inb_of S36 ⟨by decide, by decide⟩
  obtain ⟨T36, h36, X36, e36, W36, st36⟩ := stI X32 hx hZ e32 Ar36 (j := (1 : Int32)) hin36 (g := (mkF m 68 #[.val (.int p0), .val (.int p1), .val (.int p2), .val (.int p3), .val (.long q4), .second, .val (.int p5), .val (.int cn), .val (.double (FP.l2d ld1)), .second, .val (.double (FP.l2d ld2)), .second, .val (.double (FP.l2d ld3)), .second, .val (.double (FP.l2d ld4)), .second, .val (.ref b10), .unset, .unset, .unset, .unset, .unset, .unset, .unset, .unset, .unset, .unset, .unset, .unset, .unset] [(.int p3), (.int 1), (.ref b25), (.ref b25)])) rfl rfl (hb hby at_68)
  have V37 : Arv Z h36 b25 k25 .int (2 : Int32) [(.int p2), (.int p3)] (.int 0) := Arv.set Ar36 q36 S36 M36 H36 G36 rfl W36 1 rfl (Nat.le_of_ble_eq_true rfl)
  have K38 := K34.wr W36 (Or.inr sz27)
  have O39 := O35.wr W36 g28
  have N36 := Fr.snoc X36 N32 g28
  refine Go.st st36 ?_
  refine Go.st (t' := T36.setTop (mkF m 72 #[.val (.int p0), .val (.int p1), .val (.int p2), .val (.int p3), .val (.long q4), .second, .val (.int p5), .val (.int cn), .val (.double (FP.l2d ld1)), .second, .val (.double (FP.l2d ld2)), .second, .val (.double (FP.l2d ld3)), .second, .val (.double (FP.l2d ld4)), .second, .val (.ref b10), .val (.ref b25), .unset, .unset, .unset, .unset, .unset, .unset, .unset, .unset, .unset, .unset, .unset, .unset] [(.int 2)])) (fun target kt => ?_) ?_
  · refine XS.astore X36.here hx rfl (hb hby at_69) rfl rfl (l' := #[.val (.int p0), .val (.int p1), .val (.int p2), .val (.int p3), .val (.long q4), .second, .val (.int p5), .val (.int cn), .val (.double (FP.l2d ld1)), .second, .val (.double (FP.l2d ld2)), .second, .val (.double (FP.l2d ld3)), .second, .val (.double (FP.l2d ld4)), .second, .val (.ref b10), .val (.ref b25), .unset, .unset, .unset, .unset, .unset, .unset, .unset, .unset, .unset, .unset, .unset, .unset]) rfl ?_
    refine XS.iconst X36.here hx rfl (hb hby at_71) ?_
    exact kt
  obtain ⟨T40, h40, k40, X40, e40, E40, A40, B40, st40⟩ := newPE (aty := .double) X36 hx hZ (hw _ tw1) e36 (g := (mkF m 72 #[.val (.int p0), .val (.int p1), .val (.int p2), .val (.int p3), .val (.long q4), .second, .val (.int p5), .val (.int cn), .val (.double (FP.l2d ld1)), .second, .val (.double (FP.l2d ld2)), .second, .val (.double (FP.l2d ld3)), .second, .val (.double (FP.l2d ld4)), .second, .val (.ref b10), .val (.ref b25), .unset, .unset, .unset, .unset, .unset, .unset, .unset, .unset, .unset, .unset, .unset, .unset] [(.int 2)])) rfl (hb hby at_72) rfl (by decide) (cap := 2) (by decide) (by decide) (by decide) (by decide) (ad := "[D") (by decide)
  obtain ⟨b40, g40⟩ : ∃ z, z = h36.size := ⟨_, rfl⟩
  rw [← g40] at A40 B40 st40
  have lb41 : h36.size ≤ b40 := Nat.le_of_eq g40.symm
  have sz42 : h0.size ≤ b40 := Nat.le_trans K38.1 lb41
  have g43 : n0 ≤ b40 := Nat.le_trans Z0 sz42
  have K44 := K38.ext E40
  have O45 := O39.ext E40
  have V46 : Arv Z h40 b40 k40 .double (2 : Int32) [(.double (FP.l2d 0)), (.double (FP.l2d 0))] (.double (FP.l2d 0)) := (Arv.newD A40 (by decide)).pad (pad_rep [] (.double (FP.l2d 0)) 2)
  refine Go.st st40 ?_
  refine Go.st (t' := T40.setTop (mkF m 78 #[.val (.int p0), .val (.int p1), .val (.int p2), .val (.int p3), .val (.long q4), .second, .val (.int p5), .val (.int cn), .val (.double (FP.l2d ld1)), .second, .val (.double (FP.l2d ld2)), .second, .val (.double (FP.l2d ld3)), .second, .val (.double (FP.l2d ld4)), .second, .val (.ref b10), .val (.ref b25), .unset, .unset, .unset, .unset, .unset, .unset, .unset, .unset, .unset, .unset, .unset, .unset] [(.double (FP.l2d ld1)), (.int 0), (.ref b40), (.ref b40)])) (fun target kt => ?_) ?_
  · refine XS.dup X40.here hx rfl (hb hby at_74) rfl rfl ?_
    refine XS.iconst X40.here hx rfl (hb hby at_75) ?_
    refine XS.dload X40.here hx rfl (hb hby at_76) rfl ?_
    exact kt
  obtain ⟨cl47, Ar47, q47, S47, M47, H47, G47⟩ := id V46
  have hin47 : ¬ ((0 : Int32) < 0 ∨ cl47.slots.size ≤ ((0 : Int32)).toNatClampNeg) := inb_of S47 ⟨by decide, by decide⟩
  obtain ⟨T47, h47, X47, e47, W47, st47⟩ := stD X40 hx hZ e40 Ar47 (j := (0 : Int32)) hin47 (g := (mkF m 78 #[.val (.int p0), .val (.int p1), .val (.int p2), .val (.int p3), .val (.long q4), .second, .val (.int p5), .val (.int cn), .val (.double (FP.l2d ld1)), .second, .val (.double (FP.l2d ld2)), .second, .val (.double (FP.l2d ld3)), .second, .val (.double (FP.l2d ld4)), .second, .val (.ref b10), .val (.ref b25), .unset, .unset, .unset, .unset, .unset, .unset, .unset, .unset, .unset, .unset, .unset, .unset] [(.double (FP.l2d ld1)), (.int 0), (.ref b40), (.ref b40)])) rfl rfl (hb hby at_78)
  have V48 : Arv Z h47 b40 k40 .double (2 : Int32) [(.double (FP.l2d ld1)), (.double (FP.l2d 0))] (.double (FP.l2d 0)) := Arv.set Ar47 q47 S47 M47 H47 G47 rfl W47 0 rfl (Nat.le_of_ble_eq_true rfl)
  have K49 := K44.wr W47 (Or.inr sz42)
  have O50 := O45.wr W47 g43
  have N47 := Fr.snoc X47 N36 g43
  refine Go.st st47 ?_
  refine Go.st (t' := T47.setTop (mkF m 83 #[.val (.int p0), .val (.int p1), .val (.int p2), .val (.int p3), .val (.long q4), .second, .val (.int p5), .val (.int cn), .val (.double (FP.l2d ld1)), .second, .val (.double (FP.l2d ld2)), .second, .val (.double (FP.l2d ld3)), .second, .val (.double (FP.l2d ld4)), .second, .val (.ref b10), .val (.ref b25), .unset, .unset, .unset, .unset, .unset, .unset, .unset, .unset, .unset, .unset, .unset, .unset] [(.double (FP.l2d ld2)), (.int 1), (.ref b40), (.ref b40)])) (fun target kt => ?_) ?_
  · refine XS.dup X47.here hx rfl (hb hby at_79) rfl rfl ?_
    refine XS.iconst X47.here hx rfl (hb hby at_80) ?_
    refine XS.dload X47.here hx rfl (hb hby at_81) rfl ?_
    exact kt
  obtain ⟨cl51, Ar51, q51, S51, M51, H51, G51⟩ := id V48
  have hin51 : ¬ ((1 : Int32) < 0 ∨ cl51.slots.size ≤ ((1 : Int32)).toNatClampNeg) := inb_of S51 ⟨by decide, by decide⟩
  obtain ⟨T51, h51, X51, e51, W51, st51⟩ := stD X47 hx hZ e47 Ar51 (j := (1 : Int32)) hin51 (g := (mkF m 83 #[.val (.int p0), .val (.int p1), .val (.int p2), .val (.int p3), .val (.long q4), .second, .val (.int p5), .val (.int cn), .val (.double (FP.l2d ld1)), .second, .val (.double (FP.l2d ld2)), .second, .val (.double (FP.l2d ld3)), .second, .val (.double (FP.l2d ld4)), .second, .val (.ref b10), .val (.ref b25), .unset, .unset, .unset, .unset, .unset, .unset, .unset, .unset, .unset, .unset, .unset, .unset] [(.double (FP.l2d ld2)), (.int 1), (.ref b40), (.ref b40)])) rfl rfl (hb hby at_83)
  have V52 : Arv Z h51 b40 k40 .double (2 : Int32) [(.double (FP.l2d ld1)), (.double (FP.l2d ld2))] (.double (FP.l2d 0)) := Arv.set Ar51 q51 S51 M51 H51 G51 rfl W51 1 rfl (Nat.le_of_ble_eq_true rfl)
  have K53 := K49.wr W51 (Or.inr sz42)
  have O54 := O50.wr W51 g43
  have N51 := Fr.snoc X51 N47 g43
  refine Go.st st51 ?_
  refine Go.st (t' := T51.setTop (mkF m 87 #[.val (.int p0), .val (.int p1), .val (.int p2), .val (.int p3), .val (.long q4), .second, .val (.int p5), .val (.int cn), .val (.double (FP.l2d ld1)), .second, .val (.double (FP.l2d ld2)), .second, .val (.double (FP.l2d ld3)), .second, .val (.double (FP.l2d ld4)), .second, .val (.ref b10), .val (.ref b25), .val (.ref b40), .unset, .unset, .unset, .unset, .unset, .unset, .unset, .unset, .unset, .unset, .unset] [(.int 2)])) (fun target kt => ?_) ?_
  · refine XS.astore X51.here hx rfl (hb hby at_84) rfl rfl (l' := #[.val (.int p0), .val (.int p1), .val (.int p2), .val (.int p3), .val (.long q4), .second, .val (.int p5), .val (.int cn), .val (.double (FP.l2d ld1)), .second, .val (.double (FP.l2d ld2)), .second, .val (.double (FP.l2d ld3)), .second, .val (.double (FP.l2d ld4)), .second, .val (.ref b10), .val (.ref b25), .val (.ref b40), .unset, .unset, .unset, .unset, .unset, .unset, .unset, .unset, .unset, .unset, .unset]) rfl ?_
    refine XS.iconst X51.here hx rfl (hb hby at_86) ?_
    exact kt
  obtain ⟨T55, h55, k55, X55, e55, E55, A55, B55, st55⟩ := newPE (aty := .int) X51 hx hZ (hw _ tw0) e51 (g := (mkF m 87 #[.val (.int p0), .val (.int p1), .val (.int p2), .val (.int p3), .val (.long q4), .second, .val (.int p5), .val (.int cn), .val (.double (FP.l2d ld1)), .second, .val (.double (FP.l2d ld2)), .second, .val (.double (FP.l2d ld3)), .second, .val (.double (FP.l2d ld4)), .second, .val (.ref b10), .val (.ref b25), .val (.ref b40), .unset, .unset, .unset, .unset, .unset, .unset, .unset, .unset, .unset, .unset, .unset] [(.int 2)])) rfl (hb hby at_87) rfl (by decide) (cap := 2) (by decide) (by decide) (by decide) (by decide) (ad := "[I") (by decide)
  obtain ⟨b55, g55⟩ : ∃ z, z = h51.size := ⟨_, rfl⟩
  rw [← g55] at A55 B55 st55
  have lb56 : h51.size ≤ b55 := Nat.le_of_eq g55.symm
  have sz57 : h0.size ≤ b55 := Nat.le_trans K53.1 lb56
  have g58 : n0 ≤ b55 := Nat.le_trans Z0 sz57
  have K59 := K53.ext E55
  have O60 := O54.ext E55
  have V61 : Arv Z h55 b55 k55 .int (2 : Int32) [(.int 0), (.int 0)] (.int 0) := (Arv.new A55 (by decide)).pad (pad_rep [] (.int 0) 2)
  refine Go.st st55 ?_
  refine Go.st (t' := T55.setTop (mkF m 92 #[.val (.int p0), .val (.int p1), .val (.int p2), .val (.int p3), .val (.long q4), .second, .val (.int p5), .val (.int cn), .val (.double (FP.l2d ld1)), .second, .val (.double (FP.l2d ld2)), .second, .val (.double (FP.l2d ld3)), .second, .val (.double (FP.l2d ld4)), .second, .val (.ref b10), .val (.ref b25), .val (.ref b40), .unset, .unset, .unset, .unset, .unset, .unset, .unset, .unset, .unset, .unset, .unset] [(.int p3), (.int 0), (.ref b55), (.ref b55)])) (fun target kt => ?_) ?_
  · refine XS.dup X55.here hx rfl (hb hby at_89) rfl rfl ?_
    refine XS.iconst X55.here hx rfl (hb hby at_90) ?_
    refine XS.iloadN X55.here hx rfl (hb hby at_91) rfl ?_
    exact kt
  obtain ⟨cl62, Ar62, q62, S62, M62, H62, G62⟩ := id V61
  have hin62 : ¬ ((0 : Int32) < 0 ∨ cl62.slots.size ≤ ((0 : Int32)).toNatClampNeg) := inb_of S62 ⟨by decide, by decide⟩
  obtain ⟨T62, h62, X62, e62, W62, st62⟩ := stI X55 hx hZ e55 Ar62 (j := (0 : Int32)) hin62 (g := (mkF m 92 #[.val (.int p0), .val (.int p1), .val (.int p2), .val (.int p3), .val (.long q4), .second, .val (.int p5), .val (.int cn), .val (.double (FP.l2d ld1)), .second, .val (.double (FP.l2d ld2)), .second, .val (.double (FP.l2d ld3)), .second, .val (.double (FP.l2d ld4)), .second, .val (.ref b10), .val (.ref b25), .val (.ref b40), .unset, .unset, .unset, .unset, .unset, .unset, .unset, .unset, .unset, .unset, .unset] [(.int p3), (.int 0), (.ref b55), (.ref b55)])) rfl rfl (hb hby at_92)
  have V63 : Arv Z h62 b55 k55 .int (2 : Int32) [(.int p3), (.int 0)] (.int 0) := Arv.set Ar62 q62 S62 M62 H62 G62 rfl W62 0 rfl (Nat.le_of_ble_eq_true rfl)
  have K64 := K59.wr W62 (Or.inr sz57)
  have O65 := O60.wr W62 g58
  have N62 := Fr.snoc X62 N51 g58
  refine Go.st st62 ?_
  refine Go.st (t' := T62.setTop (mkF m 96 #[.val (.int p0), .val (.int p1), .val (.int p2), .val (.int p3), .val (.long q4), .second, .val (.int p5), .val (.int cn), .val (.double (FP.l2d ld1)), .second, .val (.double (FP.l2d ld2)), .second, .val (.double (FP.l2d ld3)), .second, .val (.double (FP.l2d ld4)), .second, .val (.ref b10), .val (.ref b25), .val (.ref b40), .unset, .unset, .unset, .unset, .unset, .unset, .unset, .unset, .unset, .unset, .unset] [(.int p2), (.int 1), (.ref b55), (.ref b55)])) (fun target kt => ?_) ?_
  · refine XS.dup X62.here hx rfl (hb hby at_93) rfl rfl ?_
    refine XS.iconst X62.here hx rfl (hb hby at_94) ?_
    refine XS.iloadN X62.here hx rfl (hb hby at_95) rfl ?_
    exact kt
  obtain ⟨cl66, Ar66, q66, S66, M66, H66, G66⟩ := id V63
  have hin66 : ¬ ((1 : Int32) < 0 ∨ cl66.slots.size ≤ ((1 : Int32)).toNatClampNeg) := inb_of S66 ⟨by decide, by decide⟩
  obtain ⟨T66, h66, X66, e66, W66, st66⟩ := stI X62 hx hZ e62 Ar66 (j := (1 : Int32)) hin66 (g := (mkF m 96 #[.val (.int p0), .val (.int p1), .val (.int p2), .val (.int p3), .val (.long q4), .second, .val (.int p5), .val (.int cn), .val (.double (FP.l2d ld1)), .second, .val (.double (FP.l2d ld2)), .second, .val (.double (FP.l2d ld3)), .second, .val (.double (FP.l2d ld4)), .second, .val (.ref b10), .val (.ref b25), .val (.ref b40), .unset, .unset, .unset, .unset, .unset, .unset, .unset, .unset, .unset, .unset, .unset] [(.int p2), (.int 1), (.ref b55), (.ref b55)])) rfl rfl (hb hby at_96)
  have V67 : Arv Z h66 b55 k55 .int (2 : Int32) [(.int p3), (.int p2)] (.int 0) := Arv.set Ar66 q66 S66 M66 H66 G66 rfl W66 1 rfl (Nat.le_of_ble_eq_true rfl)
  have K68 := K64.wr W66 (Or.inr sz57)
  have O69 := O65.wr W66 g58
  have N66 := Fr.snoc X66 N62 g58
  refine Go.st st66 ?_
  refine Go.st (t' := T66.setTop (mkF m 100 #[.val (.int p0), .val (.int p1), .val (.int p2), .val (.int p3), .val (.long q4), .second, .val (.int p5), .val (.int cn), .val (.double (FP.l2d ld1)), .second, .val (.double (FP.l2d ld2)), .second, .val (.double (FP.l2d ld3)), .second, .val (.double (FP.l2d ld4)), .second, .val (.ref b10), .val (.ref b25), .val (.ref b40), .val (.ref b55), .unset, .unset, .unset, .unset, .unset, .unset, .unset, .unset, .unset, .unset] [(.int 2)])) (fun target kt => ?_) ?_
  · refine XS.astore X66.here hx rfl (hb hby at_97) rfl rfl (l' := #[.val (.int p0), .val (.int p1), .val (.int p2), .val (.int p3), .val (.long q4), .second, .val (.int p5), .val (.int cn), .val (.double (FP.l2d ld1)), .second, .val (.double (FP.l2d ld2)), .second, .val (.double (FP.l2d ld3)), .second, .val (.double (FP.l2d ld4)), .second, .val (.ref b10), .val (.ref b25), .val (.ref b40), .val (.ref b55), .unset, .unset, .unset, .unset, .unset, .unset, .unset, .unset, .unset, .unset]) rfl ?_
    refine XS.iconst X66.here hx rfl (hb hby at_99) ?_
    exact kt
  obtain ⟨T70, h70, k70, X70, e70, E70, A70, B70, st70⟩ := newPE (aty := .double) X66 hx hZ (hw _ tw1) e66 (g := (mkF m 100 #[.val (.int p0), .val (.int p1), .val (.int p2), .val (.int p3), .val (.long q4), .second, .val (.int p5), .val (.int cn), .val (.double (FP.l2d ld1)), .second, .val (.double (FP.l2d ld2)), .second, .val (.double (FP.l2d ld3)), .second, .val (.double (FP.l2d ld4)), .second, .val (.ref b10), .val (.ref b25), .val (.ref b40), .val (.ref b55), .unset, .unset, .unset, .unset, .unset, .unset, .unset, .unset, .unset, .unset] [(.int 2)])) rfl (hb hby at_100) rfl (by decide) (cap := 2) (by decide) (by decide) (by decide) (by decide) (ad := "[D") (by decide)
  obtain ⟨b70, g70⟩ : ∃ z, z = h66.size := ⟨_, rfl⟩
  rw [← g70] at A70 B70 st70
  have lb71 : h66.size ≤ b70 := Nat.le_of_eq g70.symm
  have sz72 : h0.size ≤ b70 := Nat.le_trans K68.1 lb71
  have g73 : n0 ≤ b70 := Nat.le_trans Z0 sz72
  have K74 := K68.ext E70
  have O75 := O69.ext E70
  have V76 : Arv Z h70 b70 k70 .double (2 : Int32) [(.double (FP.l2d 0)), (.double (FP.l2d 0))] (.double (FP.l2d 0)) := (Arv.newD A70 (by decide)).pad (pad_rep [] (.double (FP.l2d 0)) 2)
  refine Go.st st70 ?_
  refine Go.st (t' := T70.setTop (mkF m 106 #[.val (.int p0), .val (.int p1), .val (.int p2), .val (.int p3), .val (.long q4), .second, .val (.int p5), .val (.int cn), .val (.double (FP.l2d ld1)), .second, .val (.double (FP.l2d ld2)), .second, .val (.double (FP.l2d ld3)), .second, .val (.double (FP.l2d ld4)), .second, .val (.ref b10), .val (.ref b25), .val (.ref b40), .val (.ref b55), .unset, .unset, .unset, .unset, .unset, .unset, .unset, .unset, .unset, .unset] [(.double (FP.l2d ld3)), (.int 0), (.ref b70), (.ref b70)])) (fun target kt => ?_) ?_
  · refine XS.dup X70.here hx rfl (hb hby at_102) rfl rfl ?_
    refine XS.iconst X70.here hx rfl (hb hby at_103) ?_
    refine XS.dload X70.here hx rfl (hb hby at_104) rfl ?_
    exact kt
  obtain ⟨cl77, Ar77, q77, S77, M77, H77, G77⟩ := id V76
  have hin77 : ¬ ((0 : Int32) < 0 ∨ cl77.slots.size ≤ ((0 : Int32)).toNatClampNeg) := inb_of S77 ⟨by decide, by decide⟩
  obtain ⟨T77, h77, X77, e77, W77, st77⟩ := stD X70 hx hZ e70 Ar77 (j := (0 : Int32)) hin77 (g := (mkF m 106 #[.val (.int p0), .val (.int p1), .val (.int p2), .val (.int p3), .val (.long q4), .second, .val (.int p5), .val (.int cn), .val (.double (FP.l2d ld1)), .second, .val (.double (FP.l2d ld2)), .second, .val (.double (FP.l2d ld3)), .second, .val (.double (FP.l2d ld4)), .second, .val (.ref b10), .val (.ref b25), .val (.ref b40), .val (.ref b55), .unset, .unset, .unset, .unset, .unset, .unset, .unset, .unset, .unset, .unset] [(.double (FP.l2d ld3)), (.int 0), (.ref b70), (.ref b70)])) rfl rfl (hb hby at_106)
  have V78 : Arv Z h77 b70 k70 .double (2 : Int32) [(.double (FP.l2d ld3)), (.double (FP.l2d 0))] (.double (FP.l2d 0)) := Arv.set Ar77 q77 S77 M77 H77 G77 rfl W77 0 rfl (Nat.le_of_ble_eq_true rfl)
  have K79 := K74.wr W77 (Or.inr sz72)
  have O80 := O75.wr W77 g73
  have N77 := Fr.snoc X77 N66 g73
  refine Go.st st77 ?_
  refine Go.st (t' := T77.setTop (mkF m 111 #[.val (.int p0), .val (.int p1), .val (.int p2), .val (.int p3), .val (.long q4), .second, .val (.int p5), .val (.int cn), .val (.double (FP.l2d ld1)), .second, .val (.double (FP.l2d ld2)), .second, .val (.double (FP.l2d ld3)), .second, .val (.double (FP.l2d ld4)), .second, .val (.ref b10), .val (.ref b25), .val (.ref b40), .val (.ref b55), .unset, .unset, .unset, .unset, .unset, .unset, .unset, .unset, .unset, .unset] [(.double (FP.l2d ld4)), (.int 1), (.ref b70), (.ref b70)])) (fun target kt => ?_) ?_
  · refine XS.dup X77.here hx rfl (hb hby at_107) rfl rfl ?_
    refine XS.iconst X77.here hx rfl (hb hby at_108) ?_
    refine XS.dload X77.here hx rfl (hb hby at_109) rfl ?_
    exact kt
  obtain ⟨cl81, Ar81, q81, S81, M81, H81, G81⟩ := id V78
  have hin81 : ¬ ((1 : Int32) < 0 ∨ cl81.slots.size ≤ ((1 : Int32)).toNatClampNeg) := inb_of S81 ⟨by decide, by decide⟩
  obtain ⟨T81, h81, X81, e81, W81, st81⟩ := stD X77 hx hZ e77 Ar81 (j := (1 : Int32)) hin81 (g := (mkF m 111 #[.val (.int p0), .val (.int p1), .val (.int p2), .val (.int p3), .val (.long q4), .second, .val (.int p5), .val (.int cn), .val (.double (FP.l2d ld1)), .second, .val (.double (FP.l2d ld2)), .second, .val (.double (FP.l2d ld3)), .second, .val (.double (FP.l2d ld4)), .second, .val (.ref b10), .val (.ref b25), .val (.ref b40), .val (.ref b55), .unset, .unset, .unset, .unset, .unset, .unset, .unset, .unset, .unset, .unset] [(.double (FP.l2d ld4)), (.int 1), (.ref b70), (.ref b70)])) rfl rfl (hb hby at_111)
  have V82 : Arv Z h81 b70 k70 .double (2 : Int32) [(.double (FP.l2d ld3)), (.double (FP.l2d ld4))] (.double (FP.l2d 0)) := Arv.set Ar81 q81 S81 M81 H81 G81 rfl W81 1 rfl (Nat.le_of_ble_eq_true rfl)
  have K83 := K79.wr W81 (Or.inr sz72)
  have O84 := O80.wr W81 g73
  have N81 := Fr.snoc X81 N77 g73
  refine Go.st st81 ?_
  refine Go.st (t' := T81.setTop (mkF m 115 #[.val (.int p0), .val (.int p1), .val (.int p2), .val (.int p3), .val (.long q4), .second, .val (.int p5), .val (.int cn), .val (.double (FP.l2d ld1)), .second, .val (.double (FP.l2d ld2)), .second, .val (.double (FP.l2d ld3)), .second, .val (.double (FP.l2d ld4)), .second, .val (.ref b10), .val (.ref b25), .val (.ref b40), .val (.ref b55), .val (.ref b70), .unset, .unset, .unset, .unset, .unset, .unset, .unset, .unset, .unset] [(.int 2)])) (fun target kt => ?_) ?_
  · refine XS.astore X81.here hx rfl (hb hby at_112) rfl rfl (l' := #[.val (.int p0), .val (.int p1), .val (.int p2), .val (.int p3), .val (.long q4), .second, .val (.int p5), .val (.int cn), .val (.double (FP.l2d ld1)), .second, .val (.double (FP.l2d ld2)), .second, .val (.double (FP.l2d ld3)), .second, .val (.double (FP.l2d ld4)), .second, .val (.ref b10), .val (.ref b25), .val (.ref b40), .val (.ref b55), .val (.ref b70), .unset, .unset, .unset, .unset, .unset, .unset, .unset, .unset, .unset]) rfl ?_
    refine XS.iconst X81.here hx rfl (hb hby at_114) ?_
    exact kt
  obtain ⟨T85, h85, k85, X85, e85, E85, A85, B85, st85⟩ := newPE (aty := .int) X81 hx hZ (hw _ tw0) e81 (g := (mkF m 115 #[.val (.int p0), .val (.int p1), .val (.int p2), .val (.int p3), .val (.long q4), .second, .val (.int p5), .val (.int cn), .val (.double (FP.l2d ld1)), .second, .val (.double (FP.l2d ld2)), .second, .val (.double (FP.l2d ld3)), .second, .val (.double (FP.l2d ld4)), .second, .val (.ref b10), .val (.ref b25), .val (.ref b40), .val (.ref b55), .val (.ref b70), .unset, .unset, .unset, .unset, .unset, .unset, .unset, .unset, .unset] [(.int 2)])) rfl (hb hby at_115) rfl (by decide) (cap := 2) (by decide) (by decide) (by decide) (by decide) (ad := "[I") (by decide)
  obtain ⟨b85, g85⟩ : ∃ z, z = h81.size := ⟨_, rfl⟩
  rw [← g85] at A85 B85 st85
  have lb86 : h81.size ≤ b85 := Nat.le_of_eq g85.symm
  have sz87 : h0.size ≤ b85 := Nat.le_trans K83.1 lb86
  have g88 : n0 ≤ b85 := Nat.le_trans Z0 sz87
  have K89 := K83.ext E85
  have O90 := O84.ext E85
  have V91 : Arv Z h85 b85 k85 .int (2 : Int32) [(.int 0), (.int 0)] (.int 0) := (Arv.new A85 (by decide)).pad (pad_rep [] (.int 0) 2)
  refine Go.st st85 ?_
  refine Go.st (t' := T85.setTop (mkF m 121 #[.val (.int p0), .val (.int p1), .val (.int p2), .val (.int p3), .val (.long q4), .second, .val (.int p5), .val (.int cn), .val (.double (FP.l2d ld1)), .second, .val (.double (FP.l2d ld2)), .second, .val (.double (FP.l2d ld3)), .second, .val (.double (FP.l2d ld4)), .second, .val (.ref b10), .val (.ref b25), .val (.ref b40), .val (.ref b55), .val (.ref b70), .unset, .unset, .unset, .unset, .unset, .unset, .unset, .unset, .unset] [(.int 7), (.int 0), (.ref b85), (.ref b85)])) (fun target kt => ?_) ?_
  · refine XS.dup X85.here hx rfl (hb hby at_117) rfl rfl ?_
    refine XS.iconst X85.here hx rfl (hb hby at_118) ?_
    refine XS.bipush X85.here hx rfl (hb hby at_119) ?_
    exact kt
  obtain ⟨cl92, Ar92, q92, S92, M92, H92, G92⟩ := id V91
  have hin92 : ¬ ((0 : Int32) < 0 ∨ cl92.slots.size ≤ ((0 : Int32)).toNatClampNeg) := inb_of S92 ⟨by decide, by decide⟩
  obtain ⟨T92, h92, X92, e92, W92, st92⟩ := stI X85 hx hZ e85 Ar92 (j := (0 : Int32)) hin92 (g := (mkF m 121 #[.val (.int p0), .val (.int p1), .val (.int p2), .val (.int p3), .val (.long q4), .second, .val (.int p5), .val (.int cn), .val (.double (FP.l2d ld1)), .second, .val (.double (FP.l2d ld2)), .second, .val (.double (FP.l2d ld3)), .second, .val (.double (FP.l2d ld4)), .second, .val (.ref b10), .val (.ref b25), .val (.ref b40), .val (.ref b55), .val (.ref b70), .unset, .unset, .unset, .unset, .unset, .unset, .unset, .unset, .unset] [(.int 7), (.int 0), (.ref b85), (.ref b85)])) rfl rfl (hb hby at_121)
  have V93 : Arv Z h92 b85 k85 .int (2 : Int32) [(.int 7), (.int 0)] (.int 0) := Arv.set Ar92 q92 S92 M92 H92 G92 rfl W92 0 rfl (Nat.le_of_ble_eq_true rfl)
  have K94 := K89.wr W92 (Or.inr sz87)
  have O95 := O90.wr W92 g88
  have N92 := Fr.snoc X92 N81 g88
  refine Go.st st92 ?_
  refine Go.st (t' := T92.setTop (mkF m 126 #[.val (.int p0), .val (.int p1), .val (.int p2), .val (.int p3), .val (.long q4), .second, .val (.int p5), .val (.int cn), .val (.double (FP.l2d ld1)), .second, .val (.double (FP.l2d ld2)), .second, .val (.double (FP.l2d ld3)), .second, .val (.double (FP.l2d ld4)), .second, .val (.ref b10), .val (.ref b25), .val (.ref b40), .val (.ref b55), .val (.ref b70), .unset, .unset, .unset, .unset, .unset, .unset, .unset, .unset, .unset] [(.int 7), (.int 1), (.ref b85), (.ref b85)])) (fun target kt => ?_) ?_
  · refine XS.dup X92.here hx rfl (hb hby at_122) rfl rfl ?_
    refine XS.iconst X92.here hx rfl (hb hby at_123) ?_
    refine XS.bipush X92.here hx rfl (hb hby at_124) ?_
    exact kt
  obtain ⟨cl96, Ar96, q96, S96, M96, H96, G96⟩ := id V93
  have hin96 : ¬ ((1 : Int32) < 0 ∨ cl96.slots.size ≤ ((1 : Int32)).toNatClampNeg) := inb_of S96 ⟨by decide, by decide⟩
  obtain ⟨T96, h96, X96, e96, W96, st96⟩ := stI X92 hx hZ e92 Ar96 (j := (1 : Int32)) hin96 (g := (mkF m 126 #[.val (.int p0), .val (.int p1), .val (.int p2), .val (.int p3), .val (.long q4), .second, .val (.int p5), .val (.int cn), .val (.double (FP.l2d ld1)), .second, .val (.double (FP.l2d ld2)), .second, .val (.double (FP.l2d ld3)), .second, .val (.double (FP.l2d ld4)), .second, .val (.ref b10), .val (.ref b25), .val (.ref b40), .val (.ref b55), .val (.ref b70), .unset, .unset, .unset, .unset, .unset, .unset, .unset, .unset, .unset] [(.int 7), (.int 1), (.ref b85), (.ref b85)])) rfl rfl (hb hby at_126)
  have V97 : Arv Z h96 b85 k85 .int (2 : Int32) [(.int 7), (.int 7)] (.int 0) := Arv.set Ar96 q96 S96 M96 H96 G96 rfl W96 1 rfl (Nat.le_of_ble_eq_true rfl)
  have K98 := K94.wr W96 (Or.inr sz87)
  have O99 := O95.wr W96 g88
  have N96 := Fr.snoc X96 N92 g88
  refine Go.st st96 ?_
  refine Go.st (t' := T96.setTop (mkF m 130 #[.val (.int p0), .val (.int p1), .val (.int p2), .val (.int p3), .val (.long q4), .second, .val (.int p5), .val (.int cn), .val (.double (FP.l2d ld1)), .second, .val (.double (FP.l2d ld2)), .second, .val (.double (FP.l2d ld3)), .second, .val (.double (FP.l2d ld4)), .second, .val (.ref b10), .val (.ref b25), .val (.ref b40), .val (.ref b55), .val (.ref b70), .val (.ref b85), .unset, .unset, .unset, .unset, .unset, .unset, .unset, .unset] [(.int 2)])) (fun target kt => ?_) ?_
  · refine XS.astore X96.here hx rfl (hb hby at_127) rfl rfl (l' := #[.val (.int p0), .val (.int p1), .val (.int p2), .val (.int p3), .val (.long q4), .second, .val (.int p5), .val (.int cn), .val (.double (FP.l2d ld1)), .second, .val (.double (FP.l2d ld2)), .second, .val (.double (FP.l2d ld3)), .second, .val (.double (FP.l2d ld4)), .second, .val (.ref b10), .val (.ref b25), .val (.ref b40), .val (.ref b55), .val (.ref b70), .val (.ref b85), .unset, .unset, .unset, .unset, .unset, .unset, .unset, .unset]) rfl ?_
    refine XS.iconst X96.here hx rfl (hb hby at_129) ?_
    exact kt
  obtain ⟨T100, h100, k100, X100, e100, E100, A100, B100, st100⟩ := newPE (aty := .int) X96 hx hZ (hw _ tw0) e96 (g := (mkF m 130 #[.val (.int p0), .val (.int p1), .val (.int p2), .val (.int p3), .val (.long q4), .second, .val (.int p5), .val (.int cn), .val (.double (FP.l2d ld1)), .second, .val (.double (FP.l2d ld2)), .second, .val (.double (FP.l2d ld3)), .second, .val (.double (FP.l2d ld4)), .second, .val (.ref b10), .val (.ref b25), .val (.ref b40), .val (.ref b55), .val (.ref b70), .val (.ref b85), .unset, .unset, .unset, .unset, .unset, .unset, .unset, .unset] [(.int 2)])) rfl (hb hby at_130) rfl (by decide) (cap := 2) (by decide) (by decide) (by decide) (by decide) (ad := "[I") (by decide)
  obtain ⟨b100, g100⟩ : ∃ z, z = h96.size := ⟨_, rfl⟩
  rw [← g100] at A100 B100 st100
  have lb101 : h96.size ≤ b100 := Nat.le_of_eq g100.symm
  have sz102 : h0.size ≤ b100 := Nat.le_trans K98.1 lb101
  have g103 : n0 ≤ b100 := Nat.le_trans Z0 sz102
  have K104 := K98.ext E100
  have O105 := O99.ext E100
  have V106 : Arv Z h100 b100 k100 .int (2 : Int32) [(.int 0), (.int 0)] (.int 0) := (Arv.new A100 (by decide)).pad (pad_rep [] (.int 0) 2)
  refine Go.st st100 ?_
  refine Go.st (t' := T100.setTop (mkF m 136 #[.val (.int p0), .val (.int p1), .val (.int p2), .val (.int p3), .val (.long q4), .second, .val (.int p5), .val (.int cn), .val (.double (FP.l2d ld1)), .second, .val (.double (FP.l2d ld2)), .second, .val (.double (FP.l2d ld3)), .second, .val (.double (FP.l2d ld4)), .second, .val (.ref b10), .val (.ref b25), .val (.ref b40), .val (.ref b55), .val (.ref b70), .val (.ref b85), .unset, .unset, .unset, .unset, .unset, .unset, .unset, .unset] [(.int 7), (.int 0), (.ref b100), (.ref b100)])) (fun target kt => ?_) ?_
  · refine XS.dup X100.here hx rfl (hb hby at_132) rfl rfl ?_
    refine XS.iconst X100.here hx rfl (hb hby at_133) ?_
    refine XS.bipush X100.here hx rfl (hb hby at_134) ?_
    exact kt
  obtain ⟨cl107, Ar107, q107, S107, M107, H107, G107⟩ := id V106
  have hin107 : ¬ ((0 : Int32) < 0 ∨ cl107.slots.size ≤ ((0 : Int32)).toNatClampNeg) := inb_of S107 ⟨by decide, by decide⟩
  obtain ⟨T107, h107, X107, e107, W107, st107⟩ := stI X100 hx hZ e100 Ar107 (j := (0 : Int32)) hin107 (g := (mkF m 136 #[.val (.int p0), .val (.int p1), .val (.int p2), .val (.int p3), .val (.long q4), .second, .val (.int p5), .val (.int cn), .val (.double (FP.l2d ld1)), .second, .val (.double (FP.l2d ld2)), .second, .val (.double (FP.l2d ld3)), .second, .val (.double (FP.l2d ld4)), .second, .val (.ref b10), .val (.ref b25), .val (.ref b40), .val (.ref b55), .val (.ref b70), .val (.ref b85), .unset, .unset, .unset, .unset, .unset, .unset, .unset, .unset] [(.int 7), (.int 0), (.ref b100), (.ref b100)])) rfl rfl (hb hby at_136)
  have V108 : Arv Z h107 b100 k100 .int (2 : Int32) [(.int 7), (.int 0)] (.int 0) := Arv.set Ar107 q107 S107 M107 H107 G107 rfl W107 0 rfl (Nat.le_of_ble_eq_true rfl)
  have K109 := K104.wr W107 (Or.inr sz102)
  have O110 := O105.wr W107 g103
  have N107 := Fr.snoc X107 N96 g103
  refine Go.st st107 ?_
  refine Go.st (t' := T107.setTop (mkF m 141 #[.val (.int p0), .val (.int p1), .val (.int p2), .val (.int p3), .val (.long q4), .second, .val (.int p5), .val (.int cn), .val (.double (FP.l2d ld1)), .second, .val (.double (FP.l2d ld2)), .second, .val (.double (FP.l2d ld3)), .second, .val (.double (FP.l2d ld4)), .second, .val (.ref b10), .val (.ref b25), .val (.ref b40), .val (.ref b55), .val (.ref b70), .val (.ref b85), .unset, .unset, .unset, .unset, .unset, .unset, .unset, .unset] [(.int 7), (.int 1), (.ref b100), (.ref b100)])) (fun target kt => ?_) ?_
  · refine XS.dup X107.here hx rfl (hb hby at_137) rfl rfl ?_
    refine XS.iconst X107.here hx rfl (hb hby at_138) ?_
    refine XS.bipush X107.here hx rfl (hb hby at_139) ?_
    exact kt
  obtain ⟨cl111, Ar111, q111, S111, M111, H111, G111⟩ := id V108
  have hin111 : ¬ ((1 : Int32) < 0 ∨ cl111.slots.size ≤ ((1 : Int32)).toNatClampNeg) := inb_of S111 ⟨by decide, by decide⟩
  obtain ⟨T111, h111, X111, e111, W111, st111⟩ := stI X107 hx hZ e107 Ar111 (j := (1 : Int32)) hin111 (g := (mkF m 141 #[.val (.int p0), .val (.int p1), .val (.int p2), .val (.int p3), .val (.long q4), .second, .val (.int p5), .val (.int cn), .val (.double (FP.l2d ld1)), .second, .val (.double (FP.l2d ld2)), .second, .val (.double (FP.l2d ld3)), .second, .val (.double (FP.l2d ld4)), .second, .val (.ref b10), .val (.ref b25), .val (.ref b40), .val (.ref b55), .val (.ref b70), .val (.ref b85), .unset, .unset, .unset, .unset, .unset, .unset, .unset, .unset] [(.int 7), (.int 1), (.ref b100), (.ref b100)])) rfl rfl (hb hby at_141)
  have V112 : Arv Z h111 b100 k100 .int (2 : Int32) [(.int 7), (.int 7)] (.int 0) := Arv.set Ar111 q111 S111 M111 H111 G111 rfl W111 1 rfl (Nat.le_of_ble_eq_true rfl)
  have K113 := K109.wr W111 (Or.inr sz102)
  have O114 := O110.wr W111 g103
  have N111 := Fr.snoc X111 N107 g103
  refine Go.st st111 ?_
  refine Go.st (t' := T111.setTop (mkF m 145 #[.val (.int p0), .val (.int p1), .val (.int p2), .val (.int p3), .val (.long q4), .second, .val (.int p5), .val (.int cn), .val (.double (FP.l2d ld1)), .second, .val (.double (FP.l2d ld2)), .second, .val (.double (FP.l2d ld3)), .second, .val (.double (FP.l2d ld4)), .second, .val (.ref b10), .val (.ref b25), .val (.ref b40), .val (.ref b55), .val (.ref b70), .val (.ref b85), .val (.ref b100), .unset, .unset, .unset, .unset, .unset, .unset, .unset] [(.int 2)])) (fun target kt => ?_) ?_
  · refine XS.astore X111.here hx rfl (hb hby at_142) rfl rfl (l' := #[.val (.int p0), .val (.int p1), .val (.int p2), .val (.int p3), .val (.long q4), .second, .val (.int p5), .val (.int cn), .val (.double (FP.l2d ld1)), .second, .val (.double (FP.l2d ld2)), .second, .val (.double (FP.l2d ld3)), .second, .val (.double (FP.l2d ld4)), .second, .val (.ref b10), .val (.ref b25), .val (.ref b40), .val (.ref b55), .val (.ref b70), .val (.ref b85), .val (.ref b100), .unset, .unset, .unset, .unset, .unset, .unset, .unset]) rfl ?_
    refine XS.iconst X111.here hx rfl (hb hby at_144) ?_
    exact kt
  obtain ⟨T115, h115, k115, X115, e115, E115, A115, B115, st115⟩ := newPE (aty := .double) X111 hx hZ (hw _ tw1) e111 (g := (mkF m 145 #[.val (.int p0), .val (.int p1), .val (.int p2), .val (.int p3), .val (.long q4), .second, .val (.int p5), .val (.int cn), .val (.double (FP.l2d ld1)), .second, .val (.double (FP.l2d ld2)), .second, .val (.double (FP.l2d ld3)), .second, .val (.double (FP.l2d ld4)), .second, .val (.ref b10), .val (.ref b25), .val (.ref b40), .val (.ref b55), .val (.ref b70), .val (.ref b85), .val (.ref b100), .unset, .unset, .unset, .unset, .unset, .unset, .unset] [(.int 2)])) rfl (hb hby at_145) rfl (by decide) (cap := 2) (by decide) (by decide) (by decide) (by decide) (ad := "[D") (by decide)
  obtain ⟨b115, g115⟩ : ∃ z, z = h111.size := ⟨_, rfl⟩
  rw [← g115] at A115 B115 st115
  have lb116 : h111.size ≤ b115 := Nat.le_of_eq g115.symm
  have sz117 : h0.size ≤ b115 := Nat.le_trans K113.1 lb116
  have g118 : n0 ≤ b115 := Nat.le_trans Z0 sz117
  have K119 := K113.ext E115
  have O120 := O114.ext E115
  have V121 : Arv Z h115 b115 k115 .double (2 : Int32) [(.double (FP.l2d 0)), (.double (FP.l2d 0))] (.double (FP.l2d 0)) := (Arv.newD A115 (by decide)).pad (pad_rep [] (.double (FP.l2d 0)) 2)
  refine Go.st st115 ?_
  refine Go.st (t' := T115.setTop (mkF m 152 #[.val (.int p0), .val (.int p1), .val (.int p2), .val (.int p3), .val (.long q4), .second, .val (.int p5), .val (.int cn), .val (.double (FP.l2d ld1)), .second, .val (.double (FP.l2d ld2)), .second, .val (.double (FP.l2d ld3)), .second, .val (.double (FP.l2d ld4)), .second, .val (.ref b10), .val (.ref b25), .val (.ref b40), .val (.ref b55), .val (.ref b70), .val (.ref b85), .val (.ref b100), .unset, .unset, .unset, .unset, .unset, .unset, .unset] [(.double (4602678819172646912 : UInt64)), (.int 0), (.ref b115), (.ref b115)])) (fun target kt => ?_) ?_
  · refine XS.dup X115.here hx rfl (hb hby at_147) rfl rfl ?_
    refine XS.iconst X115.here hx rfl (hb hby at_148) ?_
    refine X115.ldc2DoubleC hx hown (mvT hZ (hw _ tw2)) (g := (mkF m 149 #[.val (.int p0), .val (.int p1), .val (.int p2), .val (.int p3), .val (.long q4), .second, .val (.int p5), .val (.int cn), .val (.double (FP.l2d ld1)), .second, .val (.double (FP.l2d ld2)), .second, .val (.double (FP.l2d ld3)), .second, .val (.double (FP.l2d ld4)), .second, .val (.ref b10), .val (.ref b25), .val (.ref b40), .val (.ref b55), .val (.ref b70), .val (.ref b85), .val (.ref b100), .unset, .unset, .unset, .unset, .unset, .unset, .unset] [(.int 0), (.ref b115), (.ref b115)])) rfl (hb hby at_149) _ ?_
    exact kt
  obtain ⟨cl122, Ar122, q122, S122, M122, H122, G122⟩ := id V121
  have hin122 : ¬ ((0 : Int32) < 0 ∨ cl122.slots.size ≤ ((0 : Int32)).toNatClampNeg) := inb_of S122 ⟨by decide, by decide⟩
  obtain ⟨T122, h122, X122, e122, W122, st122⟩ := stD X115 hx hZ e115 Ar122 (j := (0 : Int32)) hin122 (g := (mkF m 152 #[.val (.int p0), .val (.int p1), .val (.int p2), .val (.int p3), .val (.long q4), .second, .val (.int p5), .val (.int cn), .val (.double (FP.l2d ld1)), .second, .val (.double (FP.l2d ld2)), .second, .val (.double (FP.l2d ld3)), .second, .val (.double (FP.l2d ld4)), .second, .val (.ref b10), .val (.ref b25), .val (.ref b40), .val (.ref b55), .val (.ref b70), .val (.ref b85), .val (.ref b100), .unset, .unset, .unset, .unset, .unset, .unset, .unset] [(.double (4602678819172646912 : UInt64)), (.int 0), (.ref b115), (.ref b115)])) rfl rfl (hb hby at_152)
  have V123 : Arv Z h122 b115 k115 .double (2 : Int32) [(.double (4602678819172646912 : UInt64)), (.double (FP.l2d 0))] (.double (FP.l2d 0)) := Arv.set Ar122 q122 S122 M122 H122 G122 rfl W122 0 rfl (Nat.le_of_ble_eq_true rfl)
  have K124 := K119.wr W122 (Or.inr sz117)
  have O125 := O120.wr W122 g118
  have N122 := Fr.snoc X122 N111 g118
  refine Go.st st122 ?_
  refine Go.st (t' := T122.setTop (mkF m 158 #[.val (.int p0), .val (.int p1), .val (.int p2), .val (.int p3), .val (.long q4), .second, .val (.int p5), .val (.int cn), .val (.double (FP.l2d ld1)), .second, .val (.double (FP.l2d ld2)), .second, .val (.double (FP.l2d ld3)), .second, .val (.double (FP.l2d ld4)), .second, .val (.ref b10), .val (.ref b25), .val (.ref b40), .val (.ref b55), .val (.ref b70), .val (.ref b85), .val (.ref b100), .unset, .unset, .unset, .unset, .unset, .unset, .unset] [(.double (4602678819172646912 : UInt64)), (.int 1), (.ref b115), (.ref b115)])) (fun target kt => ?_) ?_
  · refine XS.dup X122.here hx rfl (hb hby at_153) rfl rfl ?_
    refine XS.iconst X122.here hx rfl (hb hby at_154) ?_
    refine X122.ldc2DoubleC hx hown (mvT hZ (hw _ tw2)) (g := (mkF m 155 #[.val (.int p0), .val (.int p1), .val (.int p2), .val (.int p3), .val (.long q4), .second, .val (.int p5), .val (.int cn), .val (.double (FP.l2d ld1)), .second, .val (.double (FP.l2d ld2)), .second, .val (.double (FP.l2d ld3)), .second, .val (.double (FP.l2d ld4)), .second, .val (.ref b10), .val (.ref b25), .val (.ref b40), .val (.ref b55), .val (.ref b70), .val (.ref b85), .val (.ref b100), .unset, .unset, .unset, .unset, .unset, .unset, .unset] [(.int 1), (.ref b115), (.ref b115)])) rfl (hb hby at_155) _ ?_
    exact kt
  obtain ⟨cl126, Ar126, q126, S126, M126, H126, G126⟩ := id V123
  have hin126 : ¬ ((1 : Int32) < 0 ∨ cl126.slots.size ≤ ((1 : Int32)).toNatClampNeg) := inb_of S126 ⟨by decide, by decide⟩
  obtain ⟨T126, h126, X126, e126, W126, st126⟩ := stD X122 hx hZ e122 Ar126 (j := (1 : Int32)) hin126 (g := (mkF m 158 #[.val (.int p0), .val (.int p1), .val (.int p2), .val (.int p3), .val (.long q4), .second, .val (.int p5), .val (.int cn), .val (.double (FP.l2d ld1)), .second, .val (.double (FP.l2d ld2)), .second, .val (.double (FP.l2d ld3)), .second, .val (.double (FP.l2d ld4)), .second, .val (.ref b10), .val (.ref b25), .val (.ref b40), .val (.ref b55), .val (.ref b70), .val (.ref b85), .val (.ref b100), .unset, .unset, .unset, .unset, .unset, .unset, .unset] [(.double (4602678819172646912 : UInt64)), (.int 1), (.ref b115), (.ref b115)])) rfl rfl (hb hby at_158)
  have V127 : Arv Z h126 b115 k115 .double (2 : Int32) [(.double (4602678819172646912 : UInt64)), (.double (4602678819172646912 : UInt64))] (.double (FP.l2d 0)) := Arv.set Ar126 q126 S126 M126 H126 G126 rfl W126 1 rfl (Nat.le_of_ble_eq_true rfl)
  have K128 := K124.wr W126 (Or.inr sz117)
  have O129 := O125.wr W126 g118
  have N126 := Fr.snoc X126 N122 g118
  refine Go.st st126 ?_
  refine Go.st (t' := T126.setTop (mkF m 162 #[.val (.int p0), .val (.int p1), .val (.int p2), .val (.int p3), .val (.long q4), .second, .val (.int p5), .val (.int cn), .val (.double (FP.l2d ld1)), .second, .val (.double (FP.l2d ld2)), .second, .val (.double (FP.l2d ld3)), .second, .val (.double (FP.l2d ld4)), .second, .val (.ref b10), .val (.ref b25), .val (.ref b40), .val (.ref b55), .val (.ref b70), .val (.ref b85), .val (.ref b100), .val (.ref b115), .unset, .unset, .unset, .unset, .unset, .unset] [(.int 2)])) (fun target kt => ?_) ?_
  · refine XS.astore X126.here hx rfl (hb hby at_159) rfl rfl (l' := #[.val (.int p0), .val (.int p1), .val (.int p2), .val (.int p3), .val (.long q4), .second, .val (.int p5), .val (.int cn), .val (.double (FP.l2d ld1)), .second, .val (.double (FP.l2d ld2)), .second, .val (.double (FP.l2d ld3)), .second, .val (.double (FP.l2d ld4)), .second, .val (.ref b10), .val (.ref b25), .val (.ref b40), .val (.ref b55), .val (.ref b70), .val (.ref b85), .val (.ref b100), .val (.ref b115), .unset, .unset, .unset, .unset, .unset, .unset]) rfl ?_
    refine XS.iconst X126.here hx rfl (hb hby at_161) ?_
    exact kt
  obtain ⟨T130, h130, k130, X130, e130, E130, A130, B130, st130⟩ := newPE (aty := .int) X126 hx hZ (hw _ tw0) e126 (g := (mkF m 162 #[.val (.int p0), .val (.int p1), .val (.int p2), .val (.int p3), .val (.long q4), .second, .val (.int p5), .val (.int cn), .val (.double (FP.l2d ld1)), .second, .val (.double (FP.l2d ld2)), .second, .val (.double (FP.l2d ld3)), .second, .val (.double (FP.l2d ld4)), .second, .val (.ref b10), .val (.ref b25), .val (.ref b40), .val (.ref b55), .val (.ref b70), .val (.ref b85), .val (.ref b100), .val (.ref b115), .unset, .unset, .unset, .unset, .unset, .unset] [(.int 2)])) rfl (hb hby at_162) rfl (by decide) (cap := 2) (by decide) (by decide) (by decide) (by decide) (ad := "[I") (by decide)
  obtain ⟨b130, g130⟩ : ∃ z, z = h126.size := ⟨_, rfl⟩
  rw [← g130] at A130 B130 st130
  have lb131 : h126.size ≤ b130 := Nat.le_of_eq g130.symm
  have sz132 : h0.size ≤ b130 := Nat.le_trans K128.1 lb131
  have g133 : n0 ≤ b130 := Nat.le_trans Z0 sz132
  have K134 := K128.ext E130
  have O135 := O129.ext E130
  have V136 : Arv Z h130 b130 k130 .int (2 : Int32) [(.int 0), (.int 0)] (.int 0) := (Arv.new A130 (by decide)).pad (pad_rep [] (.int 0) 2)
  refine Go.st st130 ?_
  refine Go.st (t' := T130.setTop (mkF m 168 #[.val (.int p0), .val (.int p1), .val (.int p2), .val (.int p3), .val (.long q4), .second, .val (.int p5), .val (.int cn), .val (.double (FP.l2d ld1)), .second, .val (.double (FP.l2d ld2)), .second, .val (.double (FP.l2d ld3)), .second, .val (.double (FP.l2d ld4)), .second, .val (.ref b10), .val (.ref b25), .val (.ref b40), .val (.ref b55), .val (.ref b70), .val (.ref b85), .val (.ref b100), .val (.ref b115), .unset, .unset, .unset, .unset, .unset, .unset] [(.int 7), (.int 0), (.ref b130), (.ref b130)])) (fun target kt => ?_) ?_
  · refine XS.dup X130.here hx rfl (hb hby at_164) rfl rfl ?_
    refine XS.iconst X130.here hx rfl (hb hby at_165) ?_
    refine XS.bipush X130.here hx rfl (hb hby at_166) ?_
    exact kt
  obtain ⟨cl137, Ar137, q137, S137, M137, H137, G137⟩ := id V136
  have hin137 : ¬ ((0 : Int32) < 0 ∨ cl137.slots.size ≤ ((0 : Int32)).toNatClampNeg) := inb_of S137 ⟨by decide, by decide⟩
  obtain ⟨T137, h137, X137, e137, W137, st137⟩ := stI X130 hx hZ e130 Ar137 (j := (0 : Int32)) hin137 (g := (mkF m 168 #[.val (.int p0), .val (.int p1), .val (.int p2), .val (.int p3), .val (.long q4), .second, .val (.int p5), .val (.int cn), .val (.double (FP.l2d ld1)), .second, .val (.double (FP.l2d ld2)), .second, .val (.double (FP.l2d ld3)), .second, .val (.double (FP.l2d ld4)), .second, .val (.ref b10), .val (.ref b25), .val (.ref b40), .val (.ref b55), .val (.ref b70), .val (.ref b85), .val (.ref b100), .val (.ref b115), .unset, .unset, .unset, .unset, .unset, .unset] [(.int 7), (.int 0), (.ref b130), (.ref b130)])) rfl rfl (hb hby at_168)
  have V138 : Arv Z h137 b130 k130 .int (2 : Int32) [(.int 7), (.int 0)] (.int 0) := Arv.set Ar137 q137 S137 M137 H137 G137 rfl W137 0 rfl (Nat.le_of_ble_eq_true rfl)
  have K139 := K134.wr W137 (Or.inr sz132)
  have O140 := O135.wr W137 g133
  have N137 := Fr.snoc X137 N126 g133
  refine Go.st st137 ?_
  refine Go.st (t' := T137.setTop (mkF m 173 #[.val (.int p0), .val (.int p1), .val (.int p2), .val (.int p3), .val (.long q4), .second, .val (.int p5), .val (.int cn), .val (.double (FP.l2d ld1)), .second, .val (.double (FP.l2d ld2)), .second, .val (.double (FP.l2d ld3)), .second, .val (.double (FP.l2d ld4)), .second, .val (.ref b10), .val (.ref b25), .val (.ref b40), .val (.ref b55), .val (.ref b70), .val (.ref b85), .val (.ref b100), .val (.ref b115), .unset, .unset, .unset, .unset, .unset, .unset] [(.int 7), (.int 1), (.ref b130), (.ref b130)])) (fun target kt => ?_) ?_
  · refine XS.dup X137.here hx rfl (hb hby at_169) rfl rfl ?_
    refine XS.iconst X137.here hx rfl (hb hby at_170) ?_
    refine XS.bipush X137.here hx rfl (hb hby at_171) ?_
    exact kt
  obtain ⟨cl141, Ar141, q141, S141, M141, H141, G141⟩ := id V138
  have hin141 : ¬ ((1 : Int32) < 0 ∨ cl141.slots.size ≤ ((1 : Int32)).toNatClampNeg) := inb_of S141 ⟨by decide, by decide⟩
  obtain ⟨T141, h141, X141, e141, W141, st141⟩ := stI X137 hx hZ e137 Ar141 (j := (1 : Int32)) hin141 (g := (mkF m 173 #[.val (.int p0), .val (.int p1), .val (.int p2), .val (.int p3), .val (.long q4), .second, .val (.int p5), .val (.int cn), .val (.double (FP.l2d ld1)), .second, .val (.double (FP.l2d ld2)), .second, .val (.double (FP.l2d ld3)), .second, .val (.double (FP.l2d ld4)), .second, .val (.ref b10), .val (.ref b25), .val (.ref b40), .val (.ref b55), .val (.ref b70), .val (.ref b85), .val (.ref b100), .val (.ref b115), .unset, .unset, .unset, .unset, .unset, .unset] [(.int 7), (.int 1), (.ref b130), (.ref b130)])) rfl rfl (hb hby at_173)
  have V142 : Arv Z h141 b130 k130 .int (2 : Int32) [(.int 7), (.int 7)] (.int 0) := Arv.set Ar141 q141 S141 M141 H141 G141 rfl W141 1 rfl (Nat.le_of_ble_eq_true rfl)
  have K143 := K139.wr W141 (Or.inr sz132)
  have O144 := O140.wr W141 g133
  have N141 := Fr.snoc X141 N137 g133
  refine Go.st st141 ?_
  refine Go.st (t' := T141.setTop (mkF m 177 #[.val (.int p0), .val (.int p1), .val (.int p2), .val (.int p3), .val (.long q4), .second, .val (.int p5), .val (.int cn), .val (.double (FP.l2d ld1)), .second, .val (.double (FP.l2d ld2)), .second, .val (.double (FP.l2d ld3)), .second, .val (.double (FP.l2d ld4)), .second, .val (.ref b10), .val (.ref b25), .val (.ref b40), .val (.ref b55), .val (.ref b70), .val (.ref b85), .val (.ref b100), .val (.ref b115), .val (.ref b130), .unset, .unset, .unset, .unset, .unset] [(.int 2)])) (fun target kt => ?_) ?_
  · refine XS.astore X141.here hx rfl (hb hby at_174) rfl rfl (l' := #[.val (.int p0), .val (.int p1), .val (.int p2), .val (.int p3), .val (.long q4), .second, .val (.int p5), .val (.int cn), .val (.double (FP.l2d ld1)), .second, .val (.double (FP.l2d ld2)), .second, .val (.double (FP.l2d ld3)), .second, .val (.double (FP.l2d ld4)), .second, .val (.ref b10), .val (.ref b25), .val (.ref b40), .val (.ref b55), .val (.ref b70), .val (.ref b85), .val (.ref b100), .val (.ref b115), .val (.ref b130), .unset, .unset, .unset, .unset, .unset]) rfl ?_
    refine XS.iconst X141.here hx rfl (hb hby at_176) ?_
    exact kt
  obtain ⟨T145, h145, k145, X145, e145, E145, A145, B145, st145⟩ := newPE (aty := .double) X141 hx hZ (hw _ tw1) e141 (g := (mkF m 177 #[.val (.int p0), .val (.int p1), .val (.int p2), .val (.int p3), .val (.long q4), .second, .val (.int p5), .val (.int cn), .val (.double (FP.l2d ld1)), .second, .val (.double (FP.l2d ld2)), .second, .val (.double (FP.l2d ld3)), .second, .val (.double (FP.l2d ld4)), .second, .val (.ref b10), .val (.ref b25), .val (.ref b40), .val (.ref b55), .val (.ref b70), .val (.ref b85), .val (.ref b100), .val (.ref b115), .val (.ref b130), .unset, .unset, .unset, .unset, .unset] [(.int 2)])) rfl (hb hby at_177) rfl (by decide) (cap := 2) (by decide) (by decide) (by decide) (by decide) (ad := "[D") (by decide)
  obtain ⟨b145, g145⟩ : ∃ z, z = h141.size := ⟨_, rfl⟩
  rw [← g145] at A145 B145 st145
  have lb146 : h141.size ≤ b145 := Nat.le_of_eq g145.symm
  have sz147 : h0.size ≤ b145 := Nat.le_trans K143.1 lb146
  have g148 : n0 ≤ b145 := Nat.le_trans Z0 sz147
  have K149 := K143.ext E145
  have O150 := O144.ext E145
  have V151 : Arv Z h145 b145 k145 .double (2 : Int32) [(.double (FP.l2d 0)), (.double (FP.l2d 0))] (.double (FP.l2d 0)) := (Arv.newD A145 (by decide)).pad (pad_rep [] (.double (FP.l2d 0)) 2)
  refine Go.st st145 ?_
  refine Go.st (t' := T145.setTop (mkF m 184 #[.val (.int p0), .val (.int p1), .val (.int p2), .val (.int p3), .val (.long q4), .second, .val (.int p5), .val (.int cn), .val (.double (FP.l2d ld1)), .second, .val (.double (FP.l2d ld2)), .second, .val (.double (FP.l2d ld3)), .second, .val (.double (FP.l2d ld4)), .second, .val (.ref b10), .val (.ref b25), .val (.ref b40), .val (.ref b55), .val (.ref b70), .val (.ref b85), .val (.ref b100), .val (.ref b115), .val (.ref b130), .unset, .unset, .unset, .unset, .unset] [(.double (4602678819172646912 : UInt64)), (.int 0), (.ref b145), (.ref b145)])) (fun target kt => ?_) ?_
  · refine XS.dup X145.here hx rfl (hb hby at_179) rfl rfl ?_
    refine XS.iconst X145.here hx rfl (hb hby at_180) ?_
    refine X145.ldc2DoubleC hx hown (mvT hZ (hw _ tw2)) (g := (mkF m 181 #[.val (.int p0), .val (.int p1), .val (.int p2), .val (.int p3), .val (.long q4), .second, .val (.int p5), .val (.int cn), .val (.double (FP.l2d ld1)), .second, .val (.double (FP.l2d ld2)), .second, .val (.double (FP.l2d ld3)), .second, .val (.double (FP.l2d ld4)), .second, .val (.ref b10), .val (.ref b25), .val (.ref b40), .val (.ref b55), .val (.ref b70), .val (.ref b85), .val (.ref b100), .val (.ref b115), .val (.ref b130), .unset, .unset, .unset, .unset, .unset] [(.int 0), (.ref b145), (.ref b145)])) rfl (hb hby at_181) _ ?_
    exact kt
  obtain ⟨cl152, Ar152, q152, S152, M152, H152, G152⟩ := id V151
  have hin152 : ¬ ((0 : Int32) < 0 ∨ cl152.slots.size ≤ ((0 : Int32)).toNatClampNeg) := inb_of S152 ⟨by decide, by decide⟩
  obtain ⟨T152, h152, X152, e152, W152, st152⟩ := stD X145 hx hZ e145 Ar152 (j := (0 : Int32)) hin152 (g := (mkF m 184 #[.val (.int p0), .val (.int p1), .val (.int p2), .val (.int p3), .val (.long q4), .second, .val (.int p5), .val (.int cn), .val (.double (FP.l2d ld1)), .second, .val (.double (FP.l2d ld2)), .second, .val (.double (FP.l2d ld3)), .second, .val (.double (FP.l2d ld4)), .second, .val (.ref b10), .val (.ref b25), .val (.ref b40), .val (.ref b55), .val (.ref b70), .val (.ref b85), .val (.ref b100), .val (.ref b115), .val (.ref b130), .unset, .unset, .unset, .unset, .unset] [(.double (4602678819172646912 : UInt64)), (.int 0), (.ref b145), (.ref b145)])) rfl rfl (hb hby at_184)
  have V153 : Arv Z h152 b145 k145 .double (2 : Int32) [(.double (4602678819172646912 : UInt64)), (.double (FP.l2d 0))] (.double (FP.l2d 0)) := Arv.set Ar152 q152 S152 M152 H152 G152 rfl W152 0 rfl (Nat.le_of_ble_eq_true rfl)
  have K154 := K149.wr W152 (Or.inr sz147)
  have O155 := O150.wr W152 g148
  have N152 := Fr.snoc X152 N141 g148
  refine Go.st st152 ?_
  refine Go.st (t' := T152.setTop (mkF m 190 #[.val (.int p0), .val (.int p1), .val (.int p2), .val (.int p3), .val (.long q4), .second, .val (.int p5), .val (.int cn), .val (.double (FP.l2d ld1)), .second, .val (.double (FP.l2d ld2)), .second, .val (.double (FP.l2d ld3)), .second, .val (.double (FP.l2d ld4)), .second, .val (.ref b10), .val (.ref b25), .val (.ref b40), .val (.ref b55), .val (.ref b70), .val (.ref b85), .val (.ref b100), .val (.ref b115), .val (.ref b130), .unset, .unset, .unset, .unset, .unset] [(.double (4602678819172646912 : UInt64)), (.int 1), (.ref b145), (.ref b145)])) (fun target kt => ?_) ?_
  · refine XS.dup X152.here hx rfl (hb hby at_185) rfl rfl ?_
    refine XS.iconst X152.here hx rfl (hb hby at_186) ?_
    refine X152.ldc2DoubleC hx hown (mvT hZ (hw _ tw2)) (g := (mkF m 187 #[.val (.int p0), .val (.int p1), .val (.int p2), .val (.int p3), .val (.long q4), .second, .val (.int p5), .val (.int cn), .val (.double (FP.l2d ld1)), .second, .val (.double (FP.l2d ld2)), .second, .val (.double (FP.l2d ld3)), .second, .val (.double (FP.l2d ld4)), .second, .val (.ref b10), .val (.ref b25), .val (.ref b40), .val (.ref b55), .val (.ref b70), .val (.ref b85), .val (.ref b100), .val (.ref b115), .val (.ref b130), .unset, .unset, .unset, .unset, .unset] [(.int 1), (.ref b145), (.ref b145)])) rfl (hb hby at_187) _ ?_
    exact kt
  obtain ⟨cl156, Ar156, q156, S156, M156, H156, G156⟩ := id V153
  have hin156 : ¬ ((1 : Int32) < 0 ∨ cl156.slots.size ≤ ((1 : Int32)).toNatClampNeg) := inb_of S156 ⟨by decide, by decide⟩
  obtain ⟨T156, h156, X156, e156, W156, st156⟩ := stD X152 hx hZ e152 Ar156 (j := (1 : Int32)) hin156 (g := (mkF m 190 #[.val (.int p0), .val (.int p1), .val (.int p2), .val (.int p3), .val (.long q4), .second, .val (.int p5), .val (.int cn), .val (.double (FP.l2d ld1)), .second, .val (.double (FP.l2d ld2)), .second, .val (.double (FP.l2d ld3)), .second, .val (.double (FP.l2d ld4)), .second, .val (.ref b10), .val (.ref b25), .val (.ref b40), .val (.ref b55), .val (.ref b70), .val (.ref b85), .val (.ref b100), .val (.ref b115), .val (.ref b130), .unset, .unset, .unset, .unset, .unset] [(.double (4602678819172646912 : UInt64)), (.int 1), (.ref b145), (.ref b145)])) rfl rfl (hb hby at_190)
  have V157 : Arv Z h156 b145 k145 .double (2 : Int32) [(.double (4602678819172646912 : UInt64)), (.double (4602678819172646912 : UInt64))] (.double (FP.l2d 0)) := Arv.set Ar156 q156 S156 M156 H156 G156 rfl W156 1 rfl (Nat.le_of_ble_eq_true rfl)
  have K158 := K154.wr W156 (Or.inr sz147)
  have O159 := O155.wr W156 g148
  have N156 := Fr.snoc X156 N152 g148
  refine Go.st st156 ?_
  refine Go.st (t' := T156.setTop (mkF m 193 #[.val (.int p0), .val (.int p1), .val (.int p2), .val (.int p3), .val (.long q4), .second, .val (.int p5), .val (.int cn), .val (.double (FP.l2d ld1)), .second, .val (.double (FP.l2d ld2)), .second, .val (.double (FP.l2d ld3)), .second, .val (.double (FP.l2d ld4)), .second, .val (.ref b10), .val (.ref b25), .val (.ref b40), .val (.ref b55), .val (.ref b70), .val (.ref b85), .val (.ref b100), .val (.ref b115), .val (.ref b130), .val (.ref b145), .unset, .unset, .unset, .unset] [])) (fun target kt => ?_) ?_
  · refine XS.astore X156.here hx rfl (hb hby at_191) rfl rfl (l' := #[.val (.int p0), .val (.int p1), .val (.int p2), .val (.int p3), .val (.long q4), .second, .val (.int p5), .val (.int cn), .val (.double (FP.l2d ld1)), .second, .val (.double (FP.l2d ld2)), .second, .val (.double (FP.l2d ld3)), .second, .val (.double (FP.l2d ld4)), .second, .val (.ref b10), .val (.ref b25), .val (.ref b40), .val (.ref b55), .val (.ref b70), .val (.ref b85), .val (.ref b100), .val (.ref b115), .val (.ref b130), .val (.ref b145), .unset, .unset, .unset, .unset]) rfl ?_
    exact kt
  rcases (own_cnt h_cn : cn = (1 : Int32) ∨ cn = (2 : Int32)) with hk | hk
  · have hk_ := hk
    rw [hk]
    show Go _ _ _ _ _ _ _ (T156.setTop (mkF m 193 _ []))
    obtain ⟨T160, h160, X160, e160, E160, A160, D160, -, st160⟩ := newO X156 hx hZ hown (hw _ tw3) (hw _ tw4) (hw _ tw5) e156 (g := (mkF m 193 #[.val (.int p0), .val (.int p1), .val (.int p2), .val (.int p3), .val (.long q4), .second, .val (.int p5), .val (.int 1), .val (.double (FP.l2d ld1)), .second, .val (.double (FP.l2d ld2)), .second, .val (.double (FP.l2d ld3)), .second, .val (.double (FP.l2d ld4)), .second, .val (.ref b10), .val (.ref b25), .val (.ref b40), .val (.ref b55), .val (.ref b70), .val (.ref b85), .val (.ref b100), .val (.ref b115), .val (.ref b130), .val (.ref b145), .unset, .unset, .unset, .unset] [])) rfl (hb hby at_193) (by decide) (by decide)
    obtain ⟨b160, g160⟩ : ∃ z, z = h156.size := ⟨_, rfl⟩
    rw [← g160] at A160 D160 st160
    have lb161 : h156.size ≤ b160 := Nat.le_of_eq g160.symm
    have sz162 : h0.size ≤ b160 := Nat.le_trans K158.1 lb161
    have g163 : n0 ≤ b160 := Nat.le_trans Z0 sz162
    have K164 := K158.ext E160
    have O165 := O159.ext E160
    have F166 : Fld Z h160 b160 sq0 "starts" "[I" .null := D160 (Or.inl (hw _ tw13)) (ty := (.array .int)) (by decide)
    have F167 : Fld Z h160 b160 sq0 "nexts" "[I" .null := D160 (Or.inl (hw _ tw15)) (ty := (.array .int)) (by decide)
    have F168 : Fld Z h160 b160 sq0 "ends" "[I" .null := D160 (Or.inl (hw _ tw17)) (ty := (.array .int)) (by decide)
    have F169 : Fld Z h160 b160 sq0 "bounds" "[D" .null := D160 (Or.inl (hw _ tw19)) (ty := (.array .double)) (by decide)
    have F170 : Fld Z h160 b160 sq0 "windows" "[Z" .null := D160 (Or.inl (hw _ tw22)) (ty := (.array .boolean)) (by decide)
    have F171 : Fld Z h160 b160 sq0 "heap" "[I" .null := D160 (Or.inl (hw _ tw24)) (ty := (.array .int)) (by decide)
    have F172 : Fld Z h160 b160 sq0 "heapBounds" "[D" .null := D160 (Or.inl (hw _ tw26)) (ty := (.array .double)) (by decide)
    have F173 : Fld Z h160 b160 sq0 "heapStarts" "[I" .null := D160 (Or.inl (hw _ tw28)) (ty := (.array .int)) (by decide)
    have F174 : Fld Z h160 b160 sq0 "count" "I" (.int 0) := D160 (Or.inr (hw _ tw30)) (ty := .int) (by decide)
    have F175 : Fld Z h160 b160 sq0 "entries" "[I" .null := D160 (Or.inl (hw _ tw32)) (ty := (.array .int)) (by decide)
    have F176 : Fld Z h160 b160 sq0 "blocks" "[I" .null := D160 (Or.inl (hw _ tw34)) (ty := (.array .int)) (by decide)
    have F177 : Fld Z h160 b160 sq0 "parts" "[D" .null := D160 (Or.inl (hw _ tw36)) (ty := (.array .double)) (by decide)
    have F178 : Fld Z h160 b160 sq0 "added" "I" (.int 0) := D160 (Or.inl (hw _ tw43)) (ty := .int) (by decide)
    have F179 : Fld Z h160 b160 sq0 "size" "I" (.int 0) := D160 (Or.inl (hw _ tw49)) (ty := .int) (by decide)
    refine Go.st st160 ?_
    refine Go.st (t' := T160.setTop (mkF m 199 #[.val (.int p0), .val (.int p1), .val (.int p2), .val (.int p3), .val (.long q4), .second, .val (.int p5), .val (.int 1), .val (.double (FP.l2d ld1)), .second, .val (.double (FP.l2d ld2)), .second, .val (.double (FP.l2d ld3)), .second, .val (.double (FP.l2d ld4)), .second, .val (.ref b10), .val (.ref b25), .val (.ref b40), .val (.ref b55), .val (.ref b70), .val (.ref b85), .val (.ref b100), .val (.ref b115), .val (.ref b130), .val (.ref b145), .unset, .unset, .unset, .unset] [(.int 1), (.ref b160), (.ref b160)])) (fun target kt => ?_) ?_
    · refine XS.dup X160.here hx rfl (hb hby at_196) rfl rfl ?_
      refine XS.iload X160.here hx rfl (hb hby at_197) rfl ?_
      exact kt
    refine Go.cps (own_ci (W := 1) (b := b160) (argsL := [(.int 1)]) (rest := [(.ref b160)]) X160 hx hZ hown rfl (hw _ tw6) (hw _ tw7) (hw _ tw8) (hw _ tw5) (by decide) e160 (rm1_1 l Z a0 hw [] b160 h160 n0 (Nat.le_trans Z0 K164.1) O165  A160 g163 F166 F167 F168 F169 F170 F171 F172 F173 F175 F176 F177 F174 F178 F179) rfl (by rw [hml]; rfl) (lenOf pd2 rfl) rfl (Nat.le_of_eq rfl) (hb hby at_199) rfl (by decide) (by decide) (by decide) (by decide)) ?_
    rintro T180 _ L180 X180 ⟨b181, b182, b183, b184, b185, b186, b187, b188, b189, b190, b191, k192, k193, k194, k195, k196, k197, k198, k199, k200, k201, k202, rfl, Nq180, Kq180, q203, q204, q205, q206, q207, q208, q209, q210, q211, q212, q213, q214, q215, q216, q217, q218, q219, q220, q221, q222, q223, q224, q225, q226, q227, q228, q229, q230, q231, q232, q233, q234, q235, q236, q237, q238, q239, q240, q241, q242, q243, q244, q245, q246, q247, q248, q249⟩
    have N180 := Fr.app N156 Nq180
    have sz250 : h0.size ≤ b181 := Nat.le_trans K164.1 q203
    have g251 : n0 ≤ b181 := Nat.le_trans Z0 sz250
    have sz252 : h0.size ≤ b182 := Nat.le_trans K164.1 q204
    have g253 : n0 ≤ b182 := Nat.le_trans Z0 sz252
    have sz254 : h0.size ≤ b183 := Nat.le_trans K164.1 q205
    have g255 : n0 ≤ b183 := Nat.le_trans Z0 sz254
    have sz256 : h0.size ≤ b184 := Nat.le_trans K164.1 q206
    have g257 : n0 ≤ b184 := Nat.le_trans Z0 sz256
    have sz258 : h0.size ≤ b185 := Nat.le_trans K164.1 q207
    have g259 : n0 ≤ b185 := Nat.le_trans Z0 sz258
    have sz260 : h0.size ≤ b186 := Nat.le_trans K164.1 q208
    have g261 : n0 ≤ b186 := Nat.le_trans Z0 sz260
    have sz262 : h0.size ≤ b187 := Nat.le_trans K164.1 q209
    have g263 : n0 ≤ b187 := Nat.le_trans Z0 sz262
    have sz264 : h0.size ≤ b188 := Nat.le_trans K164.1 q210
    have g265 : n0 ≤ b188 := Nat.le_trans Z0 sz264
    have sz266 : h0.size ≤ b189 := Nat.le_trans K164.1 q211
    have g267 : n0 ≤ b189 := Nat.le_trans Z0 sz266
    have sz268 : h0.size ≤ b190 := Nat.le_trans K164.1 q212
    have g269 : n0 ≤ b190 := Nat.le_trans Z0 sz268
    have sz270 : h0.size ≤ b191 := Nat.le_trans K164.1 q213
    have g271 : n0 ≤ b191 := Nat.le_trans Z0 sz270
    have K272 := K164.trans Kq180 (allS (Or.inr sz162) all0)
    have O273 := O165.keep Kq180 (allS g163 all0)
    refine Go.st (t' := T180.setTop (mkF m 216 #[.val (.int p0), .val (.int p1), .val (.int p2), .val (.int p3), .val (.long q4), .second, .val (.int p5), .val (.int 1), .val (.double (FP.l2d ld1)), .second, .val (.double (FP.l2d ld2)), .second, .val (.double (FP.l2d ld3)), .second, .val (.double (FP.l2d ld4)), .second, .val (.ref b10), .val (.ref b25), .val (.ref b40), .val (.ref b55), .val (.ref b70), .val (.ref b85), .val (.ref b100), .val (.ref b115), .val (.ref b130), .val (.ref b145), .val (.ref b160), .unset, .unset, .unset] [(.ref b40), (.ref b25), (.ref b10), (.double (FP.l2d (1 : Int64))), (.int 0), (.int 0), (.int 0), (.ref b160)])) (fun target kt => ?_) ?_
    · refine XS.astore X180.here hx rfl (hb hby at_202) rfl rfl (l' := #[.val (.int p0), .val (.int p1), .val (.int p2), .val (.int p3), .val (.long q4), .second, .val (.int p5), .val (.int 1), .val (.double (FP.l2d ld1)), .second, .val (.double (FP.l2d ld2)), .second, .val (.double (FP.l2d ld3)), .second, .val (.double (FP.l2d ld4)), .second, .val (.ref b10), .val (.ref b25), .val (.ref b40), .val (.ref b55), .val (.ref b70), .val (.ref b85), .val (.ref b100), .val (.ref b115), .val (.ref b130), .val (.ref b145), .val (.ref b160), .unset, .unset, .unset]) rfl ?_
      refine XS.aload X180.here hx rfl (hb hby at_204) rfl rfl ?_
      refine XS.iconst X180.here hx rfl (hb hby at_206) ?_
      refine XS.iconst X180.here hx rfl (hb hby at_207) ?_
      refine XS.iconst X180.here hx rfl (hb hby at_208) ?_
      refine XS.dconst1 X180.here hx rfl (v := (FP.l2d (1 : Int64))) (hb hby at_209) (by decide +kernel) ?_
      refine XS.aload X180.here hx rfl (hb hby at_210) rfl rfl ?_
      refine XS.aload X180.here hx rfl (hb hby at_212) rfl rfl ?_
      refine XS.aload X180.here hx rfl (hb hby at_214) rfl rfl ?_
      exact kt
    have S_274 := ((((Keep.refl h21 []).ext E25).wr W32 (Or.inr lb26)).wr W36 (Or.inr lb26)).ext E40
    have S_275 := ((S_274.wr W47 (Or.inr (Nat.le_trans (Nat.le_trans (Nat.le_trans E25.1 (Keep.of_wr W32).1) (Keep.of_wr W36).1) lb41))).wr W51 (Or.inr (Nat.le_trans (Nat.le_trans (Nat.le_trans E25.1 (Keep.of_wr W32).1) (Keep.of_wr W36).1) lb41))).ext E55
    have S_276 := ((S_275.wr W62 (Or.inr (Nat.le_trans (Nat.le_trans S_274.1 (Nat.le_trans (Keep.of_wr W47).1 (Keep.of_wr W51).1)) lb56))).wr W66 (Or.inr (Nat.le_trans (Nat.le_trans S_274.1 (Nat.le_trans (Keep.of_wr W47).1 (Keep.of_wr W51).1)) lb56))).ext E70
    have S_277 := ((S_276.wr W77 (Or.inr (Nat.le_trans (Nat.le_trans S_275.1 (Nat.le_trans (Keep.of_wr W62).1 (Keep.of_wr W66).1)) lb71))).wr W81 (Or.inr (Nat.le_trans (Nat.le_trans S_275.1 (Nat.le_trans (Keep.of_wr W62).1 (Keep.of_wr W66).1)) lb71))).ext E85
    have S_278 := ((S_277.wr W92 (Or.inr (Nat.le_trans (Nat.le_trans S_276.1 (Nat.le_trans (Keep.of_wr W77).1 (Keep.of_wr W81).1)) lb86))).wr W96 (Or.inr (Nat.le_trans (Nat.le_trans S_276.1 (Nat.le_trans (Keep.of_wr W77).1 (Keep.of_wr W81).1)) lb86))).ext E100
    have S_279 := ((S_278.wr W107 (Or.inr (Nat.le_trans (Nat.le_trans S_277.1 (Nat.le_trans (Keep.of_wr W92).1 (Keep.of_wr W96).1)) lb101))).wr W111 (Or.inr (Nat.le_trans (Nat.le_trans S_277.1 (Nat.le_trans (Keep.of_wr W92).1 (Keep.of_wr W96).1)) lb101))).ext E115
    have S_280 := ((S_279.wr W122 (Or.inr (Nat.le_trans (Nat.le_trans S_278.1 (Nat.le_trans (Keep.of_wr W107).1 (Keep.of_wr W111).1)) lb116))).wr W126 (Or.inr (Nat.le_trans (Nat.le_trans S_278.1 (Nat.le_trans (Keep.of_wr W107).1 (Keep.of_wr W111).1)) lb116))).ext E130
    have S_281 := ((S_280.wr W137 (Or.inr (Nat.le_trans (Nat.le_trans S_279.1 (Nat.le_trans (Keep.of_wr W122).1 (Keep.of_wr W126).1)) lb131))).wr W141 (Or.inr (Nat.le_trans (Nat.le_trans S_279.1 (Nat.le_trans (Keep.of_wr W122).1 (Keep.of_wr W126).1)) lb131))).ext E145
    have S_282 := ((S_281.wr W152 (Or.inr (Nat.le_trans (Nat.le_trans S_280.1 (Nat.le_trans (Keep.of_wr W137).1 (Keep.of_wr W141).1)) lb146))).wr W156 (Or.inr (Nat.le_trans (Nat.le_trans S_280.1 (Nat.le_trans (Keep.of_wr W137).1 (Keep.of_wr W141).1)) lb146))).ext E160
    have S_283 : Keep h21 T180.heap [] := (S_282.trans Kq180 (allS (Or.inr (Nat.le_trans (Nat.le_trans S_281.1 (Nat.le_trans (Keep.of_wr W152).1 (Keep.of_wr W156).1)) lb161)) all0))
    have c284 := V22.keep S_283 nin0
    have S_285 := ((((Keep.refl h36 []).ext E40).wr W47 (Or.inr lb41)).wr W51 (Or.inr lb41)).ext E55
    have S_286 := ((S_285.wr W62 (Or.inr (Nat.le_trans (Nat.le_trans (Nat.le_trans E40.1 (Keep.of_wr W47).1) (Keep.of_wr W51).1) lb56))).wr W66 (Or.inr (Nat.le_trans (Nat.le_trans (Nat.le_trans E40.1 (Keep.of_wr W47).1) (Keep.of_wr W51).1) lb56))).ext E70
    have S_287 := ((S_286.wr W77 (Or.inr (Nat.le_trans (Nat.le_trans S_285.1 (Nat.le_trans (Keep.of_wr W62).1 (Keep.of_wr W66).1)) lb71))).wr W81 (Or.inr (Nat.le_trans (Nat.le_trans S_285.1 (Nat.le_trans (Keep.of_wr W62).1 (Keep.of_wr W66).1)) lb71))).ext E85
    have S_288 := ((S_287.wr W92 (Or.inr (Nat.le_trans (Nat.le_trans S_286.1 (Nat.le_trans (Keep.of_wr W77).1 (Keep.of_wr W81).1)) lb86))).wr W96 (Or.inr (Nat.le_trans (Nat.le_trans S_286.1 (Nat.le_trans (Keep.of_wr W77).1 (Keep.of_wr W81).1)) lb86))).ext E100
    have S_289 := ((S_288.wr W107 (Or.inr (Nat.le_trans (Nat.le_trans S_287.1 (Nat.le_trans (Keep.of_wr W92).1 (Keep.of_wr W96).1)) lb101))).wr W111 (Or.inr (Nat.le_trans (Nat.le_trans S_287.1 (Nat.le_trans (Keep.of_wr W92).1 (Keep.of_wr W96).1)) lb101))).ext E115
    have S_290 := ((S_289.wr W122 (Or.inr (Nat.le_trans (Nat.le_trans S_288.1 (Nat.le_trans (Keep.of_wr W107).1 (Keep.of_wr W111).1)) lb116))).wr W126 (Or.inr (Nat.le_trans (Nat.le_trans S_288.1 (Nat.le_trans (Keep.of_wr W107).1 (Keep.of_wr W111).1)) lb116))).ext E130
    have S_291 := ((S_290.wr W137 (Or.inr (Nat.le_trans (Nat.le_trans S_289.1 (Nat.le_trans (Keep.of_wr W122).1 (Keep.of_wr W126).1)) lb131))).wr W141 (Or.inr (Nat.le_trans (Nat.le_trans S_289.1 (Nat.le_trans (Keep.of_wr W122).1 (Keep.of_wr W126).1)) lb131))).ext E145
    have S_292 := ((S_291.wr W152 (Or.inr (Nat.le_trans (Nat.le_trans S_290.1 (Nat.le_trans (Keep.of_wr W137).1 (Keep.of_wr W141).1)) lb146))).wr W156 (Or.inr (Nat.le_trans (Nat.le_trans S_290.1 (Nat.le_trans (Keep.of_wr W137).1 (Keep.of_wr W141).1)) lb146))).ext E160
    have S_293 : Keep h36 T180.heap [] := (S_292.trans Kq180 (allS (Or.inr (Nat.le_trans (Nat.le_trans S_291.1 (Nat.le_trans (Keep.of_wr W152).1 (Keep.of_wr W156).1)) lb161)) all0))
    have c294 := V37.keep S_293 nin0
    have S_295 := ((((Keep.refl h51 []).ext E55).wr W62 (Or.inr lb56)).wr W66 (Or.inr lb56)).ext E70
    have S_296 := ((S_295.wr W77 (Or.inr (Nat.le_trans (Nat.le_trans (Nat.le_trans E55.1 (Keep.of_wr W62).1) (Keep.of_wr W66).1) lb71))).wr W81 (Or.inr (Nat.le_trans (Nat.le_trans (Nat.le_trans E55.1 (Keep.of_wr W62).1) (Keep.of_wr W66).1) lb71))).ext E85
    have S_297 := ((S_296.wr W92 (Or.inr (Nat.le_trans (Nat.le_trans S_295.1 (Nat.le_trans (Keep.of_wr W77).1 (Keep.of_wr W81).1)) lb86))).wr W96 (Or.inr (Nat.le_trans (Nat.le_trans S_295.1 (Nat.le_trans (Keep.of_wr W77).1 (Keep.of_wr W81).1)) lb86))).ext E100
    have S_298 := ((S_297.wr W107 (Or.inr (Nat.le_trans (Nat.le_trans S_296.1 (Nat.le_trans (Keep.of_wr W92).1 (Keep.of_wr W96).1)) lb101))).wr W111 (Or.inr (Nat.le_trans (Nat.le_trans S_296.1 (Nat.le_trans (Keep.of_wr W92).1 (Keep.of_wr W96).1)) lb101))).ext E115
    have S_299 := ((S_298.wr W122 (Or.inr (Nat.le_trans (Nat.le_trans S_297.1 (Nat.le_trans (Keep.of_wr W107).1 (Keep.of_wr W111).1)) lb116))).wr W126 (Or.inr (Nat.le_trans (Nat.le_trans S_297.1 (Nat.le_trans (Keep.of_wr W107).1 (Keep.of_wr W111).1)) lb116))).ext E130
    have S_300 := ((S_299.wr W137 (Or.inr (Nat.le_trans (Nat.le_trans S_298.1 (Nat.le_trans (Keep.of_wr W122).1 (Keep.of_wr W126).1)) lb131))).wr W141 (Or.inr (Nat.le_trans (Nat.le_trans S_298.1 (Nat.le_trans (Keep.of_wr W122).1 (Keep.of_wr W126).1)) lb131))).ext E145
    have S_301 := ((S_300.wr W152 (Or.inr (Nat.le_trans (Nat.le_trans S_299.1 (Nat.le_trans (Keep.of_wr W137).1 (Keep.of_wr W141).1)) lb146))).wr W156 (Or.inr (Nat.le_trans (Nat.le_trans S_299.1 (Nat.le_trans (Keep.of_wr W137).1 (Keep.of_wr W141).1)) lb146))).ext E160
    have S_302 : Keep h51 T180.heap [] := (S_301.trans Kq180 (allS (Or.inr (Nat.le_trans (Nat.le_trans S_300.1 (Nat.le_trans (Keep.of_wr W152).1 (Keep.of_wr W156).1)) lb161)) all0))
    have c303 := V52.keep S_302 nin0
    have o304 : b10 < b25 := Nat.lt_of_lt_of_le V16.lt (Nat.le_trans (Nat.le_trans (Keep.of_wr W17).1 (Keep.of_wr W21).1) lb26)
    have o305 : b25 < b40 := Nat.lt_of_lt_of_le V31.lt (Nat.le_trans (Nat.le_trans (Keep.of_wr W32).1 (Keep.of_wr W36).1) lb41)
    have o306 : b40 < b55 := Nat.lt_of_lt_of_le V46.lt (Nat.le_trans (Nat.le_trans (Keep.of_wr W47).1 (Keep.of_wr W51).1) lb56)
    have o307 : b55 < b70 := Nat.lt_of_lt_of_le V61.lt (Nat.le_trans (Nat.le_trans (Keep.of_wr W62).1 (Keep.of_wr W66).1) lb71)
    have o308 : b40 < b70 := Nat.lt_trans o306 o307
    have o309 : b70 < b85 := Nat.lt_of_lt_of_le V76.lt (Nat.le_trans (Nat.le_trans (Keep.of_wr W77).1 (Keep.of_wr W81).1) lb86)
    have o310 : b40 < b85 := Nat.lt_trans o308 o309
    have o311 : b85 < b100 := Nat.lt_of_lt_of_le V91.lt (Nat.le_trans (Nat.le_trans (Keep.of_wr W92).1 (Keep.of_wr W96).1) lb101)
    have o312 : b40 < b100 := Nat.lt_trans o310 o311
    have o313 : b100 < b115 := Nat.lt_of_lt_of_le V106.lt (Nat.le_trans (Nat.le_trans (Keep.of_wr W107).1 (Keep.of_wr W111).1) lb116)
    have o314 : b40 < b115 := Nat.lt_trans o312 o313
    have o315 : b115 < b130 := Nat.lt_of_lt_of_le V121.lt (Nat.le_trans (Nat.le_trans (Keep.of_wr W122).1 (Keep.of_wr W126).1) lb131)
    have o316 : b40 < b130 := Nat.lt_trans o314 o315
    have o317 : b130 < b145 := Nat.lt_of_lt_of_le V136.lt (Nat.le_trans (Nat.le_trans (Keep.of_wr W137).1 (Keep.of_wr W141).1) lb146)
    have o318 : b40 < b145 := Nat.lt_trans o316 o317
    have o319 : b145 < b160 := Nat.lt_of_lt_of_le V151.lt (Nat.le_trans (Nat.le_trans (Keep.of_wr W152).1 (Keep.of_wr W156).1) lb161)
    have o320 : b40 < b160 := Nat.lt_trans o318 o319
    have o321 : b160 < b181 := Nat.lt_of_lt_of_le A160.lt q203
    refine Go.cps (own_cv (W := 0) (b := b160) (argsL := [(.int 0), (.int 0), (.int 0), (.double (FP.l2d (1 : Int64))), (.ref b10), (.ref b25), (.ref b40)]) (rest := []) X180 hx hZ hown (hw _ tw37) (hw _ tw38) (notFace_of_selects (args := #[]) (mvT hZ (hw _ tw40))) (hw _ tw40) (hw _ tw39) (hw _ tw41) (hw _ tw5) (by decide) rfl q224 (rm3_1_0 l Z a0 hw [] b160 b10 b25 b40 b181 b182 b183 b184 b185 b186 b187 b188 b189 b190 b191 k192 k193 k194 k195 k196 k197 k198 k199 k200 k201 k202 p0 p1 p2 p3 (FP.l2d ld1) (FP.l2d ld2) k10 k40 k25 T180.heap n0 (Nat.le_trans Z0 K272.1) O273  q224 q225 q226 q227 q228 q229 q230 q231 q232 q233 q234 q235 q236 q237 q238 q239 q240 q241 q242 q243 q244 q245 q246 q247 q248 q249 c284 c294 c303 g163 g251 g253 g255 g257 g259 g261 g263 g265 g267 g269 g271 o304 o305 o320 o321 q214 q215 q216 q217 q218 q219 q220 q221 q222 q223) rfl (by rw [hml]; rfl) (lenOf pd3 rfl) rfl (Nat.le_of_eq rfl) (hb hby at_216) rfl (by decide) (by decide) (by decide) (by decide)) ?_
    rintro T322 _ L322 X322 ⟨rfl, Nq322, Kq322, q323, q324, q325, q326, q327, q328, q329, q330, q331, q332, q333, q334, q335, q336, q337, q338, q339, q340, q341, q342, q343, q344, q345, q346, q347, q348⟩
    have N322 := Fr.app N180 Nq322
    have K349 := K272.trans Kq322 (allS (Or.inr sz162) (allS (Or.inr sz250) (allS (Or.inr sz252) (allS (Or.inr sz254) (allS (Or.inr sz256) (allS (Or.inr sz258) (allS (Or.inr sz260) (allS (Or.inr sz262) (allS (Or.inr sz264) (allS (Or.inr sz266) (allS (Or.inr sz268) (allS (Or.inr sz270) all0))))))))))))
    have O350 := O273.keep Kq322 (allS g163 (allS g251 (allS g253 (allS g255 (allS g257 (allS g259 (allS g261 (allS g263 (allS g265 (allS g267 (allS g269 (allS g271 all0))))))))))))
    refine Go.st (t' := T322.setTop (mkF m 230 #[.val (.int p0), .val (.int p1), .val (.int p2), .val (.int p3), .val (.long q4), .second, .val (.int p5), .val (.int 1), .val (.double (FP.l2d ld1)), .second, .val (.double (FP.l2d ld2)), .second, .val (.double (FP.l2d ld3)), .second, .val (.double (FP.l2d ld4)), .second, .val (.ref b10), .val (.ref b25), .val (.ref b40), .val (.ref b55), .val (.ref b70), .val (.ref b85), .val (.ref b100), .val (.ref b115), .val (.ref b130), .val (.ref b145), .val (.ref b160), .unset, .unset, .unset] [(.ref b70), .null, (.ref b55), (.double (FP.l2d (1 : Int64))), (.int 0), (.int 0), (.int 0), (.ref b160)])) (fun target kt => ?_) ?_
    · refine XS.aload X322.here hx rfl (hb hby at_219) rfl rfl ?_
      refine XS.iconst X322.here hx rfl (hb hby at_221) ?_
      refine XS.iconst X322.here hx rfl (hb hby at_222) ?_
      refine XS.iconst X322.here hx rfl (hb hby at_223) ?_
      refine XS.dconst1 X322.here hx rfl (v := (FP.l2d (1 : Int64))) (hb hby at_224) (by decide +kernel) ?_
      refine XS.aload X322.here hx rfl (hb hby at_225) rfl rfl ?_
      refine XS.aconstNull X322.here hx rfl (hb hby at_227) ?_
      refine XS.aload X322.here hx rfl (hb hby at_228) rfl rfl ?_
      exact kt
    have S_351 := ((((Keep.refl h66 []).ext E70).wr W77 (Or.inr lb71)).wr W81 (Or.inr lb71)).ext E85
    have S_352 := ((S_351.wr W92 (Or.inr (Nat.le_trans (Nat.le_trans (Nat.le_trans E70.1 (Keep.of_wr W77).1) (Keep.of_wr W81).1) lb86))).wr W96 (Or.inr (Nat.le_trans (Nat.le_trans (Nat.le_trans E70.1 (Keep.of_wr W77).1) (Keep.of_wr W81).1) lb86))).ext E100
    have S_353 := ((S_352.wr W107 (Or.inr (Nat.le_trans (Nat.le_trans S_351.1 (Nat.le_trans (Keep.of_wr W92).1 (Keep.of_wr W96).1)) lb101))).wr W111 (Or.inr (Nat.le_trans (Nat.le_trans S_351.1 (Nat.le_trans (Keep.of_wr W92).1 (Keep.of_wr W96).1)) lb101))).ext E115
    have S_354 := ((S_353.wr W122 (Or.inr (Nat.le_trans (Nat.le_trans S_352.1 (Nat.le_trans (Keep.of_wr W107).1 (Keep.of_wr W111).1)) lb116))).wr W126 (Or.inr (Nat.le_trans (Nat.le_trans S_352.1 (Nat.le_trans (Keep.of_wr W107).1 (Keep.of_wr W111).1)) lb116))).ext E130
    have S_355 := ((S_354.wr W137 (Or.inr (Nat.le_trans (Nat.le_trans S_353.1 (Nat.le_trans (Keep.of_wr W122).1 (Keep.of_wr W126).1)) lb131))).wr W141 (Or.inr (Nat.le_trans (Nat.le_trans S_353.1 (Nat.le_trans (Keep.of_wr W122).1 (Keep.of_wr W126).1)) lb131))).ext E145
    have S_356 := ((S_355.wr W152 (Or.inr (Nat.le_trans (Nat.le_trans S_354.1 (Nat.le_trans (Keep.of_wr W137).1 (Keep.of_wr W141).1)) lb146))).wr W156 (Or.inr (Nat.le_trans (Nat.le_trans S_354.1 (Nat.le_trans (Keep.of_wr W137).1 (Keep.of_wr W141).1)) lb146))).ext E160
    have S_357 : Keep h66 T322.heap [] := ((S_356.trans Kq180 (allS (Or.inr (Nat.le_trans (Nat.le_trans S_355.1 (Nat.le_trans (Keep.of_wr W152).1 (Keep.of_wr W156).1)) lb161)) all0)).trans Kq322 (allS (Or.inr (Nat.le_trans (Nat.le_trans S_355.1 (Nat.le_trans (Keep.of_wr W152).1 (Keep.of_wr W156).1)) lb161)) (allS (Or.inr (Nat.le_trans S_356.1 q203)) (allS (Or.inr (Nat.le_trans S_356.1 q204)) (allS (Or.inr (Nat.le_trans S_356.1 q205)) (allS (Or.inr (Nat.le_trans S_356.1 q206)) (allS (Or.inr (Nat.le_trans S_356.1 q207)) (allS (Or.inr (Nat.le_trans S_356.1 q208)) (allS (Or.inr (Nat.le_trans S_356.1 q209)) (allS (Or.inr (Nat.le_trans S_356.1 q210)) (allS (Or.inr (Nat.le_trans S_356.1 q211)) (allS (Or.inr (Nat.le_trans S_356.1 q212)) (allS (Or.inr (Nat.le_trans S_356.1 q213)) all0)))))))))))))
    have c358 := V67.keep S_357 nin0
    have S_359 := ((((Keep.refl h81 []).ext E85).wr W92 (Or.inr lb86)).wr W96 (Or.inr lb86)).ext E100
    have S_360 := ((S_359.wr W107 (Or.inr (Nat.le_trans (Nat.le_trans (Nat.le_trans E85.1 (Keep.of_wr W92).1) (Keep.of_wr W96).1) lb101))).wr W111 (Or.inr (Nat.le_trans (Nat.le_trans (Nat.le_trans E85.1 (Keep.of_wr W92).1) (Keep.of_wr W96).1) lb101))).ext E115
    have S_361 := ((S_360.wr W122 (Or.inr (Nat.le_trans (Nat.le_trans S_359.1 (Nat.le_trans (Keep.of_wr W107).1 (Keep.of_wr W111).1)) lb116))).wr W126 (Or.inr (Nat.le_trans (Nat.le_trans S_359.1 (Nat.le_trans (Keep.of_wr W107).1 (Keep.of_wr W111).1)) lb116))).ext E130
    have S_362 := ((S_361.wr W137 (Or.inr (Nat.le_trans (Nat.le_trans S_360.1 (Nat.le_trans (Keep.of_wr W122).1 (Keep.of_wr W126).1)) lb131))).wr W141 (Or.inr (Nat.le_trans (Nat.le_trans S_360.1 (Nat.le_trans (Keep.of_wr W122).1 (Keep.of_wr W126).1)) lb131))).ext E145
    have S_363 := ((S_362.wr W152 (Or.inr (Nat.le_trans (Nat.le_trans S_361.1 (Nat.le_trans (Keep.of_wr W137).1 (Keep.of_wr W141).1)) lb146))).wr W156 (Or.inr (Nat.le_trans (Nat.le_trans S_361.1 (Nat.le_trans (Keep.of_wr W137).1 (Keep.of_wr W141).1)) lb146))).ext E160
    have S_364 : Keep h81 T322.heap [] := ((S_363.trans Kq180 (allS (Or.inr (Nat.le_trans (Nat.le_trans S_362.1 (Nat.le_trans (Keep.of_wr W152).1 (Keep.of_wr W156).1)) lb161)) all0)).trans Kq322 (allS (Or.inr (Nat.le_trans (Nat.le_trans S_362.1 (Nat.le_trans (Keep.of_wr W152).1 (Keep.of_wr W156).1)) lb161)) (allS (Or.inr (Nat.le_trans S_363.1 q203)) (allS (Or.inr (Nat.le_trans S_363.1 q204)) (allS (Or.inr (Nat.le_trans S_363.1 q205)) (allS (Or.inr (Nat.le_trans S_363.1 q206)) (allS (Or.inr (Nat.le_trans S_363.1 q207)) (allS (Or.inr (Nat.le_trans S_363.1 q208)) (allS (Or.inr (Nat.le_trans S_363.1 q209)) (allS (Or.inr (Nat.le_trans S_363.1 q210)) (allS (Or.inr (Nat.le_trans S_363.1 q211)) (allS (Or.inr (Nat.le_trans S_363.1 q212)) (allS (Or.inr (Nat.le_trans S_363.1 q213)) all0)))))))))))))
    have c365 := V82.keep S_364 nin0
    have o366 : b70 < b100 := Nat.lt_trans o309 o311
    have o367 : b70 < b115 := Nat.lt_trans o366 o313
    have o368 : b70 < b130 := Nat.lt_trans o367 o315
    have o369 : b70 < b145 := Nat.lt_trans o368 o317
    have o370 : b70 < b160 := Nat.lt_trans o369 o319
    refine Go.cps (own_cv (W := 0) (b := b160) (argsL := [(.int 0), (.int 0), (.int 0), (.double (FP.l2d (1 : Int64))), (.ref b55), .null, (.ref b70)]) (rest := []) X322 hx hZ hown (hw _ tw37) (hw _ tw38) (notFace_of_selects (args := #[]) (mvT hZ (hw _ tw40))) (hw _ tw40) (hw _ tw39) (hw _ tw41) (hw _ tw5) (by decide) rfl q323 (rm3_1_1 l Z a0 hw [] b160 b55 b70 b181 b182 b183 b184 b185 b186 b187 b188 b189 b190 b191 k192 k193 k194 k195 k196 k197 k198 k199 k200 k201 k202 p3 p2 (FP.l2d ld3) (FP.l2d ld4) p0 p2 (FP.l2d ld1) k55 k70 T322.heap n0 (Nat.le_trans Z0 K349.1) O350  q323 q324 q325 q326 q327 q328 q329 q330 q331 q332 q333 q334 q335 q336 q337 q338 q339 q340 q341 q342 q343 q344 q345 q346 q347 q348 c358 c365 g163 g251 g253 g255 g257 g259 g261 g263 g265 g267 g269 g271 o307 o370 o321 q214 q215 q216 q217 q218 q219 q220 q221 q222 q223) rfl (by rw [hml]; rfl) (lenOf pd3 rfl) rfl (Nat.le_of_eq rfl) (hb hby at_230) rfl (by decide) (by decide) (by decide) (by decide)) ?_
    rintro T371 _ L371 X371 ⟨rfl, Nq371, Kq371, q372, q373, q374, q375, q376, q377, q378, q379, q380, q381, q382, q383, q384, q385, q386, q387, q388, q389, q390, q391, q392, q393, q394, q395, q396, q397⟩
    have N371 := Fr.app N322 Nq371
    have K398 := K349.trans Kq371 (allS (Or.inr sz162) (allS (Or.inr sz250) (allS (Or.inr sz252) (allS (Or.inr sz254) (allS (Or.inr sz256) (allS (Or.inr sz258) (allS (Or.inr sz260) (allS (Or.inr sz262) (allS (Or.inr sz264) (allS (Or.inr sz266) (allS (Or.inr sz268) (allS (Or.inr sz270) all0))))))))))))
    have O399 := O350.keep Kq371 (allS g163 (allS g251 (allS g253 (allS g255 (allS g257 (allS g259 (allS g261 (allS g263 (allS g265 (allS g267 (allS g269 (allS g271 all0))))))))))))
    refine Go.st (t' := T371.setTop (mkF m 242 #[.val (.int p0), .val (.int p1), .val (.int p2), .val (.int p3), .val (.long q4), .second, .val (.int p5), .val (.int 1), .val (.double (FP.l2d ld1)), .second, .val (.double (FP.l2d ld2)), .second, .val (.double (FP.l2d ld3)), .second, .val (.double (FP.l2d ld4)), .second, .val (.ref b10), .val (.ref b25), .val (.ref b40), .val (.ref b55), .val (.ref b70), .val (.ref b85), .val (.ref b100), .val (.ref b115), .val (.ref b130), .val (.ref b145), .val (.ref b160), .unset, .unset, .unset] [(.ref b115), (.ref b100), (.ref b85), (.int 0), (.ref b160)])) (fun target kt => ?_) ?_
    · refine XS.aload X371.here hx rfl (hb hby at_233) rfl rfl ?_
      refine XS.iconst X371.here hx rfl (hb hby at_235) ?_
      refine XS.aload X371.here hx rfl (hb hby at_236) rfl rfl ?_
      refine XS.aload X371.here hx rfl (hb hby at_238) rfl rfl ?_
      refine XS.aload X371.here hx rfl (hb hby at_240) rfl rfl ?_
      exact kt
    have S_400 := ((((Keep.refl h96 []).ext E100).wr W107 (Or.inr lb101)).wr W111 (Or.inr lb101)).ext E115
    have S_401 := ((S_400.wr W122 (Or.inr (Nat.le_trans (Nat.le_trans (Nat.le_trans E100.1 (Keep.of_wr W107).1) (Keep.of_wr W111).1) lb116))).wr W126 (Or.inr (Nat.le_trans (Nat.le_trans (Nat.le_trans E100.1 (Keep.of_wr W107).1) (Keep.of_wr W111).1) lb116))).ext E130
    have S_402 := ((S_401.wr W137 (Or.inr (Nat.le_trans (Nat.le_trans S_400.1 (Nat.le_trans (Keep.of_wr W122).1 (Keep.of_wr W126).1)) lb131))).wr W141 (Or.inr (Nat.le_trans (Nat.le_trans S_400.1 (Nat.le_trans (Keep.of_wr W122).1 (Keep.of_wr W126).1)) lb131))).ext E145
    have S_403 := ((S_402.wr W152 (Or.inr (Nat.le_trans (Nat.le_trans S_401.1 (Nat.le_trans (Keep.of_wr W137).1 (Keep.of_wr W141).1)) lb146))).wr W156 (Or.inr (Nat.le_trans (Nat.le_trans S_401.1 (Nat.le_trans (Keep.of_wr W137).1 (Keep.of_wr W141).1)) lb146))).ext E160
    have S_404 : Keep h96 T371.heap [] := (((S_403.trans Kq180 (allS (Or.inr (Nat.le_trans (Nat.le_trans S_402.1 (Nat.le_trans (Keep.of_wr W152).1 (Keep.of_wr W156).1)) lb161)) all0)).trans Kq322 (allS (Or.inr (Nat.le_trans (Nat.le_trans S_402.1 (Nat.le_trans (Keep.of_wr W152).1 (Keep.of_wr W156).1)) lb161)) (allS (Or.inr (Nat.le_trans S_403.1 q203)) (allS (Or.inr (Nat.le_trans S_403.1 q204)) (allS (Or.inr (Nat.le_trans S_403.1 q205)) (allS (Or.inr (Nat.le_trans S_403.1 q206)) (allS (Or.inr (Nat.le_trans S_403.1 q207)) (allS (Or.inr (Nat.le_trans S_403.1 q208)) (allS (Or.inr (Nat.le_trans S_403.1 q209)) (allS (Or.inr (Nat.le_trans S_403.1 q210)) (allS (Or.inr (Nat.le_trans S_403.1 q211)) (allS (Or.inr (Nat.le_trans S_403.1 q212)) (allS (Or.inr (Nat.le_trans S_403.1 q213)) all0))))))))))))).trans Kq371 (allS (Or.inr (Nat.le_trans (Nat.le_trans S_402.1 (Nat.le_trans (Keep.of_wr W152).1 (Keep.of_wr W156).1)) lb161)) (allS (Or.inr (Nat.le_trans S_403.1 q203)) (allS (Or.inr (Nat.le_trans S_403.1 q204)) (allS (Or.inr (Nat.le_trans S_403.1 q205)) (allS (Or.inr (Nat.le_trans S_403.1 q206)) (allS (Or.inr (Nat.le_trans S_403.1 q207)) (allS (Or.inr (Nat.le_trans S_403.1 q208)) (allS (Or.inr (Nat.le_trans S_403.1 q209)) (allS (Or.inr (Nat.le_trans S_403.1 q210)) (allS (Or.inr (Nat.le_trans S_403.1 q211)) (allS (Or.inr (Nat.le_trans S_403.1 q212)) (allS (Or.inr (Nat.le_trans S_403.1 q213)) all0)))))))))))))
    have c405 := V97.keep S_404 nin0
    have S_406 := ((((Keep.refl h111 []).ext E115).wr W122 (Or.inr lb116)).wr W126 (Or.inr lb116)).ext E130
    have S_407 := ((S_406.wr W137 (Or.inr (Nat.le_trans (Nat.le_trans (Nat.le_trans E115.1 (Keep.of_wr W122).1) (Keep.of_wr W126).1) lb131))).wr W141 (Or.inr (Nat.le_trans (Nat.le_trans (Nat.le_trans E115.1 (Keep.of_wr W122).1) (Keep.of_wr W126).1) lb131))).ext E145
    have S_408 := ((S_407.wr W152 (Or.inr (Nat.le_trans (Nat.le_trans S_406.1 (Nat.le_trans (Keep.of_wr W137).1 (Keep.of_wr W141).1)) lb146))).wr W156 (Or.inr (Nat.le_trans (Nat.le_trans S_406.1 (Nat.le_trans (Keep.of_wr W137).1 (Keep.of_wr W141).1)) lb146))).ext E160
    have S_409 : Keep h111 T371.heap [] := (((S_408.trans Kq180 (allS (Or.inr (Nat.le_trans (Nat.le_trans S_407.1 (Nat.le_trans (Keep.of_wr W152).1 (Keep.of_wr W156).1)) lb161)) all0)).trans Kq322 (allS (Or.inr (Nat.le_trans (Nat.le_trans S_407.1 (Nat.le_trans (Keep.of_wr W152).1 (Keep.of_wr W156).1)) lb161)) (allS (Or.inr (Nat.le_trans S_408.1 q203)) (allS (Or.inr (Nat.le_trans S_408.1 q204)) (allS (Or.inr (Nat.le_trans S_408.1 q205)) (allS (Or.inr (Nat.le_trans S_408.1 q206)) (allS (Or.inr (Nat.le_trans S_408.1 q207)) (allS (Or.inr (Nat.le_trans S_408.1 q208)) (allS (Or.inr (Nat.le_trans S_408.1 q209)) (allS (Or.inr (Nat.le_trans S_408.1 q210)) (allS (Or.inr (Nat.le_trans S_408.1 q211)) (allS (Or.inr (Nat.le_trans S_408.1 q212)) (allS (Or.inr (Nat.le_trans S_408.1 q213)) all0))))))))))))).trans Kq371 (allS (Or.inr (Nat.le_trans (Nat.le_trans S_407.1 (Nat.le_trans (Keep.of_wr W152).1 (Keep.of_wr W156).1)) lb161)) (allS (Or.inr (Nat.le_trans S_408.1 q203)) (allS (Or.inr (Nat.le_trans S_408.1 q204)) (allS (Or.inr (Nat.le_trans S_408.1 q205)) (allS (Or.inr (Nat.le_trans S_408.1 q206)) (allS (Or.inr (Nat.le_trans S_408.1 q207)) (allS (Or.inr (Nat.le_trans S_408.1 q208)) (allS (Or.inr (Nat.le_trans S_408.1 q209)) (allS (Or.inr (Nat.le_trans S_408.1 q210)) (allS (Or.inr (Nat.le_trans S_408.1 q211)) (allS (Or.inr (Nat.le_trans S_408.1 q212)) (allS (Or.inr (Nat.le_trans S_408.1 q213)) all0)))))))))))))
    have c410 := V112.keep S_409 nin0
    have S_411 := ((((Keep.refl h126 []).ext E130).wr W137 (Or.inr lb131)).wr W141 (Or.inr lb131)).ext E145
    have S_412 := ((S_411.wr W152 (Or.inr (Nat.le_trans (Nat.le_trans (Nat.le_trans E130.1 (Keep.of_wr W137).1) (Keep.of_wr W141).1) lb146))).wr W156 (Or.inr (Nat.le_trans (Nat.le_trans (Nat.le_trans E130.1 (Keep.of_wr W137).1) (Keep.of_wr W141).1) lb146))).ext E160
    have S_413 : Keep h126 T371.heap [] := (((S_412.trans Kq180 (allS (Or.inr (Nat.le_trans (Nat.le_trans S_411.1 (Nat.le_trans (Keep.of_wr W152).1 (Keep.of_wr W156).1)) lb161)) all0)).trans Kq322 (allS (Or.inr (Nat.le_trans (Nat.le_trans S_411.1 (Nat.le_trans (Keep.of_wr W152).1 (Keep.of_wr W156).1)) lb161)) (allS (Or.inr (Nat.le_trans S_412.1 q203)) (allS (Or.inr (Nat.le_trans S_412.1 q204)) (allS (Or.inr (Nat.le_trans S_412.1 q205)) (allS (Or.inr (Nat.le_trans S_412.1 q206)) (allS (Or.inr (Nat.le_trans S_412.1 q207)) (allS (Or.inr (Nat.le_trans S_412.1 q208)) (allS (Or.inr (Nat.le_trans S_412.1 q209)) (allS (Or.inr (Nat.le_trans S_412.1 q210)) (allS (Or.inr (Nat.le_trans S_412.1 q211)) (allS (Or.inr (Nat.le_trans S_412.1 q212)) (allS (Or.inr (Nat.le_trans S_412.1 q213)) all0))))))))))))).trans Kq371 (allS (Or.inr (Nat.le_trans (Nat.le_trans S_411.1 (Nat.le_trans (Keep.of_wr W152).1 (Keep.of_wr W156).1)) lb161)) (allS (Or.inr (Nat.le_trans S_412.1 q203)) (allS (Or.inr (Nat.le_trans S_412.1 q204)) (allS (Or.inr (Nat.le_trans S_412.1 q205)) (allS (Or.inr (Nat.le_trans S_412.1 q206)) (allS (Or.inr (Nat.le_trans S_412.1 q207)) (allS (Or.inr (Nat.le_trans S_412.1 q208)) (allS (Or.inr (Nat.le_trans S_412.1 q209)) (allS (Or.inr (Nat.le_trans S_412.1 q210)) (allS (Or.inr (Nat.le_trans S_412.1 q211)) (allS (Or.inr (Nat.le_trans S_412.1 q212)) (allS (Or.inr (Nat.le_trans S_412.1 q213)) all0)))))))))))))
    have c414 := V127.keep S_413 nin0
    have o415 : b115 < b145 := Nat.lt_trans o315 o317
    have o416 : b115 < b160 := Nat.lt_trans o415 o319
    have o417 : b160 < b189 := Nat.lt_of_lt_of_le A160.lt q211
    refine Go.cps (own_cv (W := 0) (b := b160) (argsL := [(.int 0), (.ref b85), (.ref b100), (.ref b115)]) (rest := []) X371 hx hZ hown (hw _ tw57) (hw _ tw58) (notFace_of_selects (args := #[]) (mvT hZ (hw _ tw60))) (hw _ tw60) (hw _ tw59) (hw _ tw61) (hw _ tw5) (by decide) rfl q372 (rm7_1_0 l Z a0 hw [] b160 b85 b100 b115 b189 b190 b191 k200 k201 k202 k85 k115 k100 p0 p3 p2 (FP.l2d ld1) (FP.l2d ld3) T371.heap n0 (Nat.le_trans Z0 K398.1) O399  q372 q373 q392 q394 q396 q393 q395 q397 c405 c410 c414 g88 g103 g118 o311 o313 o416 o417 q222 q223) rfl (by rw [hml]; rfl) (lenOf pd4 rfl) rfl (Nat.le_of_eq rfl) (hb hby at_242) rfl (by decide) (by decide) (by decide) (by decide)) ?_
    rintro T418 _ L418 X418 ⟨rfl, Nq418, Kq418, q419, q420, q421⟩
    have N418 := Fr.app N371 Nq418
    have K422 := K398.trans Kq418 (allS (Or.inr sz87) (allS (Or.inr sz102) (allS (Or.inr sz117) all0)))
    have O423 := O399.keep Kq418 (allS g88 (allS g103 (allS g118 all0)))
    refine Go.st (t' := T418.setTop (mkF m 253 #[.val (.int p0), .val (.int p1), .val (.int p2), .val (.int p3), .val (.long q4), .second, .val (.int p5), .val (.int 1), .val (.double (FP.l2d ld1)), .second, .val (.double (FP.l2d ld2)), .second, .val (.double (FP.l2d ld3)), .second, .val (.double (FP.l2d ld4)), .second, .val (.ref b10), .val (.ref b25), .val (.ref b40), .val (.ref b55), .val (.ref b70), .val (.ref b85), .val (.ref b100), .val (.ref b115), .val (.ref b130), .val (.ref b145), .val (.ref b160), .unset, .unset, .unset] [(.ref b145), .null, (.ref b130), (.int 1), (.ref b160)])) (fun target kt => ?_) ?_
    · refine XS.aload X418.here hx rfl (hb hby at_245) rfl rfl ?_
      refine XS.iconst X418.here hx rfl (hb hby at_247) ?_
      refine XS.aload X418.here hx rfl (hb hby at_248) rfl rfl ?_
      refine XS.aconstNull X418.here hx rfl (hb hby at_250) ?_
      refine XS.aload X418.here hx rfl (hb hby at_251) rfl rfl ?_
      exact kt
    have c424 := q372.keep Kq418
    have ne425 : b115 ≠ b160 := Nat.ne_of_lt o416
    have o426 : b100 < b130 := Nat.lt_trans o313 o315
    have o427 : b100 < b145 := Nat.lt_trans o426 o317
    have o428 : b100 < b160 := Nat.lt_trans o427 o319
    have ne429 : b100 ≠ b160 := Nat.ne_of_lt o428
    have o430 : b85 < b115 := Nat.lt_trans o311 o313
    have o431 : b85 < b130 := Nat.lt_trans o430 o315
    have o432 : b85 < b145 := Nat.lt_trans o431 o317
    have o433 : b85 < b160 := Nat.lt_trans o432 o319
    have ne434 : b85 ≠ b160 := Nat.ne_of_lt o433
    have c435 := q373.keep Kq418 (ninS (Ne.symm ne434) (ninS (Ne.symm ne429) (ninS (Ne.symm ne425) nin0)))
    have c436 := q392.keep Kq418 (ninS (Ne.symm ne434) (ninS (Ne.symm ne429) (ninS (Ne.symm ne425) nin0)))
    have c437 := q394.keep Kq418 (ninS (Ne.symm ne434) (ninS (Ne.symm ne429) (ninS (Ne.symm ne425) nin0)))
    have c438 := q396.keep Kq418 (ninS (Ne.symm ne434) (ninS (Ne.symm ne429) (ninS (Ne.symm ne425) nin0)))
    have o439 : b115 < b189 := Nat.lt_trans o416 o417
    have ne440 : b115 ≠ b189 := Nat.ne_of_lt o439
    have o441 : b100 < b189 := Nat.lt_trans o428 o417
    have ne442 : b100 ≠ b189 := Nat.ne_of_lt o441
    have o443 : b85 < b189 := Nat.lt_trans o433 o417
    have ne444 : b85 ≠ b189 := Nat.ne_of_lt o443
    have c445 := q393.keep Kq418 (ninS (Ne.symm ne444) (ninS (Ne.symm ne442) (ninS (Ne.symm ne440) nin0)))
    have o446 : b160 < b190 := Nat.lt_of_lt_of_le A160.lt q212
    have o447 : b115 < b190 := Nat.lt_trans o416 o446
    have ne448 : b115 ≠ b190 := Nat.ne_of_lt o447
    have o449 : b100 < b190 := Nat.lt_trans o428 o446
    have ne450 : b100 ≠ b190 := Nat.ne_of_lt o449
    have o451 : b85 < b190 := Nat.lt_trans o433 o446
    have ne452 : b85 ≠ b190 := Nat.ne_of_lt o451
    have c453 := q395.keep Kq418 (ninS (Ne.symm ne452) (ninS (Ne.symm ne450) (ninS (Ne.symm ne448) nin0)))
    have o454 : b160 < b191 := Nat.lt_of_lt_of_le A160.lt q213
    have o455 : b115 < b191 := Nat.lt_trans o416 o454
    have ne456 : b115 ≠ b191 := Nat.ne_of_lt o455
    have o457 : b100 < b191 := Nat.lt_trans o428 o454
    have ne458 : b100 ≠ b191 := Nat.ne_of_lt o457
    have o459 : b85 < b191 := Nat.lt_trans o433 o454
    have ne460 : b85 ≠ b191 := Nat.ne_of_lt o459
    have c461 := q397.keep Kq418 (ninS (Ne.symm ne460) (ninS (Ne.symm ne458) (ninS (Ne.symm ne456) nin0)))
    have S_462 := ((((Keep.refl h141 [b85, b100, b115]).ext E145).wr W152 (Or.inr lb146)).wr W156 (Or.inr lb146)).ext E160
    have S_463 : Keep h141 T418.heap [b85, b100, b115] := ((((S_462.trans Kq180 (allS (Or.inr (Nat.le_trans (Nat.le_trans (Nat.le_trans E145.1 (Keep.of_wr W152).1) (Keep.of_wr W156).1) lb161)) all0)).trans Kq322 (allS (Or.inr (Nat.le_trans (Nat.le_trans (Nat.le_trans E145.1 (Keep.of_wr W152).1) (Keep.of_wr W156).1) lb161)) (allS (Or.inr (Nat.le_trans S_462.1 q203)) (allS (Or.inr (Nat.le_trans S_462.1 q204)) (allS (Or.inr (Nat.le_trans S_462.1 q205)) (allS (Or.inr (Nat.le_trans S_462.1 q206)) (allS (Or.inr (Nat.le_trans S_462.1 q207)) (allS (Or.inr (Nat.le_trans S_462.1 q208)) (allS (Or.inr (Nat.le_trans S_462.1 q209)) (allS (Or.inr (Nat.le_trans S_462.1 q210)) (allS (Or.inr (Nat.le_trans S_462.1 q211)) (allS (Or.inr (Nat.le_trans S_462.1 q212)) (allS (Or.inr (Nat.le_trans S_462.1 q213)) all0))))))))))))).trans Kq371 (allS (Or.inr (Nat.le_trans (Nat.le_trans (Nat.le_trans E145.1 (Keep.of_wr W152).1) (Keep.of_wr W156).1) lb161)) (allS (Or.inr (Nat.le_trans S_462.1 q203)) (allS (Or.inr (Nat.le_trans S_462.1 q204)) (allS (Or.inr (Nat.le_trans S_462.1 q205)) (allS (Or.inr (Nat.le_trans S_462.1 q206)) (allS (Or.inr (Nat.le_trans S_462.1 q207)) (allS (Or.inr (Nat.le_trans S_462.1 q208)) (allS (Or.inr (Nat.le_trans S_462.1 q209)) (allS (Or.inr (Nat.le_trans S_462.1 q210)) (allS (Or.inr (Nat.le_trans S_462.1 q211)) (allS (Or.inr (Nat.le_trans S_462.1 q212)) (allS (Or.inr (Nat.le_trans S_462.1 q213)) all0))))))))))))).trans Kq418 (allS (Or.inl mI0) (allS (Or.inl mI1) (allS (Or.inl mI2) all0))))
    have ne464 : b115 ≠ b130 := Nat.ne_of_lt o315
    have ne465 : b100 ≠ b130 := Nat.ne_of_lt o426
    have ne466 : b85 ≠ b130 := Nat.ne_of_lt o431
    have c467 := V142.keep S_463 (ninS (Ne.symm ne466) (ninS (Ne.symm ne465) (ninS (Ne.symm ne464) nin0)))
    have S_468 : Keep h156 T418.heap [b85, b100, b115] := ((((((Keep.refl h156 [b85, b100, b115]).ext E160).trans Kq180 (allS (Or.inr lb161) all0)).trans Kq322 (allS (Or.inr lb161) (allS (Or.inr (Nat.le_trans E160.1 q203)) (allS (Or.inr (Nat.le_trans E160.1 q204)) (allS (Or.inr (Nat.le_trans E160.1 q205)) (allS (Or.inr (Nat.le_trans E160.1 q206)) (allS (Or.inr (Nat.le_trans E160.1 q207)) (allS (Or.inr (Nat.le_trans E160.1 q208)) (allS (Or.inr (Nat.le_trans E160.1 q209)) (allS (Or.inr (Nat.le_trans E160.1 q210)) (allS (Or.inr (Nat.le_trans E160.1 q211)) (allS (Or.inr (Nat.le_trans E160.1 q212)) (allS (Or.inr (Nat.le_trans E160.1 q213)) all0))))))))))))).trans Kq371 (allS (Or.inr lb161) (allS (Or.inr (Nat.le_trans E160.1 q203)) (allS (Or.inr (Nat.le_trans E160.1 q204)) (allS (Or.inr (Nat.le_trans E160.1 q205)) (allS (Or.inr (Nat.le_trans E160.1 q206)) (allS (Or.inr (Nat.le_trans E160.1 q207)) (allS (Or.inr (Nat.le_trans E160.1 q208)) (allS (Or.inr (Nat.le_trans E160.1 q209)) (allS (Or.inr (Nat.le_trans E160.1 q210)) (allS (Or.inr (Nat.le_trans E160.1 q211)) (allS (Or.inr (Nat.le_trans E160.1 q212)) (allS (Or.inr (Nat.le_trans E160.1 q213)) all0))))))))))))).trans Kq418 (allS (Or.inl mI0) (allS (Or.inl mI1) (allS (Or.inl mI2) all0))))
    have ne469 : b115 ≠ b145 := Nat.ne_of_lt o415
    have ne470 : b100 ≠ b145 := Nat.ne_of_lt o427
    have ne471 : b85 ≠ b145 := Nat.ne_of_lt o432
    have c472 := V157.keep S_468 (ninS (Ne.symm ne471) (ninS (Ne.symm ne470) (ninS (Ne.symm ne469) nin0)))
    refine Go.cps (own_cv (W := 0) (b := b160) (argsL := [(.int 1), (.ref b130), .null, (.ref b145)]) (rest := []) X418 hx hZ hown (hw _ tw57) (hw _ tw58) (notFace_of_selects (args := #[]) (mvT hZ (hw _ tw60))) (hw _ tw60) (hw _ tw59) (hw _ tw61) (hw _ tw5) (by decide) rfl c424 (rm7_1_1 l Z a0 hw [] b160 b130 b145 b189 b190 b191 k200 k201 k202 k130 k145 p0 p3 p2 (FP.l2d ld1) (FP.l2d ld3) T418.heap n0 (Nat.le_trans Z0 K422.1) O423  c424 c435 c436 c437 c438 c445 c453 c461 c467 c472 g133 g148 o317 o319 o417 q222 q223) rfl (by rw [hml]; rfl) (lenOf pd4 rfl) rfl (Nat.le_of_eq rfl) (hb hby at_253) rfl (by decide) (by decide) (by decide) (by decide)) ?_
    rintro T473 _ L473 X473 ⟨rfl, Nq473, Kq473, q474, q475⟩
    have N473 := Fr.app N418 Nq473
    have K476 := K422.trans Kq473 (allS (Or.inr sz132) (allS (Or.inr sz147) all0))
    have O477 := O423.keep Kq473 (allS g133 (allS g148 all0))
    have c478 := q419.keep Kq473 (ninS ne466 (ninS ne471 nin0))
    obtain ⟨cl479, Ar479, -, S479, M479, H479, -⟩ := id c478
    have hin479 : ¬ ((0 : Int32) < 0 ∨ cl479.slots.size ≤ ((0 : Int32)).toNatClampNeg) := inb_of S479 ⟨by decide, by decide⟩
    have hat479 : cl479.slots[((0 : Int32)).toNatClampNeg]? = some (.int p0) := H479.at hin479 rfl
    have c480 := q420.keep Kq473 (ninS ne465 (ninS ne470 nin0))
    obtain ⟨cl481, Ar481, -, S481, M481, H481, -⟩ := id c480
    have hin481 : ¬ ((0 : Int32) < 0 ∨ cl481.slots.size ≤ ((0 : Int32)).toNatClampNeg) := inb_of S481 ⟨by decide, by decide⟩
    have hat481 : cl481.slots[((0 : Int32)).toNatClampNeg]? = some (.int p2) := H481.at hin481 rfl
    have c482 := q421.keep Kq473 (ninS ne464 (ninS ne469 nin0))
    obtain ⟨cl483, Ar483, -, S483, M483, H483, -⟩ := id c482
    have hin483 : ¬ ((0 : Int32) < 0 ∨ cl483.slots.size ≤ ((0 : Int32)).toNatClampNeg) := inb_of S483 ⟨by decide, by decide⟩
    have hat483 : cl483.slots[((0 : Int32)).toNatClampNeg]? = some (.double (FP.l2d ld1)) := H483.at hin483 rfl
    obtain ⟨cl484, Ar484, -, S484, M484, H484, -⟩ := id c478
    have hin484 : ¬ ((1 : Int32) < 0 ∨ cl484.slots.size ≤ ((1 : Int32)).toNatClampNeg) := inb_of S484 ⟨by decide, by decide⟩
    have hat484 : cl484.slots[((1 : Int32)).toNatClampNeg]? = some (.int 7) := H484.at hin484 rfl
    obtain ⟨cl485, Ar485, -, S485, M485, H485, -⟩ := id c480
    have hin485 : ¬ ((1 : Int32) < 0 ∨ cl485.slots.size ≤ ((1 : Int32)).toNatClampNeg) := inb_of S485 ⟨by decide, by decide⟩
    have hat485 : cl485.slots[((1 : Int32)).toNatClampNeg]? = some (.int 7) := H485.at hin485 rfl
    obtain ⟨cl486, Ar486, -, S486, M486, H486, -⟩ := id c482
    have hin486 : ¬ ((1 : Int32) < 0 ∨ cl486.slots.size ≤ ((1 : Int32)).toNatClampNeg) := inb_of S486 ⟨by decide, by decide⟩
    have hat486 : cl486.slots[((1 : Int32)).toNatClampNeg]? = some (.double (4602678819172646912 : UInt64)) := H486.at hin486 rfl
    obtain ⟨cl487, Ar487, -, S487, M487, H487, -⟩ := id q474
    have hin487 : ¬ ((0 : Int32) < 0 ∨ cl487.slots.size ≤ ((0 : Int32)).toNatClampNeg) := inb_of S487 ⟨by decide, by decide⟩
    have hat487 : cl487.slots[((0 : Int32)).toNatClampNeg]? = some (.int p3) := H487.at hin487 rfl
    obtain ⟨cl488, Ar488, -, S488, M488, H488, -⟩ := id q475
    have hin488 : ¬ ((0 : Int32) < 0 ∨ cl488.slots.size ≤ ((0 : Int32)).toNatClampNeg) := inb_of S488 ⟨by decide, by decide⟩
    have hat488 : cl488.slots[((0 : Int32)).toNatClampNeg]? = some (.double (FP.l2d ld3)) := H488.at hin488 rfl
    obtain ⟨cl489, Ar489, -, S489, M489, H489, -⟩ := id q474
    have hin489 : ¬ ((1 : Int32) < 0 ∨ cl489.slots.size ≤ ((1 : Int32)).toNatClampNeg) := inb_of S489 ⟨by decide, by decide⟩
    have hat489 : cl489.slots[((1 : Int32)).toNatClampNeg]? = some (.int 7) := H489.at hin489 rfl
    obtain ⟨cl490, Ar490, -, S490, M490, H490, -⟩ := id q475
    have hin490 : ¬ ((1 : Int32) < 0 ∨ cl490.slots.size ≤ ((1 : Int32)).toNatClampNeg) := inb_of S490 ⟨by decide, by decide⟩
    have hat490 : cl490.slots[((1 : Int32)).toNatClampNeg]? = some (.double (4602678819172646912 : UInt64)) := H490.at hin490 rfl
    refine Go.st (t' := T473.setTop (mkF m 451 #[.val (.int p0), .val (.int p1), .val (.int p2), .val (.int p3), .val (.long q4), .second, .val (.int p5), .val (.int 1), .val (.double (FP.l2d ld1)), .second, .val (.double (FP.l2d ld2)), .second, .val (.double (FP.l2d ld3)), .second, .val (.double (FP.l2d ld4)), .second, .val (.ref b10), .val (.ref b25), .val (.ref b40), .val (.ref b55), .val (.ref b70), .val (.ref b85), .val (.ref b100), .val (.ref b115), .val (.ref b130), .val (.ref b145), .val (.ref b160), .val (.int 0), .val (.int 1), .val (.int 1)] [(.int 1)])) (fun target kt => ?_) ?_
    · refine XS.iload X473.here hx rfl (hb hby at_256) rfl ?_
      refine XS.iconst X473.here hx rfl (hb hby at_258) ?_
      refine XS.icmpYes X473.here hx rfl (pc0 := 259) (pc' := 266) rfl (hb hby at_259) rfl (feq (by decide : ¬ ((1 : Int32) = (2 : Int32)))).2 (by decide) (by decide) ?_
      refine XS.iconst X473.here hx rfl (hb hby at_266) ?_
      refine XS.istore X473.here hx rfl (hb hby at_267) rfl (l' := #[.val (.int p0), .val (.int p1), .val (.int p2), .val (.int p3), .val (.long q4), .second, .val (.int p5), .val (.int 1), .val (.double (FP.l2d ld1)), .second, .val (.double (FP.l2d ld2)), .second, .val (.double (FP.l2d ld3)), .second, .val (.double (FP.l2d ld4)), .second, .val (.ref b10), .val (.ref b25), .val (.ref b40), .val (.ref b55), .val (.ref b70), .val (.ref b85), .val (.ref b100), .val (.ref b115), .val (.ref b130), .val (.ref b145), .val (.ref b160), .val (.int 0), .unset, .unset]) rfl ?_
      refine XS.aload X473.here hx rfl (hb hby at_269) rfl rfl ?_
      refine XS.iconst X473.here hx rfl (hb hby at_271) ?_
      refine X473.iaload hx (j := (0 : Int32)) (v := (.int p0)) Ar479.1 (State.isArrayOf_alike hZ.alike Ar479.2.1) Ar479.2.2 hin479 hat479 (g := (mkF m 272 #[.val (.int p0), .val (.int p1), .val (.int p2), .val (.int p3), .val (.long q4), .second, .val (.int p5), .val (.int 1), .val (.double (FP.l2d ld1)), .second, .val (.double (FP.l2d ld2)), .second, .val (.double (FP.l2d ld3)), .second, .val (.double (FP.l2d ld4)), .second, .val (.ref b10), .val (.ref b25), .val (.ref b40), .val (.ref b55), .val (.ref b70), .val (.ref b85), .val (.ref b100), .val (.ref b115), .val (.ref b130), .val (.ref b145), .val (.ref b160), .val (.int 0), .unset, .unset] [(.int 0), (.ref b85)])) rfl rfl (hb hby at_272) _ ?_
      refine XS.iloadN X473.here hx rfl (hb hby at_273) rfl ?_
      refine XS.icmpNo X473.here hx rfl (hb hby at_274) rfl (teq (rfl : p0 = p0)).2 ?_
      refine XS.aload X473.here hx rfl (hb hby at_277) rfl rfl ?_
      refine XS.iconst X473.here hx rfl (hb hby at_279) ?_
      refine X473.iaload hx (j := (0 : Int32)) (v := (.int p2)) Ar481.1 (State.isArrayOf_alike hZ.alike Ar481.2.1) Ar481.2.2 hin481 hat481 (g := (mkF m 280 #[.val (.int p0), .val (.int p1), .val (.int p2), .val (.int p3), .val (.long q4), .second, .val (.int p5), .val (.int 1), .val (.double (FP.l2d ld1)), .second, .val (.double (FP.l2d ld2)), .second, .val (.double (FP.l2d ld3)), .second, .val (.double (FP.l2d ld4)), .second, .val (.ref b10), .val (.ref b25), .val (.ref b40), .val (.ref b55), .val (.ref b70), .val (.ref b85), .val (.ref b100), .val (.ref b115), .val (.ref b130), .val (.ref b145), .val (.ref b160), .val (.int 0), .unset, .unset] [(.int 0), (.ref b100)])) rfl rfl (hb hby at_280) _ ?_
      refine XS.iloadN X473.here hx rfl (hb hby at_281) rfl ?_
      refine XS.icmpNo X473.here hx rfl (hb hby at_282) rfl (teq (rfl : p2 = p2)).2 ?_
      refine XS.aload X473.here hx rfl (hb hby at_285) rfl rfl ?_
      refine XS.iconst X473.here hx rfl (hb hby at_287) ?_
      refine X473.daload hx (j := (0 : Int32)) (v := (.double (FP.l2d ld1))) Ar483.1 (State.isArrayOf_alike hZ.alike Ar483.2.1) Ar483.2.2 hin483 hat483 (g := (mkF m 288 #[.val (.int p0), .val (.int p1), .val (.int p2), .val (.int p3), .val (.long q4), .second, .val (.int p5), .val (.int 1), .val (.double (FP.l2d ld1)), .second, .val (.double (FP.l2d ld2)), .second, .val (.double (FP.l2d ld3)), .second, .val (.double (FP.l2d ld4)), .second, .val (.ref b10), .val (.ref b25), .val (.ref b40), .val (.ref b55), .val (.ref b70), .val (.ref b85), .val (.ref b100), .val (.ref b115), .val (.ref b130), .val (.ref b145), .val (.ref b160), .val (.int 0), .unset, .unset] [(.int 0), (.ref b115)])) rfl rfl (hb hby at_288) _ ?_
      refine XS.dload X473.here hx rfl (hb hby at_289) rfl ?_
      refine XS.dcmpS X473.here hx rfl (hb hby at_291) rfl (dcmpV_self (nn_w rfl) _) ?_
      refine XS.ifNo X473.here hx rfl (hb hby at_292) rfl ((if0 _ _).trans (teq (by decide : (0 : Int32) = (0 : Int32))).2) ?_
      refine XS.iload X473.here hx rfl (hb hby at_295) rfl ?_
      refine XS.ifYes X473.here hx rfl (pc0 := 297) (pc' := 329) rfl (hb hby at_297) rfl ((if0 _ _).trans (teq (by decide : (0 : Int32) = (0 : Int32))).1) (by decide) (by decide) ?_
      refine XS.aload X473.here hx rfl (hb hby at_329) rfl rfl ?_
      refine XS.iconst X473.here hx rfl (hb hby at_331) ?_
      refine X473.iaload hx (j := (1 : Int32)) (v := (.int 7)) Ar484.1 (State.isArrayOf_alike hZ.alike Ar484.2.1) Ar484.2.2 hin484 hat484 (g := (mkF m 332 #[.val (.int p0), .val (.int p1), .val (.int p2), .val (.int p3), .val (.long q4), .second, .val (.int p5), .val (.int 1), .val (.double (FP.l2d ld1)), .second, .val (.double (FP.l2d ld2)), .second, .val (.double (FP.l2d ld3)), .second, .val (.double (FP.l2d ld4)), .second, .val (.ref b10), .val (.ref b25), .val (.ref b40), .val (.ref b55), .val (.ref b70), .val (.ref b85), .val (.ref b100), .val (.ref b115), .val (.ref b130), .val (.ref b145), .val (.ref b160), .val (.int 0), .unset, .unset] [(.int 1), (.ref b85)])) rfl rfl (hb hby at_332) _ ?_
      refine XS.bipush X473.here hx rfl (hb hby at_333) ?_
      refine XS.icmpNo X473.here hx rfl (hb hby at_335) rfl (teq (by decide : (7 : Int32) = (7 : Int32))).2 ?_
      refine XS.aload X473.here hx rfl (hb hby at_338) rfl rfl ?_
      refine XS.iconst X473.here hx rfl (hb hby at_340) ?_
      refine X473.iaload hx (j := (1 : Int32)) (v := (.int 7)) Ar485.1 (State.isArrayOf_alike hZ.alike Ar485.2.1) Ar485.2.2 hin485 hat485 (g := (mkF m 341 #[.val (.int p0), .val (.int p1), .val (.int p2), .val (.int p3), .val (.long q4), .second, .val (.int p5), .val (.int 1), .val (.double (FP.l2d ld1)), .second, .val (.double (FP.l2d ld2)), .second, .val (.double (FP.l2d ld3)), .second, .val (.double (FP.l2d ld4)), .second, .val (.ref b10), .val (.ref b25), .val (.ref b40), .val (.ref b55), .val (.ref b70), .val (.ref b85), .val (.ref b100), .val (.ref b115), .val (.ref b130), .val (.ref b145), .val (.ref b160), .val (.int 0), .unset, .unset] [(.int 1), (.ref b100)])) rfl rfl (hb hby at_341) _ ?_
      refine XS.bipush X473.here hx rfl (hb hby at_342) ?_
      refine XS.icmpNo X473.here hx rfl (hb hby at_344) rfl (teq (by decide : (7 : Int32) = (7 : Int32))).2 ?_
      refine XS.aload X473.here hx rfl (hb hby at_347) rfl rfl ?_
      refine XS.iconst X473.here hx rfl (hb hby at_349) ?_
      refine X473.daload hx (j := (1 : Int32)) (v := (.double (4602678819172646912 : UInt64))) Ar486.1 (State.isArrayOf_alike hZ.alike Ar486.2.1) Ar486.2.2 hin486 hat486 (g := (mkF m 350 #[.val (.int p0), .val (.int p1), .val (.int p2), .val (.int p3), .val (.long q4), .second, .val (.int p5), .val (.int 1), .val (.double (FP.l2d ld1)), .second, .val (.double (FP.l2d ld2)), .second, .val (.double (FP.l2d ld3)), .second, .val (.double (FP.l2d ld4)), .second, .val (.ref b10), .val (.ref b25), .val (.ref b40), .val (.ref b55), .val (.ref b70), .val (.ref b85), .val (.ref b100), .val (.ref b115), .val (.ref b130), .val (.ref b145), .val (.ref b160), .val (.int 0), .unset, .unset] [(.int 1), (.ref b115)])) rfl rfl (hb hby at_350) _ ?_
      refine X473.ldc2DoubleC hx hown (mvT hZ (hw _ tw2)) (g := (mkF m 351 #[.val (.int p0), .val (.int p1), .val (.int p2), .val (.int p3), .val (.long q4), .second, .val (.int p5), .val (.int 1), .val (.double (FP.l2d ld1)), .second, .val (.double (FP.l2d ld2)), .second, .val (.double (FP.l2d ld3)), .second, .val (.double (FP.l2d ld4)), .second, .val (.ref b10), .val (.ref b25), .val (.ref b40), .val (.ref b55), .val (.ref b70), .val (.ref b85), .val (.ref b100), .val (.ref b115), .val (.ref b130), .val (.ref b145), .val (.ref b160), .val (.int 0), .unset, .unset] [(.double (4602678819172646912 : UInt64))])) rfl (hb hby at_351) _ ?_
      refine XS.dcmpS X473.here hx rfl (hb hby at_354) rfl (dcmpV_self (by decide +kernel) _) ?_
      refine XS.ifNo X473.here hx rfl (hb hby at_355) rfl ((if0 _ _).trans (teq (by decide : (0 : Int32) = (0 : Int32))).2) ?_
      refine XS.iconst X473.here hx rfl (hb hby at_358) ?_
      refine XS.goto X473.here hx rfl (pc0 := 359) (pc' := 363) rfl (hb hby at_359) (by decide) (by decide) ?_
      refine XS.istore X473.here hx rfl (hb hby at_363) rfl (l' := #[.val (.int p0), .val (.int p1), .val (.int p2), .val (.int p3), .val (.long q4), .second, .val (.int p5), .val (.int 1), .val (.double (FP.l2d ld1)), .second, .val (.double (FP.l2d ld2)), .second, .val (.double (FP.l2d ld3)), .second, .val (.double (FP.l2d ld4)), .second, .val (.ref b10), .val (.ref b25), .val (.ref b40), .val (.ref b55), .val (.ref b70), .val (.ref b85), .val (.ref b100), .val (.ref b115), .val (.ref b130), .val (.ref b145), .val (.ref b160), .val (.int 0), .val (.int 1), .unset]) rfl ?_
      refine XS.aload X473.here hx rfl (hb hby at_365) rfl rfl ?_
      refine XS.iconst X473.here hx rfl (hb hby at_367) ?_
      refine X473.iaload hx (j := (0 : Int32)) (v := (.int p3)) Ar487.1 (State.isArrayOf_alike hZ.alike Ar487.2.1) Ar487.2.2 hin487 hat487 (g := (mkF m 368 #[.val (.int p0), .val (.int p1), .val (.int p2), .val (.int p3), .val (.long q4), .second, .val (.int p5), .val (.int 1), .val (.double (FP.l2d ld1)), .second, .val (.double (FP.l2d ld2)), .second, .val (.double (FP.l2d ld3)), .second, .val (.double (FP.l2d ld4)), .second, .val (.ref b10), .val (.ref b25), .val (.ref b40), .val (.ref b55), .val (.ref b70), .val (.ref b85), .val (.ref b100), .val (.ref b115), .val (.ref b130), .val (.ref b145), .val (.ref b160), .val (.int 0), .val (.int 1), .unset] [(.int 0), (.ref b130)])) rfl rfl (hb hby at_368) _ ?_
      refine XS.iloadN X473.here hx rfl (hb hby at_369) rfl ?_
      refine XS.icmpNo X473.here hx rfl (hb hby at_370) rfl (teq (rfl : p3 = p3)).2 ?_
      refine XS.aload X473.here hx rfl (hb hby at_373) rfl rfl ?_
      refine XS.iconst X473.here hx rfl (hb hby at_375) ?_
      refine X473.daload hx (j := (0 : Int32)) (v := (.double (FP.l2d ld3))) Ar488.1 (State.isArrayOf_alike hZ.alike Ar488.2.1) Ar488.2.2 hin488 hat488 (g := (mkF m 376 #[.val (.int p0), .val (.int p1), .val (.int p2), .val (.int p3), .val (.long q4), .second, .val (.int p5), .val (.int 1), .val (.double (FP.l2d ld1)), .second, .val (.double (FP.l2d ld2)), .second, .val (.double (FP.l2d ld3)), .second, .val (.double (FP.l2d ld4)), .second, .val (.ref b10), .val (.ref b25), .val (.ref b40), .val (.ref b55), .val (.ref b70), .val (.ref b85), .val (.ref b100), .val (.ref b115), .val (.ref b130), .val (.ref b145), .val (.ref b160), .val (.int 0), .val (.int 1), .unset] [(.int 0), (.ref b145)])) rfl rfl (hb hby at_376) _ ?_
      refine XS.dload X473.here hx rfl (hb hby at_377) rfl ?_
      refine XS.dcmpS X473.here hx rfl (hb hby at_379) rfl (dcmpV_self (nn_w rfl) _) ?_
      refine XS.ifNo X473.here hx rfl (hb hby at_380) rfl ((if0 _ _).trans (teq (by decide : (0 : Int32) = (0 : Int32))).2) ?_
      refine XS.iload X473.here hx rfl (hb hby at_383) rfl ?_
      refine XS.ifYes X473.here hx rfl (pc0 := 385) (pc' := 409) rfl (hb hby at_385) rfl ((if0 _ _).trans (teq (by decide : (0 : Int32) = (0 : Int32))).1) (by decide) (by decide) ?_
      refine XS.aload X473.here hx rfl (hb hby at_409) rfl rfl ?_
      refine XS.iconst X473.here hx rfl (hb hby at_411) ?_
      refine X473.iaload hx (j := (1 : Int32)) (v := (.int 7)) Ar489.1 (State.isArrayOf_alike hZ.alike Ar489.2.1) Ar489.2.2 hin489 hat489 (g := (mkF m 412 #[.val (.int p0), .val (.int p1), .val (.int p2), .val (.int p3), .val (.long q4), .second, .val (.int p5), .val (.int 1), .val (.double (FP.l2d ld1)), .second, .val (.double (FP.l2d ld2)), .second, .val (.double (FP.l2d ld3)), .second, .val (.double (FP.l2d ld4)), .second, .val (.ref b10), .val (.ref b25), .val (.ref b40), .val (.ref b55), .val (.ref b70), .val (.ref b85), .val (.ref b100), .val (.ref b115), .val (.ref b130), .val (.ref b145), .val (.ref b160), .val (.int 0), .val (.int 1), .unset] [(.int 1), (.ref b130)])) rfl rfl (hb hby at_412) _ ?_
      refine XS.bipush X473.here hx rfl (hb hby at_413) ?_
      refine XS.icmpNo X473.here hx rfl (hb hby at_415) rfl (teq (by decide : (7 : Int32) = (7 : Int32))).2 ?_
      refine XS.aload X473.here hx rfl (hb hby at_418) rfl rfl ?_
      refine XS.iconst X473.here hx rfl (hb hby at_420) ?_
      refine X473.daload hx (j := (1 : Int32)) (v := (.double (4602678819172646912 : UInt64))) Ar490.1 (State.isArrayOf_alike hZ.alike Ar490.2.1) Ar490.2.2 hin490 hat490 (g := (mkF m 421 #[.val (.int p0), .val (.int p1), .val (.int p2), .val (.int p3), .val (.long q4), .second, .val (.int p5), .val (.int 1), .val (.double (FP.l2d ld1)), .second, .val (.double (FP.l2d ld2)), .second, .val (.double (FP.l2d ld3)), .second, .val (.double (FP.l2d ld4)), .second, .val (.ref b10), .val (.ref b25), .val (.ref b40), .val (.ref b55), .val (.ref b70), .val (.ref b85), .val (.ref b100), .val (.ref b115), .val (.ref b130), .val (.ref b145), .val (.ref b160), .val (.int 0), .val (.int 1), .unset] [(.int 1), (.ref b145)])) rfl rfl (hb hby at_421) _ ?_
      refine X473.ldc2DoubleC hx hown (mvT hZ (hw _ tw2)) (g := (mkF m 422 #[.val (.int p0), .val (.int p1), .val (.int p2), .val (.int p3), .val (.long q4), .second, .val (.int p5), .val (.int 1), .val (.double (FP.l2d ld1)), .second, .val (.double (FP.l2d ld2)), .second, .val (.double (FP.l2d ld3)), .second, .val (.double (FP.l2d ld4)), .second, .val (.ref b10), .val (.ref b25), .val (.ref b40), .val (.ref b55), .val (.ref b70), .val (.ref b85), .val (.ref b100), .val (.ref b115), .val (.ref b130), .val (.ref b145), .val (.ref b160), .val (.int 0), .val (.int 1), .unset] [(.double (4602678819172646912 : UInt64))])) rfl (hb hby at_422) _ ?_
      refine XS.dcmpS X473.here hx rfl (hb hby at_425) rfl (dcmpV_self (by decide +kernel) _) ?_
      refine XS.ifNo X473.here hx rfl (hb hby at_426) rfl ((if0 _ _).trans (teq (by decide : (0 : Int32) = (0 : Int32))).2) ?_
      refine XS.iconst X473.here hx rfl (hb hby at_429) ?_
      refine XS.goto X473.here hx rfl (pc0 := 430) (pc' := 434) rfl (hb hby at_430) (by decide) (by decide) ?_
      refine XS.istore X473.here hx rfl (hb hby at_434) rfl (l' := #[.val (.int p0), .val (.int p1), .val (.int p2), .val (.int p3), .val (.long q4), .second, .val (.int p5), .val (.int 1), .val (.double (FP.l2d ld1)), .second, .val (.double (FP.l2d ld2)), .second, .val (.double (FP.l2d ld3)), .second, .val (.double (FP.l2d ld4)), .second, .val (.ref b10), .val (.ref b25), .val (.ref b40), .val (.ref b55), .val (.ref b70), .val (.ref b85), .val (.ref b100), .val (.ref b115), .val (.ref b130), .val (.ref b145), .val (.ref b160), .val (.int 0), .val (.int 1), .val (.int 1)]) rfl ?_
      refine XS.iload X473.here hx rfl (hb hby at_436) rfl ?_
      refine XS.ifNo X473.here hx rfl (hb hby at_438) rfl ((if0 _ _).trans (feq (by decide : ¬ ((1 : Int32) = (0 : Int32)))).1) ?_
      refine XS.iload X473.here hx rfl (hb hby at_441) rfl ?_
      refine XS.ifNo X473.here hx rfl (hb hby at_443) rfl ((if0 _ _).trans (feq (by decide : ¬ ((1 : Int32) = (0 : Int32)))).1) ?_
      refine XS.iconst X473.here hx rfl (hb hby at_446) ?_
      refine XS.goto X473.here hx rfl (pc0 := 447) (pc' := 451) rfl (hb hby at_447) (by decide) (by decide) ?_
      exact kt
    refine Go.ret X473 (v := some (.int 1)) (fun h => by rw [hret] at h; cases h) hlk (fun fs hr => retN X473 hx (t := .boolean) hret (by simp) (hb hby at_451) hr) ?_ (by decide) (by decide)
    show Q0 Z p0 p1 p2 p3 q4 p5 h0 n0 _ T473.heap _
    exact ⟨rfl, N473, K476⟩
  · have hk_ := hk
    rw [hk]
    show Go _ _ _ _ _ _ _ (T156.setTop (mkF m 193 _ []))
    obtain ⟨T491, h491, X491, e491, E491, A491, D491, -, st491⟩ := newO X156 hx hZ hown (hw _ tw3) (hw _ tw4) (hw _ tw5) e156 (g := (mkF m 193 #[.val (.int p0), .val (.int p1), .val (.int p2), .val (.int p3), .val (.long q4), .second, .val (.int p5), .val (.int 2), .val (.double (FP.l2d ld1)), .second, .val (.double (FP.l2d ld2)), .second, .val (.double (FP.l2d ld3)), .second, .val (.double (FP.l2d ld4)), .second, .val (.ref b10), .val (.ref b25), .val (.ref b40), .val (.ref b55), .val (.ref b70), .val (.ref b85), .val (.ref b100), .val (.ref b115), .val (.ref b130), .val (.ref b145), .unset, .unset, .unset, .unset] [])) rfl (hb hby at_193) (by decide) (by decide)
    obtain ⟨b491, g491⟩ : ∃ z, z = h156.size := ⟨_, rfl⟩
    rw [← g491] at A491 D491 st491
    have lb492 : h156.size ≤ b491 := Nat.le_of_eq g491.symm
    have sz493 : h0.size ≤ b491 := Nat.le_trans K158.1 lb492
    have g494 : n0 ≤ b491 := Nat.le_trans Z0 sz493
    have K495 := K158.ext E491
    have O496 := O159.ext E491
    have F497 : Fld Z h491 b491 sq0 "starts" "[I" .null := D491 (Or.inl (hw _ tw13)) (ty := (.array .int)) (by decide)
    have F498 : Fld Z h491 b491 sq0 "nexts" "[I" .null := D491 (Or.inl (hw _ tw15)) (ty := (.array .int)) (by decide)
    have F499 : Fld Z h491 b491 sq0 "ends" "[I" .null := D491 (Or.inl (hw _ tw17)) (ty := (.array .int)) (by decide)
    have F500 : Fld Z h491 b491 sq0 "bounds" "[D" .null := D491 (Or.inl (hw _ tw19)) (ty := (.array .double)) (by decide)
    have F501 : Fld Z h491 b491 sq0 "windows" "[Z" .null := D491 (Or.inl (hw _ tw22)) (ty := (.array .boolean)) (by decide)
    have F502 : Fld Z h491 b491 sq0 "heap" "[I" .null := D491 (Or.inl (hw _ tw24)) (ty := (.array .int)) (by decide)
    have F503 : Fld Z h491 b491 sq0 "heapBounds" "[D" .null := D491 (Or.inl (hw _ tw26)) (ty := (.array .double)) (by decide)
    have F504 : Fld Z h491 b491 sq0 "heapStarts" "[I" .null := D491 (Or.inl (hw _ tw28)) (ty := (.array .int)) (by decide)
    have F505 : Fld Z h491 b491 sq0 "count" "I" (.int 0) := D491 (Or.inr (hw _ tw30)) (ty := .int) (by decide)
    have F506 : Fld Z h491 b491 sq0 "entries" "[I" .null := D491 (Or.inl (hw _ tw32)) (ty := (.array .int)) (by decide)
    have F507 : Fld Z h491 b491 sq0 "blocks" "[I" .null := D491 (Or.inl (hw _ tw34)) (ty := (.array .int)) (by decide)
    have F508 : Fld Z h491 b491 sq0 "parts" "[D" .null := D491 (Or.inl (hw _ tw36)) (ty := (.array .double)) (by decide)
    have F509 : Fld Z h491 b491 sq0 "added" "I" (.int 0) := D491 (Or.inl (hw _ tw43)) (ty := .int) (by decide)
    have F510 : Fld Z h491 b491 sq0 "size" "I" (.int 0) := D491 (Or.inl (hw _ tw49)) (ty := .int) (by decide)
    refine Go.st st491 ?_
    refine Go.st (t' := T491.setTop (mkF m 199 #[.val (.int p0), .val (.int p1), .val (.int p2), .val (.int p3), .val (.long q4), .second, .val (.int p5), .val (.int 2), .val (.double (FP.l2d ld1)), .second, .val (.double (FP.l2d ld2)), .second, .val (.double (FP.l2d ld3)), .second, .val (.double (FP.l2d ld4)), .second, .val (.ref b10), .val (.ref b25), .val (.ref b40), .val (.ref b55), .val (.ref b70), .val (.ref b85), .val (.ref b100), .val (.ref b115), .val (.ref b130), .val (.ref b145), .unset, .unset, .unset, .unset] [(.int 2), (.ref b491), (.ref b491)])) (fun target kt => ?_) ?_
    · refine XS.dup X491.here hx rfl (hb hby at_196) rfl rfl ?_
      refine XS.iload X491.here hx rfl (hb hby at_197) rfl ?_
      exact kt
    refine Go.cps (own_ci (W := 1) (b := b491) (argsL := [(.int 2)]) (rest := [(.ref b491)]) X491 hx hZ hown rfl (hw _ tw6) (hw _ tw7) (hw _ tw8) (hw _ tw5) (by decide) e491 (rm1_2 l Z a0 hw [] b491 h491 n0 (Nat.le_trans Z0 K495.1) O496  A491 g494 F497 F498 F499 F500 F501 F502 F503 F504 F506 F507 F508 F505 F509 F510) rfl (by rw [hml]; rfl) (lenOf pd2 rfl) rfl (Nat.le_of_eq rfl) (hb hby at_199) rfl (by decide) (by decide) (by decide) (by decide)) ?_
    rintro T511 _ L511 X511 ⟨b512, b513, b514, b515, b516, b517, b518, b519, b520, b521, b522, k523, k524, k525, k526, k527, k528, k529, k530, k531, k532, k533, rfl, Nq511, Kq511, q534, q535, q536, q537, q538, q539, q540, q541, q542, q543, q544, q545, q546, q547, q548, q549, q550, q551, q552, q553, q554, q555, q556, q557, q558, q559, q560, q561, q562, q563, q564, q565, q566, q567, q568, q569, q570, q571, q572, q573, q574, q575, q576, q577, q578, q579, q580⟩
    have N511 := Fr.app N156 Nq511
    have sz581 : h0.size ≤ b512 := Nat.le_trans K495.1 q534
    have g582 : n0 ≤ b512 := Nat.le_trans Z0 sz581
    have sz583 : h0.size ≤ b513 := Nat.le_trans K495.1 q535
    have g584 : n0 ≤ b513 := Nat.le_trans Z0 sz583
    have sz585 : h0.size ≤ b514 := Nat.le_trans K495.1 q536
    have g586 : n0 ≤ b514 := Nat.le_trans Z0 sz585
    have sz587 : h0.size ≤ b515 := Nat.le_trans K495.1 q537
    have g588 : n0 ≤ b515 := Nat.le_trans Z0 sz587
    have sz589 : h0.size ≤ b516 := Nat.le_trans K495.1 q538
    have g590 : n0 ≤ b516 := Nat.le_trans Z0 sz589
    have sz591 : h0.size ≤ b517 := Nat.le_trans K495.1 q539
    have g592 : n0 ≤ b517 := Nat.le_trans Z0 sz591
    have sz593 : h0.size ≤ b518 := Nat.le_trans K495.1 q540
    have g594 : n0 ≤ b518 := Nat.le_trans Z0 sz593
    have sz595 : h0.size ≤ b519 := Nat.le_trans K495.1 q541
    have g596 : n0 ≤ b519 := Nat.le_trans Z0 sz595
    have sz597 : h0.size ≤ b520 := Nat.le_trans K495.1 q542
    have g598 : n0 ≤ b520 := Nat.le_trans Z0 sz597
    have sz599 : h0.size ≤ b521 := Nat.le_trans K495.1 q543
    have g600 : n0 ≤ b521 := Nat.le_trans Z0 sz599
    have sz601 : h0.size ≤ b522 := Nat.le_trans K495.1 q544
    have g602 : n0 ≤ b522 := Nat.le_trans Z0 sz601
    have K603 := K495.trans Kq511 (allS (Or.inr sz493) all0)
    have O604 := O496.keep Kq511 (allS g494 all0)
    refine Go.st (t' := T511.setTop (mkF m 216 #[.val (.int p0), .val (.int p1), .val (.int p2), .val (.int p3), .val (.long q4), .second, .val (.int p5), .val (.int 2), .val (.double (FP.l2d ld1)), .second, .val (.double (FP.l2d ld2)), .second, .val (.double (FP.l2d ld3)), .second, .val (.double (FP.l2d ld4)), .second, .val (.ref b10), .val (.ref b25), .val (.ref b40), .val (.ref b55), .val (.ref b70), .val (.ref b85), .val (.ref b100), .val (.ref b115), .val (.ref b130), .val (.ref b145), .val (.ref b491), .unset, .unset, .unset] [(.ref b40), (.ref b25), (.ref b10), (.double (FP.l2d (1 : Int64))), (.int 0), (.int 0), (.int 0), (.ref b491)])) (fun target kt => ?_) ?_
    · refine XS.astore X511.here hx rfl (hb hby at_202) rfl rfl (l' := #[.val (.int p0), .val (.int p1), .val (.int p2), .val (.int p3), .val (.long q4), .second, .val (.int p5), .val (.int 2), .val (.double (FP.l2d ld1)), .second, .val (.double (FP.l2d ld2)), .second, .val (.double (FP.l2d ld3)), .second, .val (.double (FP.l2d ld4)), .second, .val (.ref b10), .val (.ref b25), .val (.ref b40), .val (.ref b55), .val (.ref b70), .val (.ref b85), .val (.ref b100), .val (.ref b115), .val (.ref b130), .val (.ref b145), .val (.ref b491), .unset, .unset, .unset]) rfl ?_
      refine XS.aload X511.here hx rfl (hb hby at_204) rfl rfl ?_
      refine XS.iconst X511.here hx rfl (hb hby at_206) ?_
      refine XS.iconst X511.here hx rfl (hb hby at_207) ?_
      refine XS.iconst X511.here hx rfl (hb hby at_208) ?_
      refine XS.dconst1 X511.here hx rfl (v := (FP.l2d (1 : Int64))) (hb hby at_209) (by decide +kernel) ?_
      refine XS.aload X511.here hx rfl (hb hby at_210) rfl rfl ?_
      refine XS.aload X511.here hx rfl (hb hby at_212) rfl rfl ?_
      refine XS.aload X511.here hx rfl (hb hby at_214) rfl rfl ?_
      exact kt
    have S_605 := ((((Keep.refl h21 []).ext E25).wr W32 (Or.inr lb26)).wr W36 (Or.inr lb26)).ext E40
    have S_606 := ((S_605.wr W47 (Or.inr (Nat.le_trans (Nat.le_trans (Nat.le_trans E25.1 (Keep.of_wr W32).1) (Keep.of_wr W36).1) lb41))).wr W51 (Or.inr (Nat.le_trans (Nat.le_trans (Nat.le_trans E25.1 (Keep.of_wr W32).1) (Keep.of_wr W36).1) lb41))).ext E55
    have S_607 := ((S_606.wr W62 (Or.inr (Nat.le_trans (Nat.le_trans S_605.1 (Nat.le_trans (Keep.of_wr W47).1 (Keep.of_wr W51).1)) lb56))).wr W66 (Or.inr (Nat.le_trans (Nat.le_trans S_605.1 (Nat.le_trans (Keep.of_wr W47).1 (Keep.of_wr W51).1)) lb56))).ext E70
    have S_608 := ((S_607.wr W77 (Or.inr (Nat.le_trans (Nat.le_trans S_606.1 (Nat.le_trans (Keep.of_wr W62).1 (Keep.of_wr W66).1)) lb71))).wr W81 (Or.inr (Nat.le_trans (Nat.le_trans S_606.1 (Nat.le_trans (Keep.of_wr W62).1 (Keep.of_wr W66).1)) lb71))).ext E85
    have S_609 := ((S_608.wr W92 (Or.inr (Nat.le_trans (Nat.le_trans S_607.1 (Nat.le_trans (Keep.of_wr W77).1 (Keep.of_wr W81).1)) lb86))).wr W96 (Or.inr (Nat.le_trans (Nat.le_trans S_607.1 (Nat.le_trans (Keep.of_wr W77).1 (Keep.of_wr W81).1)) lb86))).ext E100
    have S_610 := ((S_609.wr W107 (Or.inr (Nat.le_trans (Nat.le_trans S_608.1 (Nat.le_trans (Keep.of_wr W92).1 (Keep.of_wr W96).1)) lb101))).wr W111 (Or.inr (Nat.le_trans (Nat.le_trans S_608.1 (Nat.le_trans (Keep.of_wr W92).1 (Keep.of_wr W96).1)) lb101))).ext E115
    have S_611 := ((S_610.wr W122 (Or.inr (Nat.le_trans (Nat.le_trans S_609.1 (Nat.le_trans (Keep.of_wr W107).1 (Keep.of_wr W111).1)) lb116))).wr W126 (Or.inr (Nat.le_trans (Nat.le_trans S_609.1 (Nat.le_trans (Keep.of_wr W107).1 (Keep.of_wr W111).1)) lb116))).ext E130
    have S_612 := ((S_611.wr W137 (Or.inr (Nat.le_trans (Nat.le_trans S_610.1 (Nat.le_trans (Keep.of_wr W122).1 (Keep.of_wr W126).1)) lb131))).wr W141 (Or.inr (Nat.le_trans (Nat.le_trans S_610.1 (Nat.le_trans (Keep.of_wr W122).1 (Keep.of_wr W126).1)) lb131))).ext E145
    have S_613 := ((S_612.wr W152 (Or.inr (Nat.le_trans (Nat.le_trans S_611.1 (Nat.le_trans (Keep.of_wr W137).1 (Keep.of_wr W141).1)) lb146))).wr W156 (Or.inr (Nat.le_trans (Nat.le_trans S_611.1 (Nat.le_trans (Keep.of_wr W137).1 (Keep.of_wr W141).1)) lb146))).ext E491
    have S_614 : Keep h21 T511.heap [] := (S_613.trans Kq511 (allS (Or.inr (Nat.le_trans (Nat.le_trans S_612.1 (Nat.le_trans (Keep.of_wr W152).1 (Keep.of_wr W156).1)) lb492)) all0))
    have c615 := V22.keep S_614 nin0
    have S_616 := ((((Keep.refl h36 []).ext E40).wr W47 (Or.inr lb41)).wr W51 (Or.inr lb41)).ext E55
    have S_617 := ((S_616.wr W62 (Or.inr (Nat.le_trans (Nat.le_trans (Nat.le_trans E40.1 (Keep.of_wr W47).1) (Keep.of_wr W51).1) lb56))).wr W66 (Or.inr (Nat.le_trans (Nat.le_trans (Nat.le_trans E40.1 (Keep.of_wr W47).1) (Keep.of_wr W51).1) lb56))).ext E70
    have S_618 := ((S_617.wr W77 (Or.inr (Nat.le_trans (Nat.le_trans S_616.1 (Nat.le_trans (Keep.of_wr W62).1 (Keep.of_wr W66).1)) lb71))).wr W81 (Or.inr (Nat.le_trans (Nat.le_trans S_616.1 (Nat.le_trans (Keep.of_wr W62).1 (Keep.of_wr W66).1)) lb71))).ext E85
    have S_619 := ((S_618.wr W92 (Or.inr (Nat.le_trans (Nat.le_trans S_617.1 (Nat.le_trans (Keep.of_wr W77).1 (Keep.of_wr W81).1)) lb86))).wr W96 (Or.inr (Nat.le_trans (Nat.le_trans S_617.1 (Nat.le_trans (Keep.of_wr W77).1 (Keep.of_wr W81).1)) lb86))).ext E100
    have S_620 := ((S_619.wr W107 (Or.inr (Nat.le_trans (Nat.le_trans S_618.1 (Nat.le_trans (Keep.of_wr W92).1 (Keep.of_wr W96).1)) lb101))).wr W111 (Or.inr (Nat.le_trans (Nat.le_trans S_618.1 (Nat.le_trans (Keep.of_wr W92).1 (Keep.of_wr W96).1)) lb101))).ext E115
    have S_621 := ((S_620.wr W122 (Or.inr (Nat.le_trans (Nat.le_trans S_619.1 (Nat.le_trans (Keep.of_wr W107).1 (Keep.of_wr W111).1)) lb116))).wr W126 (Or.inr (Nat.le_trans (Nat.le_trans S_619.1 (Nat.le_trans (Keep.of_wr W107).1 (Keep.of_wr W111).1)) lb116))).ext E130
    have S_622 := ((S_621.wr W137 (Or.inr (Nat.le_trans (Nat.le_trans S_620.1 (Nat.le_trans (Keep.of_wr W122).1 (Keep.of_wr W126).1)) lb131))).wr W141 (Or.inr (Nat.le_trans (Nat.le_trans S_620.1 (Nat.le_trans (Keep.of_wr W122).1 (Keep.of_wr W126).1)) lb131))).ext E145
    have S_623 := ((S_622.wr W152 (Or.inr (Nat.le_trans (Nat.le_trans S_621.1 (Nat.le_trans (Keep.of_wr W137).1 (Keep.of_wr W141).1)) lb146))).wr W156 (Or.inr (Nat.le_trans (Nat.le_trans S_621.1 (Nat.le_trans (Keep.of_wr W137).1 (Keep.of_wr W141).1)) lb146))).ext E491
    have S_624 : Keep h36 T511.heap [] := (S_623.trans Kq511 (allS (Or.inr (Nat.le_trans (Nat.le_trans S_622.1 (Nat.le_trans (Keep.of_wr W152).1 (Keep.of_wr W156).1)) lb492)) all0))
    have c625 := V37.keep S_624 nin0
    have S_626 := ((((Keep.refl h51 []).ext E55).wr W62 (Or.inr lb56)).wr W66 (Or.inr lb56)).ext E70
    have S_627 := ((S_626.wr W77 (Or.inr (Nat.le_trans (Nat.le_trans (Nat.le_trans E55.1 (Keep.of_wr W62).1) (Keep.of_wr W66).1) lb71))).wr W81 (Or.inr (Nat.le_trans (Nat.le_trans (Nat.le_trans E55.1 (Keep.of_wr W62).1) (Keep.of_wr W66).1) lb71))).ext E85
    have S_628 := ((S_627.wr W92 (Or.inr (Nat.le_trans (Nat.le_trans S_626.1 (Nat.le_trans (Keep.of_wr W77).1 (Keep.of_wr W81).1)) lb86))).wr W96 (Or.inr (Nat.le_trans (Nat.le_trans S_626.1 (Nat.le_trans (Keep.of_wr W77).1 (Keep.of_wr W81).1)) lb86))).ext E100
    have S_629 := ((S_628.wr W107 (Or.inr (Nat.le_trans (Nat.le_trans S_627.1 (Nat.le_trans (Keep.of_wr W92).1 (Keep.of_wr W96).1)) lb101))).wr W111 (Or.inr (Nat.le_trans (Nat.le_trans S_627.1 (Nat.le_trans (Keep.of_wr W92).1 (Keep.of_wr W96).1)) lb101))).ext E115
    have S_630 := ((S_629.wr W122 (Or.inr (Nat.le_trans (Nat.le_trans S_628.1 (Nat.le_trans (Keep.of_wr W107).1 (Keep.of_wr W111).1)) lb116))).wr W126 (Or.inr (Nat.le_trans (Nat.le_trans S_628.1 (Nat.le_trans (Keep.of_wr W107).1 (Keep.of_wr W111).1)) lb116))).ext E130
    have S_631 := ((S_630.wr W137 (Or.inr (Nat.le_trans (Nat.le_trans S_629.1 (Nat.le_trans (Keep.of_wr W122).1 (Keep.of_wr W126).1)) lb131))).wr W141 (Or.inr (Nat.le_trans (Nat.le_trans S_629.1 (Nat.le_trans (Keep.of_wr W122).1 (Keep.of_wr W126).1)) lb131))).ext E145
    have S_632 := ((S_631.wr W152 (Or.inr (Nat.le_trans (Nat.le_trans S_630.1 (Nat.le_trans (Keep.of_wr W137).1 (Keep.of_wr W141).1)) lb146))).wr W156 (Or.inr (Nat.le_trans (Nat.le_trans S_630.1 (Nat.le_trans (Keep.of_wr W137).1 (Keep.of_wr W141).1)) lb146))).ext E491
    have S_633 : Keep h51 T511.heap [] := (S_632.trans Kq511 (allS (Or.inr (Nat.le_trans (Nat.le_trans S_631.1 (Nat.le_trans (Keep.of_wr W152).1 (Keep.of_wr W156).1)) lb492)) all0))
    have c634 := V52.keep S_633 nin0
    have o635 : b10 < b25 := Nat.lt_of_lt_of_le V16.lt (Nat.le_trans (Nat.le_trans (Keep.of_wr W17).1 (Keep.of_wr W21).1) lb26)
    have o636 : b25 < b40 := Nat.lt_of_lt_of_le V31.lt (Nat.le_trans (Nat.le_trans (Keep.of_wr W32).1 (Keep.of_wr W36).1) lb41)
    have o637 : b40 < b55 := Nat.lt_of_lt_of_le V46.lt (Nat.le_trans (Nat.le_trans (Keep.of_wr W47).1 (Keep.of_wr W51).1) lb56)
    have o638 : b55 < b70 := Nat.lt_of_lt_of_le V61.lt (Nat.le_trans (Nat.le_trans (Keep.of_wr W62).1 (Keep.of_wr W66).1) lb71)
    have o639 : b40 < b70 := Nat.lt_trans o637 o638
    have o640 : b70 < b85 := Nat.lt_of_lt_of_le V76.lt (Nat.le_trans (Nat.le_trans (Keep.of_wr W77).1 (Keep.of_wr W81).1) lb86)
    have o641 : b40 < b85 := Nat.lt_trans o639 o640
    have o642 : b85 < b100 := Nat.lt_of_lt_of_le V91.lt (Nat.le_trans (Nat.le_trans (Keep.of_wr W92).1 (Keep.of_wr W96).1) lb101)
    have o643 : b40 < b100 := Nat.lt_trans o641 o642
    have o644 : b100 < b115 := Nat.lt_of_lt_of_le V106.lt (Nat.le_trans (Nat.le_trans (Keep.of_wr W107).1 (Keep.of_wr W111).1) lb116)
    have o645 : b40 < b115 := Nat.lt_trans o643 o644
    have o646 : b115 < b130 := Nat.lt_of_lt_of_le V121.lt (Nat.le_trans (Nat.le_trans (Keep.of_wr W122).1 (Keep.of_wr W126).1) lb131)
    have o647 : b40 < b130 := Nat.lt_trans o645 o646
    have o648 : b130 < b145 := Nat.lt_of_lt_of_le V136.lt (Nat.le_trans (Nat.le_trans (Keep.of_wr W137).1 (Keep.of_wr W141).1) lb146)
    have o649 : b40 < b145 := Nat.lt_trans o647 o648
    have o650 : b145 < b491 := Nat.lt_of_lt_of_le V151.lt (Nat.le_trans (Nat.le_trans (Keep.of_wr W152).1 (Keep.of_wr W156).1) lb492)
    have o651 : b40 < b491 := Nat.lt_trans o649 o650
    have o652 : b491 < b512 := Nat.lt_of_lt_of_le A491.lt q534
    refine Go.cps (own_cv (W := 0) (b := b491) (argsL := [(.int 0), (.int 0), (.int 0), (.double (FP.l2d (1 : Int64))), (.ref b10), (.ref b25), (.ref b40)]) (rest := []) X511 hx hZ hown (hw _ tw37) (hw _ tw38) (notFace_of_selects (args := #[]) (mvT hZ (hw _ tw40))) (hw _ tw40) (hw _ tw39) (hw _ tw41) (hw _ tw5) (by decide) rfl q555 (rm3_2_0 l Z a0 hw [] b491 b10 b25 b40 b512 b513 b514 b515 b516 b517 b518 b519 b520 b521 b522 k523 k524 k525 k526 k527 k528 k529 k530 k531 k532 k533 p0 p1 p2 p3 (FP.l2d ld1) (FP.l2d ld2) k10 k40 k25 T511.heap n0 (Nat.le_trans Z0 K603.1) O604  q555 q556 q557 q558 q559 q560 q561 q562 q563 q564 q565 q566 q567 q568 q569 q570 q571 q572 q573 q574 q575 q576 q577 q578 q579 q580 c615 c625 c634 g494 g582 g584 g586 g588 g590 g592 g594 g596 g598 g600 g602 o635 o636 o651 o652 q545 q546 q547 q548 q549 q550 q551 q552 q553 q554) rfl (by rw [hml]; rfl) (lenOf pd3 rfl) rfl (Nat.le_of_eq rfl) (hb hby at_216) rfl (by decide) (by decide) (by decide) (by decide)) ?_
    rintro T653 _ L653 X653 ⟨rfl, Nq653, Kq653, q654, q655, q656, q657, q658, q659, q660, q661, q662, q663, q664, q665, q666, q667, q668, q669, q670, q671, q672, q673, q674, q675, q676, q677, q678, q679⟩
    have N653 := Fr.app N511 Nq653
    have K680 := K603.trans Kq653 (allS (Or.inr sz493) (allS (Or.inr sz581) (allS (Or.inr sz583) (allS (Or.inr sz585) (allS (Or.inr sz587) (allS (Or.inr sz589) (allS (Or.inr sz591) (allS (Or.inr sz593) (allS (Or.inr sz595) (allS (Or.inr sz597) (allS (Or.inr sz599) (allS (Or.inr sz601) all0))))))))))))
    have O681 := O604.keep Kq653 (allS g494 (allS g582 (allS g584 (allS g586 (allS g588 (allS g590 (allS g592 (allS g594 (allS g596 (allS g598 (allS g600 (allS g602 all0))))))))))))
    refine Go.st (t' := T653.setTop (mkF m 230 #[.val (.int p0), .val (.int p1), .val (.int p2), .val (.int p3), .val (.long q4), .second, .val (.int p5), .val (.int 2), .val (.double (FP.l2d ld1)), .second, .val (.double (FP.l2d ld2)), .second, .val (.double (FP.l2d ld3)), .second, .val (.double (FP.l2d ld4)), .second, .val (.ref b10), .val (.ref b25), .val (.ref b40), .val (.ref b55), .val (.ref b70), .val (.ref b85), .val (.ref b100), .val (.ref b115), .val (.ref b130), .val (.ref b145), .val (.ref b491), .unset, .unset, .unset] [(.ref b70), .null, (.ref b55), (.double (FP.l2d (1 : Int64))), (.int 0), (.int 0), (.int 0), (.ref b491)])) (fun target kt => ?_) ?_
    · refine XS.aload X653.here hx rfl (hb hby at_219) rfl rfl ?_
      refine XS.iconst X653.here hx rfl (hb hby at_221) ?_
      refine XS.iconst X653.here hx rfl (hb hby at_222) ?_
      refine XS.iconst X653.here hx rfl (hb hby at_223) ?_
      refine XS.dconst1 X653.here hx rfl (v := (FP.l2d (1 : Int64))) (hb hby at_224) (by decide +kernel) ?_
      refine XS.aload X653.here hx rfl (hb hby at_225) rfl rfl ?_
      refine XS.aconstNull X653.here hx rfl (hb hby at_227) ?_
      refine XS.aload X653.here hx rfl (hb hby at_228) rfl rfl ?_
      exact kt
    have S_682 := ((((Keep.refl h66 []).ext E70).wr W77 (Or.inr lb71)).wr W81 (Or.inr lb71)).ext E85
    have S_683 := ((S_682.wr W92 (Or.inr (Nat.le_trans (Nat.le_trans (Nat.le_trans E70.1 (Keep.of_wr W77).1) (Keep.of_wr W81).1) lb86))).wr W96 (Or.inr (Nat.le_trans (Nat.le_trans (Nat.le_trans E70.1 (Keep.of_wr W77).1) (Keep.of_wr W81).1) lb86))).ext E100
    have S_684 := ((S_683.wr W107 (Or.inr (Nat.le_trans (Nat.le_trans S_682.1 (Nat.le_trans (Keep.of_wr W92).1 (Keep.of_wr W96).1)) lb101))).wr W111 (Or.inr (Nat.le_trans (Nat.le_trans S_682.1 (Nat.le_trans (Keep.of_wr W92).1 (Keep.of_wr W96).1)) lb101))).ext E115
    have S_685 := ((S_684.wr W122 (Or.inr (Nat.le_trans (Nat.le_trans S_683.1 (Nat.le_trans (Keep.of_wr W107).1 (Keep.of_wr W111).1)) lb116))).wr W126 (Or.inr (Nat.le_trans (Nat.le_trans S_683.1 (Nat.le_trans (Keep.of_wr W107).1 (Keep.of_wr W111).1)) lb116))).ext E130
    have S_686 := ((S_685.wr W137 (Or.inr (Nat.le_trans (Nat.le_trans S_684.1 (Nat.le_trans (Keep.of_wr W122).1 (Keep.of_wr W126).1)) lb131))).wr W141 (Or.inr (Nat.le_trans (Nat.le_trans S_684.1 (Nat.le_trans (Keep.of_wr W122).1 (Keep.of_wr W126).1)) lb131))).ext E145
    have S_687 := ((S_686.wr W152 (Or.inr (Nat.le_trans (Nat.le_trans S_685.1 (Nat.le_trans (Keep.of_wr W137).1 (Keep.of_wr W141).1)) lb146))).wr W156 (Or.inr (Nat.le_trans (Nat.le_trans S_685.1 (Nat.le_trans (Keep.of_wr W137).1 (Keep.of_wr W141).1)) lb146))).ext E491
    have S_688 : Keep h66 T653.heap [] := ((S_687.trans Kq511 (allS (Or.inr (Nat.le_trans (Nat.le_trans S_686.1 (Nat.le_trans (Keep.of_wr W152).1 (Keep.of_wr W156).1)) lb492)) all0)).trans Kq653 (allS (Or.inr (Nat.le_trans (Nat.le_trans S_686.1 (Nat.le_trans (Keep.of_wr W152).1 (Keep.of_wr W156).1)) lb492)) (allS (Or.inr (Nat.le_trans S_687.1 q534)) (allS (Or.inr (Nat.le_trans S_687.1 q535)) (allS (Or.inr (Nat.le_trans S_687.1 q536)) (allS (Or.inr (Nat.le_trans S_687.1 q537)) (allS (Or.inr (Nat.le_trans S_687.1 q538)) (allS (Or.inr (Nat.le_trans S_687.1 q539)) (allS (Or.inr (Nat.le_trans S_687.1 q540)) (allS (Or.inr (Nat.le_trans S_687.1 q541)) (allS (Or.inr (Nat.le_trans S_687.1 q542)) (allS (Or.inr (Nat.le_trans S_687.1 q543)) (allS (Or.inr (Nat.le_trans S_687.1 q544)) all0)))))))))))))
    have c689 := V67.keep S_688 nin0
    have S_690 := ((((Keep.refl h81 []).ext E85).wr W92 (Or.inr lb86)).wr W96 (Or.inr lb86)).ext E100
    have S_691 := ((S_690.wr W107 (Or.inr (Nat.le_trans (Nat.le_trans (Nat.le_trans E85.1 (Keep.of_wr W92).1) (Keep.of_wr W96).1) lb101))).wr W111 (Or.inr (Nat.le_trans (Nat.le_trans (Nat.le_trans E85.1 (Keep.of_wr W92).1) (Keep.of_wr W96).1) lb101))).ext E115
    have S_692 := ((S_691.wr W122 (Or.inr (Nat.le_trans (Nat.le_trans S_690.1 (Nat.le_trans (Keep.of_wr W107).1 (Keep.of_wr W111).1)) lb116))).wr W126 (Or.inr (Nat.le_trans (Nat.le_trans S_690.1 (Nat.le_trans (Keep.of_wr W107).1 (Keep.of_wr W111).1)) lb116))).ext E130
    have S_693 := ((S_692.wr W137 (Or.inr (Nat.le_trans (Nat.le_trans S_691.1 (Nat.le_trans (Keep.of_wr W122).1 (Keep.of_wr W126).1)) lb131))).wr W141 (Or.inr (Nat.le_trans (Nat.le_trans S_691.1 (Nat.le_trans (Keep.of_wr W122).1 (Keep.of_wr W126).1)) lb131))).ext E145
    have S_694 := ((S_693.wr W152 (Or.inr (Nat.le_trans (Nat.le_trans S_692.1 (Nat.le_trans (Keep.of_wr W137).1 (Keep.of_wr W141).1)) lb146))).wr W156 (Or.inr (Nat.le_trans (Nat.le_trans S_692.1 (Nat.le_trans (Keep.of_wr W137).1 (Keep.of_wr W141).1)) lb146))).ext E491
    have S_695 : Keep h81 T653.heap [] := ((S_694.trans Kq511 (allS (Or.inr (Nat.le_trans (Nat.le_trans S_693.1 (Nat.le_trans (Keep.of_wr W152).1 (Keep.of_wr W156).1)) lb492)) all0)).trans Kq653 (allS (Or.inr (Nat.le_trans (Nat.le_trans S_693.1 (Nat.le_trans (Keep.of_wr W152).1 (Keep.of_wr W156).1)) lb492)) (allS (Or.inr (Nat.le_trans S_694.1 q534)) (allS (Or.inr (Nat.le_trans S_694.1 q535)) (allS (Or.inr (Nat.le_trans S_694.1 q536)) (allS (Or.inr (Nat.le_trans S_694.1 q537)) (allS (Or.inr (Nat.le_trans S_694.1 q538)) (allS (Or.inr (Nat.le_trans S_694.1 q539)) (allS (Or.inr (Nat.le_trans S_694.1 q540)) (allS (Or.inr (Nat.le_trans S_694.1 q541)) (allS (Or.inr (Nat.le_trans S_694.1 q542)) (allS (Or.inr (Nat.le_trans S_694.1 q543)) (allS (Or.inr (Nat.le_trans S_694.1 q544)) all0)))))))))))))
    have c696 := V82.keep S_695 nin0
    have o697 : b70 < b100 := Nat.lt_trans o640 o642
    have o698 : b70 < b115 := Nat.lt_trans o697 o644
    have o699 : b70 < b130 := Nat.lt_trans o698 o646
    have o700 : b70 < b145 := Nat.lt_trans o699 o648
    have o701 : b70 < b491 := Nat.lt_trans o700 o650
    refine Go.cps (own_cv (W := 0) (b := b491) (argsL := [(.int 0), (.int 0), (.int 0), (.double (FP.l2d (1 : Int64))), (.ref b55), .null, (.ref b70)]) (rest := []) X653 hx hZ hown (hw _ tw37) (hw _ tw38) (notFace_of_selects (args := #[]) (mvT hZ (hw _ tw40))) (hw _ tw40) (hw _ tw39) (hw _ tw41) (hw _ tw5) (by decide) rfl q654 (rm3_2_1 l Z a0 hw [] b491 b55 b70 b512 b513 b514 b515 b516 b517 b518 b519 b520 b521 b522 k523 k524 k525 k526 k527 k528 k529 k530 k531 k532 k533 p3 p2 (FP.l2d ld3) (FP.l2d ld4) p0 p1 p2 p3 (FP.l2d ld1) (FP.l2d ld2) k55 k70 T653.heap n0 (Nat.le_trans Z0 K680.1) O681  q654 q655 q656 q657 q658 q659 q660 q661 q662 q663 q664 q665 q666 q667 q668 q669 q670 q671 q672 q673 q674 q675 q676 q677 q678 q679 c689 c696 g494 g582 g584 g586 g588 g590 g592 g594 g596 g598 g600 g602 o638 o701 o652 q545 q546 q547 q548 q549 q550 q551 q552 q553 q554) rfl (by rw [hml]; rfl) (lenOf pd3 rfl) rfl (Nat.le_of_eq rfl) (hb hby at_230) rfl (by decide) (by decide) (by decide) (by decide)) ?_
    rintro T702 _ L702 X702 ⟨rfl, Nq702, Kq702, q703, q704, q705, q706, q707, q708, q709, q710, q711, q712, q713, q714, q715, q716, q717, q718, q719, q720, q721, q722, q723, q724, q725, q726, q727, q728⟩
    have N702 := Fr.app N653 Nq702
    have K729 := K680.trans Kq702 (allS (Or.inr sz493) (allS (Or.inr sz581) (allS (Or.inr sz583) (allS (Or.inr sz585) (allS (Or.inr sz587) (allS (Or.inr sz589) (allS (Or.inr sz591) (allS (Or.inr sz593) (allS (Or.inr sz595) (allS (Or.inr sz597) (allS (Or.inr sz599) (allS (Or.inr sz601) all0))))))))))))
    have O730 := O681.keep Kq702 (allS g494 (allS g582 (allS g584 (allS g586 (allS g588 (allS g590 (allS g592 (allS g594 (allS g596 (allS g598 (allS g600 (allS g602 all0))))))))))))
    refine Go.st (t' := T702.setTop (mkF m 242 #[.val (.int p0), .val (.int p1), .val (.int p2), .val (.int p3), .val (.long q4), .second, .val (.int p5), .val (.int 2), .val (.double (FP.l2d ld1)), .second, .val (.double (FP.l2d ld2)), .second, .val (.double (FP.l2d ld3)), .second, .val (.double (FP.l2d ld4)), .second, .val (.ref b10), .val (.ref b25), .val (.ref b40), .val (.ref b55), .val (.ref b70), .val (.ref b85), .val (.ref b100), .val (.ref b115), .val (.ref b130), .val (.ref b145), .val (.ref b491), .unset, .unset, .unset] [(.ref b115), (.ref b100), (.ref b85), (.int 0), (.ref b491)])) (fun target kt => ?_) ?_
    · refine XS.aload X702.here hx rfl (hb hby at_233) rfl rfl ?_
      refine XS.iconst X702.here hx rfl (hb hby at_235) ?_
      refine XS.aload X702.here hx rfl (hb hby at_236) rfl rfl ?_
      refine XS.aload X702.here hx rfl (hb hby at_238) rfl rfl ?_
      refine XS.aload X702.here hx rfl (hb hby at_240) rfl rfl ?_
      exact kt
    have S_731 := ((((Keep.refl h96 []).ext E100).wr W107 (Or.inr lb101)).wr W111 (Or.inr lb101)).ext E115
    have S_732 := ((S_731.wr W122 (Or.inr (Nat.le_trans (Nat.le_trans (Nat.le_trans E100.1 (Keep.of_wr W107).1) (Keep.of_wr W111).1) lb116))).wr W126 (Or.inr (Nat.le_trans (Nat.le_trans (Nat.le_trans E100.1 (Keep.of_wr W107).1) (Keep.of_wr W111).1) lb116))).ext E130
    have S_733 := ((S_732.wr W137 (Or.inr (Nat.le_trans (Nat.le_trans S_731.1 (Nat.le_trans (Keep.of_wr W122).1 (Keep.of_wr W126).1)) lb131))).wr W141 (Or.inr (Nat.le_trans (Nat.le_trans S_731.1 (Nat.le_trans (Keep.of_wr W122).1 (Keep.of_wr W126).1)) lb131))).ext E145
    have S_734 := ((S_733.wr W152 (Or.inr (Nat.le_trans (Nat.le_trans S_732.1 (Nat.le_trans (Keep.of_wr W137).1 (Keep.of_wr W141).1)) lb146))).wr W156 (Or.inr (Nat.le_trans (Nat.le_trans S_732.1 (Nat.le_trans (Keep.of_wr W137).1 (Keep.of_wr W141).1)) lb146))).ext E491
    have S_735 : Keep h96 T702.heap [] := (((S_734.trans Kq511 (allS (Or.inr (Nat.le_trans (Nat.le_trans S_733.1 (Nat.le_trans (Keep.of_wr W152).1 (Keep.of_wr W156).1)) lb492)) all0)).trans Kq653 (allS (Or.inr (Nat.le_trans (Nat.le_trans S_733.1 (Nat.le_trans (Keep.of_wr W152).1 (Keep.of_wr W156).1)) lb492)) (allS (Or.inr (Nat.le_trans S_734.1 q534)) (allS (Or.inr (Nat.le_trans S_734.1 q535)) (allS (Or.inr (Nat.le_trans S_734.1 q536)) (allS (Or.inr (Nat.le_trans S_734.1 q537)) (allS (Or.inr (Nat.le_trans S_734.1 q538)) (allS (Or.inr (Nat.le_trans S_734.1 q539)) (allS (Or.inr (Nat.le_trans S_734.1 q540)) (allS (Or.inr (Nat.le_trans S_734.1 q541)) (allS (Or.inr (Nat.le_trans S_734.1 q542)) (allS (Or.inr (Nat.le_trans S_734.1 q543)) (allS (Or.inr (Nat.le_trans S_734.1 q544)) all0))))))))))))).trans Kq702 (allS (Or.inr (Nat.le_trans (Nat.le_trans S_733.1 (Nat.le_trans (Keep.of_wr W152).1 (Keep.of_wr W156).1)) lb492)) (allS (Or.inr (Nat.le_trans S_734.1 q534)) (allS (Or.inr (Nat.le_trans S_734.1 q535)) (allS (Or.inr (Nat.le_trans S_734.1 q536)) (allS (Or.inr (Nat.le_trans S_734.1 q537)) (allS (Or.inr (Nat.le_trans S_734.1 q538)) (allS (Or.inr (Nat.le_trans S_734.1 q539)) (allS (Or.inr (Nat.le_trans S_734.1 q540)) (allS (Or.inr (Nat.le_trans S_734.1 q541)) (allS (Or.inr (Nat.le_trans S_734.1 q542)) (allS (Or.inr (Nat.le_trans S_734.1 q543)) (allS (Or.inr (Nat.le_trans S_734.1 q544)) all0)))))))))))))
    have c736 := V97.keep S_735 nin0
    have S_737 := ((((Keep.refl h111 []).ext E115).wr W122 (Or.inr lb116)).wr W126 (Or.inr lb116)).ext E130
    have S_738 := ((S_737.wr W137 (Or.inr (Nat.le_trans (Nat.le_trans (Nat.le_trans E115.1 (Keep.of_wr W122).1) (Keep.of_wr W126).1) lb131))).wr W141 (Or.inr (Nat.le_trans (Nat.le_trans (Nat.le_trans E115.1 (Keep.of_wr W122).1) (Keep.of_wr W126).1) lb131))).ext E145
    have S_739 := ((S_738.wr W152 (Or.inr (Nat.le_trans (Nat.le_trans S_737.1 (Nat.le_trans (Keep.of_wr W137).1 (Keep.of_wr W141).1)) lb146))).wr W156 (Or.inr (Nat.le_trans (Nat.le_trans S_737.1 (Nat.le_trans (Keep.of_wr W137).1 (Keep.of_wr W141).1)) lb146))).ext E491
    have S_740 : Keep h111 T702.heap [] := (((S_739.trans Kq511 (allS (Or.inr (Nat.le_trans (Nat.le_trans S_738.1 (Nat.le_trans (Keep.of_wr W152).1 (Keep.of_wr W156).1)) lb492)) all0)).trans Kq653 (allS (Or.inr (Nat.le_trans (Nat.le_trans S_738.1 (Nat.le_trans (Keep.of_wr W152).1 (Keep.of_wr W156).1)) lb492)) (allS (Or.inr (Nat.le_trans S_739.1 q534)) (allS (Or.inr (Nat.le_trans S_739.1 q535)) (allS (Or.inr (Nat.le_trans S_739.1 q536)) (allS (Or.inr (Nat.le_trans S_739.1 q537)) (allS (Or.inr (Nat.le_trans S_739.1 q538)) (allS (Or.inr (Nat.le_trans S_739.1 q539)) (allS (Or.inr (Nat.le_trans S_739.1 q540)) (allS (Or.inr (Nat.le_trans S_739.1 q541)) (allS (Or.inr (Nat.le_trans S_739.1 q542)) (allS (Or.inr (Nat.le_trans S_739.1 q543)) (allS (Or.inr (Nat.le_trans S_739.1 q544)) all0))))))))))))).trans Kq702 (allS (Or.inr (Nat.le_trans (Nat.le_trans S_738.1 (Nat.le_trans (Keep.of_wr W152).1 (Keep.of_wr W156).1)) lb492)) (allS (Or.inr (Nat.le_trans S_739.1 q534)) (allS (Or.inr (Nat.le_trans S_739.1 q535)) (allS (Or.inr (Nat.le_trans S_739.1 q536)) (allS (Or.inr (Nat.le_trans S_739.1 q537)) (allS (Or.inr (Nat.le_trans S_739.1 q538)) (allS (Or.inr (Nat.le_trans S_739.1 q539)) (allS (Or.inr (Nat.le_trans S_739.1 q540)) (allS (Or.inr (Nat.le_trans S_739.1 q541)) (allS (Or.inr (Nat.le_trans S_739.1 q542)) (allS (Or.inr (Nat.le_trans S_739.1 q543)) (allS (Or.inr (Nat.le_trans S_739.1 q544)) all0)))))))))))))
    have c741 := V112.keep S_740 nin0
    have S_742 := ((((Keep.refl h126 []).ext E130).wr W137 (Or.inr lb131)).wr W141 (Or.inr lb131)).ext E145
    have S_743 := ((S_742.wr W152 (Or.inr (Nat.le_trans (Nat.le_trans (Nat.le_trans E130.1 (Keep.of_wr W137).1) (Keep.of_wr W141).1) lb146))).wr W156 (Or.inr (Nat.le_trans (Nat.le_trans (Nat.le_trans E130.1 (Keep.of_wr W137).1) (Keep.of_wr W141).1) lb146))).ext E491
    have S_744 : Keep h126 T702.heap [] := (((S_743.trans Kq511 (allS (Or.inr (Nat.le_trans (Nat.le_trans S_742.1 (Nat.le_trans (Keep.of_wr W152).1 (Keep.of_wr W156).1)) lb492)) all0)).trans Kq653 (allS (Or.inr (Nat.le_trans (Nat.le_trans S_742.1 (Nat.le_trans (Keep.of_wr W152).1 (Keep.of_wr W156).1)) lb492)) (allS (Or.inr (Nat.le_trans S_743.1 q534)) (allS (Or.inr (Nat.le_trans S_743.1 q535)) (allS (Or.inr (Nat.le_trans S_743.1 q536)) (allS (Or.inr (Nat.le_trans S_743.1 q537)) (allS (Or.inr (Nat.le_trans S_743.1 q538)) (allS (Or.inr (Nat.le_trans S_743.1 q539)) (allS (Or.inr (Nat.le_trans S_743.1 q540)) (allS (Or.inr (Nat.le_trans S_743.1 q541)) (allS (Or.inr (Nat.le_trans S_743.1 q542)) (allS (Or.inr (Nat.le_trans S_743.1 q543)) (allS (Or.inr (Nat.le_trans S_743.1 q544)) all0))))))))))))).trans Kq702 (allS (Or.inr (Nat.le_trans (Nat.le_trans S_742.1 (Nat.le_trans (Keep.of_wr W152).1 (Keep.of_wr W156).1)) lb492)) (allS (Or.inr (Nat.le_trans S_743.1 q534)) (allS (Or.inr (Nat.le_trans S_743.1 q535)) (allS (Or.inr (Nat.le_trans S_743.1 q536)) (allS (Or.inr (Nat.le_trans S_743.1 q537)) (allS (Or.inr (Nat.le_trans S_743.1 q538)) (allS (Or.inr (Nat.le_trans S_743.1 q539)) (allS (Or.inr (Nat.le_trans S_743.1 q540)) (allS (Or.inr (Nat.le_trans S_743.1 q541)) (allS (Or.inr (Nat.le_trans S_743.1 q542)) (allS (Or.inr (Nat.le_trans S_743.1 q543)) (allS (Or.inr (Nat.le_trans S_743.1 q544)) all0)))))))))))))
    have c745 := V127.keep S_744 nin0
    have o746 : b115 < b145 := Nat.lt_trans o646 o648
    have o747 : b115 < b491 := Nat.lt_trans o746 o650
    have o748 : b491 < b520 := Nat.lt_of_lt_of_le A491.lt q542
    refine Go.cps (own_cv (W := 0) (b := b491) (argsL := [(.int 0), (.ref b85), (.ref b100), (.ref b115)]) (rest := []) X702 hx hZ hown (hw _ tw57) (hw _ tw58) (notFace_of_selects (args := #[]) (mvT hZ (hw _ tw60))) (hw _ tw60) (hw _ tw59) (hw _ tw61) (hw _ tw5) (by decide) rfl q703 (rm7_2_0 l Z a0 hw [] b491 b85 b100 b115 b520 b521 b522 k531 k532 k533 k85 k115 k100 p0 p1 p3 p2 p2 p3 (FP.l2d ld1) (FP.l2d ld2) (FP.l2d ld3) (FP.l2d ld4) T702.heap n0 (Nat.le_trans Z0 K729.1) O730  q703 q704 q723 q725 q727 q724 q726 q728 c736 c741 c745 g88 g103 g118 o642 o644 o747 o748 q553 q554) rfl (by rw [hml]; rfl) (lenOf pd4 rfl) rfl (Nat.le_of_eq rfl) (hb hby at_242) rfl (by decide) (by decide) (by decide) (by decide)) ?_
    rintro T749 _ L749 X749 ⟨rfl, Nq749, Kq749, q750, q751, q752⟩
    have N749 := Fr.app N702 Nq749
    have K753 := K729.trans Kq749 (allS (Or.inr sz87) (allS (Or.inr sz102) (allS (Or.inr sz117) all0)))
    have O754 := O730.keep Kq749 (allS g88 (allS g103 (allS g118 all0)))
    refine Go.st (t' := T749.setTop (mkF m 253 #[.val (.int p0), .val (.int p1), .val (.int p2), .val (.int p3), .val (.long q4), .second, .val (.int p5), .val (.int 2), .val (.double (FP.l2d ld1)), .second, .val (.double (FP.l2d ld2)), .second, .val (.double (FP.l2d ld3)), .second, .val (.double (FP.l2d ld4)), .second, .val (.ref b10), .val (.ref b25), .val (.ref b40), .val (.ref b55), .val (.ref b70), .val (.ref b85), .val (.ref b100), .val (.ref b115), .val (.ref b130), .val (.ref b145), .val (.ref b491), .unset, .unset, .unset] [(.ref b145), .null, (.ref b130), (.int 1), (.ref b491)])) (fun target kt => ?_) ?_
    · refine XS.aload X749.here hx rfl (hb hby at_245) rfl rfl ?_
      refine XS.iconst X749.here hx rfl (hb hby at_247) ?_
      refine XS.aload X749.here hx rfl (hb hby at_248) rfl rfl ?_
      refine XS.aconstNull X749.here hx rfl (hb hby at_250) ?_
      refine XS.aload X749.here hx rfl (hb hby at_251) rfl rfl ?_
      exact kt
    have c755 := q703.keep Kq749
    have ne756 : b115 ≠ b491 := Nat.ne_of_lt o747
    have o757 : b100 < b130 := Nat.lt_trans o644 o646
    have o758 : b100 < b145 := Nat.lt_trans o757 o648
    have o759 : b100 < b491 := Nat.lt_trans o758 o650
    have ne760 : b100 ≠ b491 := Nat.ne_of_lt o759
    have o761 : b85 < b115 := Nat.lt_trans o642 o644
    have o762 : b85 < b130 := Nat.lt_trans o761 o646
    have o763 : b85 < b145 := Nat.lt_trans o762 o648
    have o764 : b85 < b491 := Nat.lt_trans o763 o650
    have ne765 : b85 ≠ b491 := Nat.ne_of_lt o764
    have c766 := q704.keep Kq749 (ninS (Ne.symm ne765) (ninS (Ne.symm ne760) (ninS (Ne.symm ne756) nin0)))
    have c767 := q723.keep Kq749 (ninS (Ne.symm ne765) (ninS (Ne.symm ne760) (ninS (Ne.symm ne756) nin0)))
    have c768 := q725.keep Kq749 (ninS (Ne.symm ne765) (ninS (Ne.symm ne760) (ninS (Ne.symm ne756) nin0)))
    have c769 := q727.keep Kq749 (ninS (Ne.symm ne765) (ninS (Ne.symm ne760) (ninS (Ne.symm ne756) nin0)))
    have o770 : b115 < b520 := Nat.lt_trans o747 o748
    have ne771 : b115 ≠ b520 := Nat.ne_of_lt o770
    have o772 : b100 < b520 := Nat.lt_trans o759 o748
    have ne773 : b100 ≠ b520 := Nat.ne_of_lt o772
    have o774 : b85 < b520 := Nat.lt_trans o764 o748
    have ne775 : b85 ≠ b520 := Nat.ne_of_lt o774
    have c776 := q724.keep Kq749 (ninS (Ne.symm ne775) (ninS (Ne.symm ne773) (ninS (Ne.symm ne771) nin0)))
    have o777 : b491 < b521 := Nat.lt_of_lt_of_le A491.lt q543
    have o778 : b115 < b521 := Nat.lt_trans o747 o777
    have ne779 : b115 ≠ b521 := Nat.ne_of_lt o778
    have o780 : b100 < b521 := Nat.lt_trans o759 o777
    have ne781 : b100 ≠ b521 := Nat.ne_of_lt o780
    have o782 : b85 < b521 := Nat.lt_trans o764 o777
    have ne783 : b85 ≠ b521 := Nat.ne_of_lt o782
    have c784 := q726.keep Kq749 (ninS (Ne.symm ne783) (ninS (Ne.symm ne781) (ninS (Ne.symm ne779) nin0)))
    have o785 : b491 < b522 := Nat.lt_of_lt_of_le A491.lt q544
    have o786 : b115 < b522 := Nat.lt_trans o747 o785
    have ne787 : b115 ≠ b522 := Nat.ne_of_lt o786
    have o788 : b100 < b522 := Nat.lt_trans o759 o785
    have ne789 : b100 ≠ b522 := Nat.ne_of_lt o788
    have o790 : b85 < b522 := Nat.lt_trans o764 o785
    have ne791 : b85 ≠ b522 := Nat.ne_of_lt o790
    have c792 := q728.keep Kq749 (ninS (Ne.symm ne791) (ninS (Ne.symm ne789) (ninS (Ne.symm ne787) nin0)))
    have S_793 := ((((Keep.refl h141 [b85, b100, b115]).ext E145).wr W152 (Or.inr lb146)).wr W156 (Or.inr lb146)).ext E491
    have S_794 : Keep h141 T749.heap [b85, b100, b115] := ((((S_793.trans Kq511 (allS (Or.inr (Nat.le_trans (Nat.le_trans (Nat.le_trans E145.1 (Keep.of_wr W152).1) (Keep.of_wr W156).1) lb492)) all0)).trans Kq653 (allS (Or.inr (Nat.le_trans (Nat.le_trans (Nat.le_trans E145.1 (Keep.of_wr W152).1) (Keep.of_wr W156).1) lb492)) (allS (Or.inr (Nat.le_trans S_793.1 q534)) (allS (Or.inr (Nat.le_trans S_793.1 q535)) (allS (Or.inr (Nat.le_trans S_793.1 q536)) (allS (Or.inr (Nat.le_trans S_793.1 q537)) (allS (Or.inr (Nat.le_trans S_793.1 q538)) (allS (Or.inr (Nat.le_trans S_793.1 q539)) (allS (Or.inr (Nat.le_trans S_793.1 q540)) (allS (Or.inr (Nat.le_trans S_793.1 q541)) (allS (Or.inr (Nat.le_trans S_793.1 q542)) (allS (Or.inr (Nat.le_trans S_793.1 q543)) (allS (Or.inr (Nat.le_trans S_793.1 q544)) all0))))))))))))).trans Kq702 (allS (Or.inr (Nat.le_trans (Nat.le_trans (Nat.le_trans E145.1 (Keep.of_wr W152).1) (Keep.of_wr W156).1) lb492)) (allS (Or.inr (Nat.le_trans S_793.1 q534)) (allS (Or.inr (Nat.le_trans S_793.1 q535)) (allS (Or.inr (Nat.le_trans S_793.1 q536)) (allS (Or.inr (Nat.le_trans S_793.1 q537)) (allS (Or.inr (Nat.le_trans S_793.1 q538)) (allS (Or.inr (Nat.le_trans S_793.1 q539)) (allS (Or.inr (Nat.le_trans S_793.1 q540)) (allS (Or.inr (Nat.le_trans S_793.1 q541)) (allS (Or.inr (Nat.le_trans S_793.1 q542)) (allS (Or.inr (Nat.le_trans S_793.1 q543)) (allS (Or.inr (Nat.le_trans S_793.1 q544)) all0))))))))))))).trans Kq749 (allS (Or.inl mI0) (allS (Or.inl mI1) (allS (Or.inl mI2) all0))))
    have ne795 : b115 ≠ b130 := Nat.ne_of_lt o646
    have ne796 : b100 ≠ b130 := Nat.ne_of_lt o757
    have ne797 : b85 ≠ b130 := Nat.ne_of_lt o762
    have c798 := V142.keep S_794 (ninS (Ne.symm ne797) (ninS (Ne.symm ne796) (ninS (Ne.symm ne795) nin0)))
    have S_799 : Keep h156 T749.heap [b85, b100, b115] := ((((((Keep.refl h156 [b85, b100, b115]).ext E491).trans Kq511 (allS (Or.inr lb492) all0)).trans Kq653 (allS (Or.inr lb492) (allS (Or.inr (Nat.le_trans E491.1 q534)) (allS (Or.inr (Nat.le_trans E491.1 q535)) (allS (Or.inr (Nat.le_trans E491.1 q536)) (allS (Or.inr (Nat.le_trans E491.1 q537)) (allS (Or.inr (Nat.le_trans E491.1 q538)) (allS (Or.inr (Nat.le_trans E491.1 q539)) (allS (Or.inr (Nat.le_trans E491.1 q540)) (allS (Or.inr (Nat.le_trans E491.1 q541)) (allS (Or.inr (Nat.le_trans E491.1 q542)) (allS (Or.inr (Nat.le_trans E491.1 q543)) (allS (Or.inr (Nat.le_trans E491.1 q544)) all0))))))))))))).trans Kq702 (allS (Or.inr lb492) (allS (Or.inr (Nat.le_trans E491.1 q534)) (allS (Or.inr (Nat.le_trans E491.1 q535)) (allS (Or.inr (Nat.le_trans E491.1 q536)) (allS (Or.inr (Nat.le_trans E491.1 q537)) (allS (Or.inr (Nat.le_trans E491.1 q538)) (allS (Or.inr (Nat.le_trans E491.1 q539)) (allS (Or.inr (Nat.le_trans E491.1 q540)) (allS (Or.inr (Nat.le_trans E491.1 q541)) (allS (Or.inr (Nat.le_trans E491.1 q542)) (allS (Or.inr (Nat.le_trans E491.1 q543)) (allS (Or.inr (Nat.le_trans E491.1 q544)) all0))))))))))))).trans Kq749 (allS (Or.inl mI0) (allS (Or.inl mI1) (allS (Or.inl mI2) all0))))
    have ne800 : b115 ≠ b145 := Nat.ne_of_lt o746
    have ne801 : b100 ≠ b145 := Nat.ne_of_lt o758
    have ne802 : b85 ≠ b145 := Nat.ne_of_lt o763
    have c803 := V157.keep S_799 (ninS (Ne.symm ne802) (ninS (Ne.symm ne801) (ninS (Ne.symm ne800) nin0)))
    refine Go.cps (own_cv (W := 0) (b := b491) (argsL := [(.int 1), (.ref b130), .null, (.ref b145)]) (rest := []) X749 hx hZ hown (hw _ tw57) (hw _ tw58) (notFace_of_selects (args := #[]) (mvT hZ (hw _ tw60))) (hw _ tw60) (hw _ tw59) (hw _ tw61) (hw _ tw5) (by decide) rfl c755 (rm7_2_1 l Z a0 hw [] b491 b130 b145 b520 b521 b522 k531 k532 k533 k130 k145 p0 p1 p3 p2 p2 p3 (FP.l2d ld1) (FP.l2d ld2) (FP.l2d ld3) (FP.l2d ld4) T749.heap n0 (Nat.le_trans Z0 K753.1) O754  c755 c766 c767 c768 c769 c776 c784 c792 c798 c803 g133 g148 o648 o650 o748 q553 q554) rfl (by rw [hml]; rfl) (lenOf pd4 rfl) rfl (Nat.le_of_eq rfl) (hb hby at_253) rfl (by decide) (by decide) (by decide) (by decide)) ?_
    rintro T804 _ L804 X804 ⟨rfl, Nq804, Kq804, q805, q806⟩
    have N804 := Fr.app N749 Nq804
    have K807 := K753.trans Kq804 (allS (Or.inr sz132) (allS (Or.inr sz147) all0))
    have O808 := O754.keep Kq804 (allS g133 (allS g148 all0))
    have c809 := q750.keep Kq804 (ninS ne797 (ninS ne802 nin0))
    obtain ⟨cl810, Ar810, -, S810, M810, H810, -⟩ := id c809
    have hin810 : ¬ ((0 : Int32) < 0 ∨ cl810.slots.size ≤ ((0 : Int32)).toNatClampNeg) := inb_of S810 ⟨by decide, by decide⟩
    have hat810 : cl810.slots[((0 : Int32)).toNatClampNeg]? = some (.int p0) := H810.at hin810 rfl
    have c811 := q751.keep Kq804 (ninS ne796 (ninS ne801 nin0))
    obtain ⟨cl812, Ar812, -, S812, M812, H812, -⟩ := id c811
    have hin812 : ¬ ((0 : Int32) < 0 ∨ cl812.slots.size ≤ ((0 : Int32)).toNatClampNeg) := inb_of S812 ⟨by decide, by decide⟩
    have hat812 : cl812.slots[((0 : Int32)).toNatClampNeg]? = some (.int p2) := H812.at hin812 rfl
    have c813 := q752.keep Kq804 (ninS ne795 (ninS ne800 nin0))
    obtain ⟨cl814, Ar814, -, S814, M814, H814, -⟩ := id c813
    have hin814 : ¬ ((0 : Int32) < 0 ∨ cl814.slots.size ≤ ((0 : Int32)).toNatClampNeg) := inb_of S814 ⟨by decide, by decide⟩
    have hat814 : cl814.slots[((0 : Int32)).toNatClampNeg]? = some (.double (FP.l2d ld1)) := H814.at hin814 rfl
    obtain ⟨cl815, Ar815, -, S815, M815, H815, -⟩ := id c809
    have hin815 : ¬ ((1 : Int32) < 0 ∨ cl815.slots.size ≤ ((1 : Int32)).toNatClampNeg) := inb_of S815 ⟨by decide, by decide⟩
    have hat815 : cl815.slots[((1 : Int32)).toNatClampNeg]? = some (.int p1) := H815.at hin815 rfl
    obtain ⟨cl816, Ar816, -, S816, M816, H816, -⟩ := id c811
    have hin816 : ¬ ((1 : Int32) < 0 ∨ cl816.slots.size ≤ ((1 : Int32)).toNatClampNeg) := inb_of S816 ⟨by decide, by decide⟩
    have hat816 : cl816.slots[((1 : Int32)).toNatClampNeg]? = some (.int p3) := H816.at hin816 rfl
    obtain ⟨cl817, Ar817, -, S817, M817, H817, -⟩ := id c813
    have hin817 : ¬ ((1 : Int32) < 0 ∨ cl817.slots.size ≤ ((1 : Int32)).toNatClampNeg) := inb_of S817 ⟨by decide, by decide⟩
    have hat817 : cl817.slots[((1 : Int32)).toNatClampNeg]? = some (.double (FP.l2d ld2)) := H817.at hin817 rfl
    obtain ⟨cl818, Ar818, -, S818, M818, H818, -⟩ := id q805
    have hin818 : ¬ ((0 : Int32) < 0 ∨ cl818.slots.size ≤ ((0 : Int32)).toNatClampNeg) := inb_of S818 ⟨by decide, by decide⟩
    have hat818 : cl818.slots[((0 : Int32)).toNatClampNeg]? = some (.int p3) := H818.at hin818 rfl
    obtain ⟨cl819, Ar819, -, S819, M819, H819, -⟩ := id q806
    have hin819 : ¬ ((0 : Int32) < 0 ∨ cl819.slots.size ≤ ((0 : Int32)).toNatClampNeg) := inb_of S819 ⟨by decide, by decide⟩
    have hat819 : cl819.slots[((0 : Int32)).toNatClampNeg]? = some (.double (FP.l2d ld3)) := H819.at hin819 rfl
    obtain ⟨cl820, Ar820, -, S820, M820, H820, -⟩ := id q805
    have hin820 : ¬ ((1 : Int32) < 0 ∨ cl820.slots.size ≤ ((1 : Int32)).toNatClampNeg) := inb_of S820 ⟨by decide, by decide⟩
    have hat820 : cl820.slots[((1 : Int32)).toNatClampNeg]? = some (.int p2) := H820.at hin820 rfl
    obtain ⟨cl821, Ar821, -, S821, M821, H821, -⟩ := id q806
    have hin821 : ¬ ((1 : Int32) < 0 ∨ cl821.slots.size ≤ ((1 : Int32)).toNatClampNeg) := inb_of S821 ⟨by decide, by decide⟩
    have hat821 : cl821.slots[((1 : Int32)).toNatClampNeg]? = some (.double (FP.l2d ld4)) := H821.at hin821 rfl
    refine Go.st (t' := T804.setTop (mkF m 451 #[.val (.int p0), .val (.int p1), .val (.int p2), .val (.int p3), .val (.long q4), .second, .val (.int p5), .val (.int 2), .val (.double (FP.l2d ld1)), .second, .val (.double (FP.l2d ld2)), .second, .val (.double (FP.l2d ld3)), .second, .val (.double (FP.l2d ld4)), .second, .val (.ref b10), .val (.ref b25), .val (.ref b40), .val (.ref b55), .val (.ref b70), .val (.ref b85), .val (.ref b100), .val (.ref b115), .val (.ref b130), .val (.ref b145), .val (.ref b491), .val (.int 1), .val (.int 1), .val (.int 1)] [(.int 1)])) (fun target kt => ?_) ?_
    · refine XS.iload X804.here hx rfl (hb hby at_256) rfl ?_
      refine XS.iconst X804.here hx rfl (hb hby at_258) ?_
      refine XS.icmpNo X804.here hx rfl (hb hby at_259) rfl (teq (by decide : (2 : Int32) = (2 : Int32))).2 ?_
      refine XS.iconst X804.here hx rfl (hb hby at_262) ?_
      refine XS.goto X804.here hx rfl (pc0 := 263) (pc' := 267) rfl (hb hby at_263) (by decide) (by decide) ?_
      refine XS.istore X804.here hx rfl (hb hby at_267) rfl (l' := #[.val (.int p0), .val (.int p1), .val (.int p2), .val (.int p3), .val (.long q4), .second, .val (.int p5), .val (.int 2), .val (.double (FP.l2d ld1)), .second, .val (.double (FP.l2d ld2)), .second, .val (.double (FP.l2d ld3)), .second, .val (.double (FP.l2d ld4)), .second, .val (.ref b10), .val (.ref b25), .val (.ref b40), .val (.ref b55), .val (.ref b70), .val (.ref b85), .val (.ref b100), .val (.ref b115), .val (.ref b130), .val (.ref b145), .val (.ref b491), .val (.int 1), .unset, .unset]) rfl ?_
      refine XS.aload X804.here hx rfl (hb hby at_269) rfl rfl ?_
      refine XS.iconst X804.here hx rfl (hb hby at_271) ?_
      refine X804.iaload hx (j := (0 : Int32)) (v := (.int p0)) Ar810.1 (State.isArrayOf_alike hZ.alike Ar810.2.1) Ar810.2.2 hin810 hat810 (g := (mkF m 272 #[.val (.int p0), .val (.int p1), .val (.int p2), .val (.int p3), .val (.long q4), .second, .val (.int p5), .val (.int 2), .val (.double (FP.l2d ld1)), .second, .val (.double (FP.l2d ld2)), .second, .val (.double (FP.l2d ld3)), .second, .val (.double (FP.l2d ld4)), .second, .val (.ref b10), .val (.ref b25), .val (.ref b40), .val (.ref b55), .val (.ref b70), .val (.ref b85), .val (.ref b100), .val (.ref b115), .val (.ref b130), .val (.ref b145), .val (.ref b491), .val (.int 1), .unset, .unset] [(.int 0), (.ref b85)])) rfl rfl (hb hby at_272) _ ?_
      refine XS.iloadN X804.here hx rfl (hb hby at_273) rfl ?_
      refine XS.icmpNo X804.here hx rfl (hb hby at_274) rfl (teq (rfl : p0 = p0)).2 ?_
      refine XS.aload X804.here hx rfl (hb hby at_277) rfl rfl ?_
      refine XS.iconst X804.here hx rfl (hb hby at_279) ?_
      refine X804.iaload hx (j := (0 : Int32)) (v := (.int p2)) Ar812.1 (State.isArrayOf_alike hZ.alike Ar812.2.1) Ar812.2.2 hin812 hat812 (g := (mkF m 280 #[.val (.int p0), .val (.int p1), .val (.int p2), .val (.int p3), .val (.long q4), .second, .val (.int p5), .val (.int 2), .val (.double (FP.l2d ld1)), .second, .val (.double (FP.l2d ld2)), .second, .val (.double (FP.l2d ld3)), .second, .val (.double (FP.l2d ld4)), .second, .val (.ref b10), .val (.ref b25), .val (.ref b40), .val (.ref b55), .val (.ref b70), .val (.ref b85), .val (.ref b100), .val (.ref b115), .val (.ref b130), .val (.ref b145), .val (.ref b491), .val (.int 1), .unset, .unset] [(.int 0), (.ref b100)])) rfl rfl (hb hby at_280) _ ?_
      refine XS.iloadN X804.here hx rfl (hb hby at_281) rfl ?_
      refine XS.icmpNo X804.here hx rfl (hb hby at_282) rfl (teq (rfl : p2 = p2)).2 ?_
      refine XS.aload X804.here hx rfl (hb hby at_285) rfl rfl ?_
      refine XS.iconst X804.here hx rfl (hb hby at_287) ?_
      refine X804.daload hx (j := (0 : Int32)) (v := (.double (FP.l2d ld1))) Ar814.1 (State.isArrayOf_alike hZ.alike Ar814.2.1) Ar814.2.2 hin814 hat814 (g := (mkF m 288 #[.val (.int p0), .val (.int p1), .val (.int p2), .val (.int p3), .val (.long q4), .second, .val (.int p5), .val (.int 2), .val (.double (FP.l2d ld1)), .second, .val (.double (FP.l2d ld2)), .second, .val (.double (FP.l2d ld3)), .second, .val (.double (FP.l2d ld4)), .second, .val (.ref b10), .val (.ref b25), .val (.ref b40), .val (.ref b55), .val (.ref b70), .val (.ref b85), .val (.ref b100), .val (.ref b115), .val (.ref b130), .val (.ref b145), .val (.ref b491), .val (.int 1), .unset, .unset] [(.int 0), (.ref b115)])) rfl rfl (hb hby at_288) _ ?_
      refine XS.dload X804.here hx rfl (hb hby at_289) rfl ?_
      refine XS.dcmpS X804.here hx rfl (hb hby at_291) rfl (dcmpV_self (nn_w rfl) _) ?_
      refine XS.ifNo X804.here hx rfl (hb hby at_292) rfl ((if0 _ _).trans (teq (by decide : (0 : Int32) = (0 : Int32))).2) ?_
      refine XS.iload X804.here hx rfl (hb hby at_295) rfl ?_
      refine XS.ifNo X804.here hx rfl (hb hby at_297) rfl ((if0 _ _).trans (feq (by decide : ¬ ((1 : Int32) = (0 : Int32)))).1) ?_
      refine XS.aload X804.here hx rfl (hb hby at_300) rfl rfl ?_
      refine XS.iconst X804.here hx rfl (hb hby at_302) ?_
      refine X804.iaload hx (j := (1 : Int32)) (v := (.int p1)) Ar815.1 (State.isArrayOf_alike hZ.alike Ar815.2.1) Ar815.2.2 hin815 hat815 (g := (mkF m 303 #[.val (.int p0), .val (.int p1), .val (.int p2), .val (.int p3), .val (.long q4), .second, .val (.int p5), .val (.int 2), .val (.double (FP.l2d ld1)), .second, .val (.double (FP.l2d ld2)), .second, .val (.double (FP.l2d ld3)), .second, .val (.double (FP.l2d ld4)), .second, .val (.ref b10), .val (.ref b25), .val (.ref b40), .val (.ref b55), .val (.ref b70), .val (.ref b85), .val (.ref b100), .val (.ref b115), .val (.ref b130), .val (.ref b145), .val (.ref b491), .val (.int 1), .unset, .unset] [(.int 1), (.ref b85)])) rfl rfl (hb hby at_303) _ ?_
      refine XS.iloadN X804.here hx rfl (hb hby at_304) rfl ?_
      refine XS.icmpNo X804.here hx rfl (hb hby at_305) rfl (teq (rfl : p1 = p1)).2 ?_
      refine XS.aload X804.here hx rfl (hb hby at_308) rfl rfl ?_
      refine XS.iconst X804.here hx rfl (hb hby at_310) ?_
      refine X804.iaload hx (j := (1 : Int32)) (v := (.int p3)) Ar816.1 (State.isArrayOf_alike hZ.alike Ar816.2.1) Ar816.2.2 hin816 hat816 (g := (mkF m 311 #[.val (.int p0), .val (.int p1), .val (.int p2), .val (.int p3), .val (.long q4), .second, .val (.int p5), .val (.int 2), .val (.double (FP.l2d ld1)), .second, .val (.double (FP.l2d ld2)), .second, .val (.double (FP.l2d ld3)), .second, .val (.double (FP.l2d ld4)), .second, .val (.ref b10), .val (.ref b25), .val (.ref b40), .val (.ref b55), .val (.ref b70), .val (.ref b85), .val (.ref b100), .val (.ref b115), .val (.ref b130), .val (.ref b145), .val (.ref b491), .val (.int 1), .unset, .unset] [(.int 1), (.ref b100)])) rfl rfl (hb hby at_311) _ ?_
      refine XS.iloadN X804.here hx rfl (hb hby at_312) rfl ?_
      refine XS.icmpNo X804.here hx rfl (hb hby at_313) rfl (teq (rfl : p3 = p3)).2 ?_
      refine XS.aload X804.here hx rfl (hb hby at_316) rfl rfl ?_
      refine XS.iconst X804.here hx rfl (hb hby at_318) ?_
      refine X804.daload hx (j := (1 : Int32)) (v := (.double (FP.l2d ld2))) Ar817.1 (State.isArrayOf_alike hZ.alike Ar817.2.1) Ar817.2.2 hin817 hat817 (g := (mkF m 319 #[.val (.int p0), .val (.int p1), .val (.int p2), .val (.int p3), .val (.long q4), .second, .val (.int p5), .val (.int 2), .val (.double (FP.l2d ld1)), .second, .val (.double (FP.l2d ld2)), .second, .val (.double (FP.l2d ld3)), .second, .val (.double (FP.l2d ld4)), .second, .val (.ref b10), .val (.ref b25), .val (.ref b40), .val (.ref b55), .val (.ref b70), .val (.ref b85), .val (.ref b100), .val (.ref b115), .val (.ref b130), .val (.ref b145), .val (.ref b491), .val (.int 1), .unset, .unset] [(.int 1), (.ref b115)])) rfl rfl (hb hby at_319) _ ?_
      refine XS.dload X804.here hx rfl (hb hby at_320) rfl ?_
      refine XS.dcmpS X804.here hx rfl (hb hby at_322) rfl (dcmpV_self (nn_w rfl) _) ?_
      refine XS.ifNo X804.here hx rfl (hb hby at_323) rfl ((if0 _ _).trans (teq (by decide : (0 : Int32) = (0 : Int32))).2) ?_
      refine XS.goto X804.here hx rfl (pc0 := 326) (pc' := 358) rfl (hb hby at_326) (by decide) (by decide) ?_
      refine XS.iconst X804.here hx rfl (hb hby at_358) ?_
      refine XS.goto X804.here hx rfl (pc0 := 359) (pc' := 363) rfl (hb hby at_359) (by decide) (by decide) ?_
      refine XS.istore X804.here hx rfl (hb hby at_363) rfl (l' := #[.val (.int p0), .val (.int p1), .val (.int p2), .val (.int p3), .val (.long q4), .second, .val (.int p5), .val (.int 2), .val (.double (FP.l2d ld1)), .second, .val (.double (FP.l2d ld2)), .second, .val (.double (FP.l2d ld3)), .second, .val (.double (FP.l2d ld4)), .second, .val (.ref b10), .val (.ref b25), .val (.ref b40), .val (.ref b55), .val (.ref b70), .val (.ref b85), .val (.ref b100), .val (.ref b115), .val (.ref b130), .val (.ref b145), .val (.ref b491), .val (.int 1), .val (.int 1), .unset]) rfl ?_
      refine XS.aload X804.here hx rfl (hb hby at_365) rfl rfl ?_
      refine XS.iconst X804.here hx rfl (hb hby at_367) ?_
      refine X804.iaload hx (j := (0 : Int32)) (v := (.int p3)) Ar818.1 (State.isArrayOf_alike hZ.alike Ar818.2.1) Ar818.2.2 hin818 hat818 (g := (mkF m 368 #[.val (.int p0), .val (.int p1), .val (.int p2), .val (.int p3), .val (.long q4), .second, .val (.int p5), .val (.int 2), .val (.double (FP.l2d ld1)), .second, .val (.double (FP.l2d ld2)), .second, .val (.double (FP.l2d ld3)), .second, .val (.double (FP.l2d ld4)), .second, .val (.ref b10), .val (.ref b25), .val (.ref b40), .val (.ref b55), .val (.ref b70), .val (.ref b85), .val (.ref b100), .val (.ref b115), .val (.ref b130), .val (.ref b145), .val (.ref b491), .val (.int 1), .val (.int 1), .unset] [(.int 0), (.ref b130)])) rfl rfl (hb hby at_368) _ ?_
      refine XS.iloadN X804.here hx rfl (hb hby at_369) rfl ?_
      refine XS.icmpNo X804.here hx rfl (hb hby at_370) rfl (teq (rfl : p3 = p3)).2 ?_
      refine XS.aload X804.here hx rfl (hb hby at_373) rfl rfl ?_
      refine XS.iconst X804.here hx rfl (hb hby at_375) ?_
      refine X804.daload hx (j := (0 : Int32)) (v := (.double (FP.l2d ld3))) Ar819.1 (State.isArrayOf_alike hZ.alike Ar819.2.1) Ar819.2.2 hin819 hat819 (g := (mkF m 376 #[.val (.int p0), .val (.int p1), .val (.int p2), .val (.int p3), .val (.long q4), .second, .val (.int p5), .val (.int 2), .val (.double (FP.l2d ld1)), .second, .val (.double (FP.l2d ld2)), .second, .val (.double (FP.l2d ld3)), .second, .val (.double (FP.l2d ld4)), .second, .val (.ref b10), .val (.ref b25), .val (.ref b40), .val (.ref b55), .val (.ref b70), .val (.ref b85), .val (.ref b100), .val (.ref b115), .val (.ref b130), .val (.ref b145), .val (.ref b491), .val (.int 1), .val (.int 1), .unset] [(.int 0), (.ref b145)])) rfl rfl (hb hby at_376) _ ?_
      refine XS.dload X804.here hx rfl (hb hby at_377) rfl ?_
      refine XS.dcmpS X804.here hx rfl (hb hby at_379) rfl (dcmpV_self (nn_w rfl) _) ?_
      refine XS.ifNo X804.here hx rfl (hb hby at_380) rfl ((if0 _ _).trans (teq (by decide : (0 : Int32) = (0 : Int32))).2) ?_
      refine XS.iload X804.here hx rfl (hb hby at_383) rfl ?_
      refine XS.ifNo X804.here hx rfl (hb hby at_385) rfl ((if0 _ _).trans (feq (by decide : ¬ ((1 : Int32) = (0 : Int32)))).1) ?_
      refine XS.aload X804.here hx rfl (hb hby at_388) rfl rfl ?_
      refine XS.iconst X804.here hx rfl (hb hby at_390) ?_
      refine X804.iaload hx (j := (1 : Int32)) (v := (.int p2)) Ar820.1 (State.isArrayOf_alike hZ.alike Ar820.2.1) Ar820.2.2 hin820 hat820 (g := (mkF m 391 #[.val (.int p0), .val (.int p1), .val (.int p2), .val (.int p3), .val (.long q4), .second, .val (.int p5), .val (.int 2), .val (.double (FP.l2d ld1)), .second, .val (.double (FP.l2d ld2)), .second, .val (.double (FP.l2d ld3)), .second, .val (.double (FP.l2d ld4)), .second, .val (.ref b10), .val (.ref b25), .val (.ref b40), .val (.ref b55), .val (.ref b70), .val (.ref b85), .val (.ref b100), .val (.ref b115), .val (.ref b130), .val (.ref b145), .val (.ref b491), .val (.int 1), .val (.int 1), .unset] [(.int 1), (.ref b130)])) rfl rfl (hb hby at_391) _ ?_
      refine XS.iloadN X804.here hx rfl (hb hby at_392) rfl ?_
      refine XS.icmpNo X804.here hx rfl (hb hby at_393) rfl (teq (rfl : p2 = p2)).2 ?_
      refine XS.aload X804.here hx rfl (hb hby at_396) rfl rfl ?_
      refine XS.iconst X804.here hx rfl (hb hby at_398) ?_
      refine X804.daload hx (j := (1 : Int32)) (v := (.double (FP.l2d ld4))) Ar821.1 (State.isArrayOf_alike hZ.alike Ar821.2.1) Ar821.2.2 hin821 hat821 (g := (mkF m 399 #[.val (.int p0), .val (.int p1), .val (.int p2), .val (.int p3), .val (.long q4), .second, .val (.int p5), .val (.int 2), .val (.double (FP.l2d ld1)), .second, .val (.double (FP.l2d ld2)), .second, .val (.double (FP.l2d ld3)), .second, .val (.double (FP.l2d ld4)), .second, .val (.ref b10), .val (.ref b25), .val (.ref b40), .val (.ref b55), .val (.ref b70), .val (.ref b85), .val (.ref b100), .val (.ref b115), .val (.ref b130), .val (.ref b145), .val (.ref b491), .val (.int 1), .val (.int 1), .unset] [(.int 1), (.ref b145)])) rfl rfl (hb hby at_399) _ ?_
      refine XS.dload X804.here hx rfl (hb hby at_400) rfl ?_
      refine XS.dcmpS X804.here hx rfl (hb hby at_402) rfl (dcmpV_self (nn_w rfl) _) ?_
      refine XS.ifNo X804.here hx rfl (hb hby at_403) rfl ((if0 _ _).trans (teq (by decide : (0 : Int32) = (0 : Int32))).2) ?_
      refine XS.goto X804.here hx rfl (pc0 := 406) (pc' := 429) rfl (hb hby at_406) (by decide) (by decide) ?_
      refine XS.iconst X804.here hx rfl (hb hby at_429) ?_
      refine XS.goto X804.here hx rfl (pc0 := 430) (pc' := 434) rfl (hb hby at_430) (by decide) (by decide) ?_
      refine XS.istore X804.here hx rfl (hb hby at_434) rfl (l' := #[.val (.int p0), .val (.int p1), .val (.int p2), .val (.int p3), .val (.long q4), .second, .val (.int p5), .val (.int 2), .val (.double (FP.l2d ld1)), .second, .val (.double (FP.l2d ld2)), .second, .val (.double (FP.l2d ld3)), .second, .val (.double (FP.l2d ld4)), .second, .val (.ref b10), .val (.ref b25), .val (.ref b40), .val (.ref b55), .val (.ref b70), .val (.ref b85), .val (.ref b100), .val (.ref b115), .val (.ref b130), .val (.ref b145), .val (.ref b491), .val (.int 1), .val (.int 1), .val (.int 1)]) rfl ?_
      refine XS.iload X804.here hx rfl (hb hby at_436) rfl ?_
      refine XS.ifNo X804.here hx rfl (hb hby at_438) rfl ((if0 _ _).trans (feq (by decide : ¬ ((1 : Int32) = (0 : Int32)))).1) ?_
      refine XS.iload X804.here hx rfl (hb hby at_441) rfl ?_
      refine XS.ifNo X804.here hx rfl (hb hby at_443) rfl ((if0 _ _).trans (feq (by decide : ¬ ((1 : Int32) = (0 : Int32)))).1) ?_
      refine XS.iconst X804.here hx rfl (hb hby at_446) ?_
      refine XS.goto X804.here hx rfl (pc0 := 447) (pc' := 451) rfl (hb hby at_447) (by decide) (by decide) ?_
      exact kt
    refine Go.ret X804 (v := some (.int 1)) (fun h => by rw [hret] at h; cases h) hlk (fun fs hr => retN X804 hx (t := .boolean) hret (by simp) (hb hby at_451) hr) ?_ (by decide) (by decide)
    show Q0 Z p0 p1 p2 p3 q4 p5 h0 n0 _ T804.heap _
    exact ⟨rfl, N804, K807⟩
theorem comes_1 {Post : Tables → Env → Array Value → State → Outcome → State → Prop} (hpost : ∀ tb e args s v u, (limb_1_1.after args s (.returned v) u = true ∧ limb_1_2.after args s (.returned v) u = true ∧ True) → FrameEnd s (.returned v) u (Jvm.fieldLocs frame_1_writes args s ++ Jvm.arrayLocs frame_1_arrays args s ++ Jvm.staticLocs frame_1_statics s) 56 640 → Post tb e args s (.returned v) u) :
    ArmFor flags0 classFile x code maxLocals ret World_1 tables_1 room_1 Calls_1 rest_1 Pre_1 Post := by
  intro l hfl _ _ p e ha hc hk s m args below hf hA hF happ hP
  obtain ⟨hcalls, hrest, hpre⟩ := hP
  obtain ⟨-, -, -, hnamed, -, -, -, hat⟩ := (Spec.applies_iff hf).mp happ
  obtain ⟨hg, hn⟩ := and_e (Cond.before_iff.mp (show (Jvm.Cond.and given_1 narrow_1).before args s = true from hpre))
  obtain ⟨g1, g2⟩ := and_e hg
  obtain ⟨g3, g4⟩ := and_e g2
  obtain ⟨g5, g6⟩ := and_e g4
  obtain ⟨g7, g8⟩ := and_e g6
  obtain ⟨g9, g10⟩ := and_e g8
  obtain ⟨g11, g12⟩ := and_e g10
  obtain ⟨w0_, w1_, w2_, w3_, w4_, w5_, rfl⟩ : ∃ w0_ w1_ w2_ w3_ w4_ w5_ : Value, args = #[w0_, w1_, w2_, w3_, w4_, w5_] := by
    have hs : args.size = 6 := by simpa [Cond.value, given_1] using g1
    obtain ⟨L⟩ := args
    match L, hs with
    | [w0_, w1_, w2_, w3_, w4_, w5_], _ => exact ⟨w0_, w1_, w2_, w3_, w4_, w5_, rfl⟩
  have hw := fun d (hd : d ∈ tables_1) => atoms_spec (ws := Jvm.Cond.code x code maxLocals ret :: tables_1) hat d (List.mem_cons_of_mem _ hd)
  have hfit : Fit s := fun {y c} hc i hi => by
    obtain ⟨ha, rfl⟩ := Array.getElem?_eq_some_iff.mp hc
    have q := List.all_eq_true.mp ((Array.all_eq_true_iff_forall_mem.mp hF) _ (Array.getElem_mem ha)) i (List.mem_range.mpr hi)
    simpa [Array.getElem?_eq_getElem hi] using q
  obtain ⟨i0, ei0⟩ := is_v g3
  obtain rfl : w0_ = (.int i0) := Option.some.inj ei0
  obtain ⟨i1, ei1⟩ := is_v g5
  obtain rfl : w1_ = (.int i1) := Option.some.inj ei1
  obtain ⟨i2, ei2⟩ := is_v g7
  obtain rfl : w2_ = (.int i2) := Option.some.inj ei2
  obtain ⟨i3, ei3⟩ := is_v g9
  obtain rfl : w3_ = (.int i3) := Option.some.inj ei3
  obtain ⟨i4, ei4⟩ := isL_v g11
  obtain rfl : w4_ = (.long i4) := Option.some.inj ei4
  obtain ⟨i5, ei5⟩ := is_v g12
  obtain rfl : w5_ = (.int i5) := Option.some.inj ei5
  obtain ⟨n, o, h1, h2, h3, _, L, rfl, ⟨rfl, N, -⟩, hq⟩ := rm0 l s _ hw tables_1 i0 i1 i2 i3 i4 i5 s.heap s.heap.size (Nat.le_refl _) (Old.start s)  p e ha hc hk s m _ below hf ((Spec.applies_iff_loose hf).mp happ).1 ⟨rfl, State.Warmed39.refl s, rfl⟩ trivial
  refine ⟨n, _, h1, h2, h3, hpost _ _ _ _ _ _ ⟨Cond.after_iff.mpr rfl, Cond.after_iff.mpr (eq_i res_at (Term.int_eval (1)) rfl), trivial⟩ ⟨hq.1, hq.2.1, (hq.2.2.sift fun y hy => Or.inr (N y hy)).mono (by decide) (by decide)⟩⟩
theorem main_1_1 : Claimed_1_1 := comes_1 fun _ _ _ _ _ _ h hF => ⟨h.1, hF⟩
theorem main_1_2 : Claimed_1_2 := comes_1 fun _ _ _ _ _ _ h hF => ⟨h.2.1, hF⟩
end Jvm.Pilot.@@N@@
/-! witness -/
namespace Jvm.Pilot.@@N@@
open Jvm Jvm.ClassFile Sem Op Lib Jvm.Free Jvm.Stand Jvm.Pilot.@@N@@.Jvm.D
/-! MADE BY PROGRAM (witnessworld.py) out of the Statement's table words and the real class files: 13 classes; the members and pool entries that the words name. The judged class is class 1, her method 1. -/
namespace start1
open Jvm.ClassFile
def u (s : String) : CpInfo := .utf8 (stringToUtf16 s)
/-- a pool by its gaps: so many unusable entries, then the entry; so many at the end -/
def gap : Nat → List CpInfo → List CpInfo
  | 0, r => r
  | n + 1, r => .unusable :: gap n r
def poolList (es : List (Nat × CpInfo)) (last : Nat) : List CpInfo := es.foldr (fun e r => gap e.1 (e.2 :: r)) (gap last [])
def pool (es : List (Nat × CpInfo)) (last : Nat) : Array CpInfo := ⟨poolList es last⟩
def fileOf (pool : Array CpInfo) (this : Nat) (attrs : Array Attribute := #[]) (ms : Array MethodInfo := #[]) (fl : Nat := 33) (sup : Nat := 0) (ifs : Array Nat := #[]) (fds : Array FieldInfo := #[]) : ClassFile where
  minorVersion := 0
  majorVersion := 65
  constantPool := pool
  accessFlags := fl
  thisClass := this
  superClass := sup
  interfaces := ifs
  fields := fds
  methods := ms
  attributes := attrs
def plain (name : String) (sup : Option ClassId) : Class where
  name := name
  kind := .ordinary
  loader := none
  accessFlags := 33
  super := sup
  interfaces := #[]
  cf := none
  fields := #[]
  methods := #[]
  instanceTypes := #[]
  staticTypes := #[]
  resolved := #[]
  callSites := []
  init := .initialized
  statics := none
  mirror := none

def pool0 : Array CpInfo := pool [(5, u "<init>"), (0, u "()V"), (1, .class_ 10), (1, u "java/lang/Object")] 113

def k0c0 : Code := { maxStack := 0, maxLocals := 1, code := object_method_1_code, exceptionTable := #[], attributes := #[] }
def k0m0 : Method := { name := "<init>", desc := "()V", sig := { parameters := [], returnType := none }, accessFlags := 1, code := some k0c0 }
/-- java/lang/Object -/
def k0 : Class := { plain "java/lang/Object" none with
  accessFlags := 33
  interfaces := #[]
  cf := some (fileOf pool0 8 #[] #[{ accessFlags := 1, nameIndex := 5, descriptorIndex := 6, attributes := #[] }] 33 0 #[] #[])
  fields := #[]
  methods := #[k0m0]
  instanceTypes := #[]
  staticTypes := #[]
  resolved := Array.replicate 124 none
  statics := none }

def pool1 : Array CpInfo := pool [(2, .class_ 4), (1, u "java/lang/Object"), (0, u "<init>"), (0, u "()V"), (0, .double 4602678819172646912), (1, .class_ 10), (0, u "com/example/docstride/docstride/search/topk/StretchQueue"), (0, .methodref 9 12), (0, .nameAndType 5 13), (0, u "(I)V"), (0, .methodref 9 15), (0, .nameAndType 16 17), (0, u "add"), (0, u "(IIID[I[I[D)V"), (0, .methodref 9 19), (0, .nameAndType 20 21), (0, u "copy"), (0, u "(I[I[I[D)V"), (0, .class_ 23), (0, u "com/example/docstride/docstride/search/topk/StretchQueueCopyPinLaw"), (2, u "law"), (0, u "(IIIIJI)Z")] 7

def k1m0 : Method := { name := "<init>", desc := "()V", sig := { parameters := [], returnType := none }, accessFlags := 1, code := none }
def k1c1 : Code := { maxStack := 9, maxLocals := 30, code := code, exceptionTable := #[], attributes := #[] }
def k1m1 : Method := { name := "law", desc := "(IIIIJI)Z", sig := { parameters := [.int, .int, .int, .int, .long, .int], returnType := some .boolean }, accessFlags := 9, code := some k1c1 }
/-- com/example/docstride/docstride/search/topk/StretchQueueCopyPinLaw -/
def k1 : Class := { plain "com/example/docstride/docstride/search/topk/StretchQueueCopyPinLaw" (some 0) with
  accessFlags := 49
  interfaces := #[]
  cf := some (fileOf pool1 22 #[] #[{ accessFlags := 1, nameIndex := 5, descriptorIndex := 6, attributes := #[] }, { accessFlags := 9, nameIndex := 26, descriptorIndex := 27, attributes := #[] }] 49 2 #[] #[])
  fields := #[]
  methods := #[k1m0, k1m1]
  instanceTypes := #[]
  staticTypes := #[]
  resolved := Array.replicate 35 none
  statics := none }

def pool2 : Array CpInfo := pool [(1, .methodref 2 3), (0, .class_ 4), (0, .nameAndType 5 6), (0, u "java/lang/Object"), (0, u "<init>"), (0, u "()V"), (0, .class_ 8), (0, u "com/example/docstride/docstride/search/topk/StretchQueue"), (0, .fieldref 7 10), (0, .nameAndType 11 12), (0, u "starts"), (0, u "[I"), (0, .fieldref 7 14), (0, .nameAndType 15 12), (0, u "nexts"), (0, .fieldref 7 17), (0, .nameAndType 18 12), (0, u "ends"), (0, .fieldref 7 20), (0, .nameAndType 21 22), (0, u "bounds"), (0, u "[D"), (0, .fieldref 7 24), (0, .nameAndType 25 26), (0, u "windows"), (0, u "[Z"), (0, .fieldref 7 28), (0, .nameAndType 29 12), (0, u "heap"), (0, .fieldref 7 31), (0, .nameAndType 32 22), (0, u "heapBounds"), (0, .fieldref 7 34), (0, .nameAndType 35 12), (0, u "heapStarts"), (0, .fieldref 7 37), (0, .nameAndType 38 39), (0, u "count"), (0, u "I"), (0, .fieldref 7 41), (0, .nameAndType 42 12), (0, u "entries"), (0, .fieldref 7 44), (0, .nameAndType 45 12), (0, u "blocks"), (0, .fieldref 7 47), (0, .nameAndType 48 22), (0, u "parts"), (0, .fieldref 7 50), (0, .nameAndType 51 39), (0, u "size"), (0, .methodref 7 53), (0, .nameAndType 54 55), (0, u "isBefore"), (0, u "(DIDI)Z"), (0, .fieldref 7 57), (0, .nameAndType 58 39), (0, u "added"), (12, .methodref 7 72), (0, .nameAndType 73 74), (0, u "push"), (0, u "(I)V"), (4, .methodref 7 80), (0, .nameAndType 81 82), (0, u "put"), (0, u "(IDII)V"), (0, u "FIRST_ROOM"), (17, u "copy"), (0, u "(I[I[I[D)V"), (0, u "add"), (0, u "(IIID[I[I[D)V")] 7

def k2c0 : Code := { maxStack := 3, maxLocals := 2, code := prog_63_method_1_code, exceptionTable := #[], attributes := #[] }
def k2m0 : Method := { name := "<init>", desc := "(I)V", sig := { parameters := [.int], returnType := none }, accessFlags := 0, code := some k2c0 }
def k2c1 : Code := { maxStack := 5, maxLocals := 7, code := prog_63_method_9_code, exceptionTable := #[], attributes := #[] }
def k2m1 : Method := { name := "copy", desc := "(I[I[I[D)V", sig := { parameters := [.int, (.array .int), (.array .int), (.array .double)], returnType := none }, accessFlags := 0, code := some k2c1 }
def k2c2 : Code := { maxStack := 4, maxLocals := 12, code := prog_63_method_10_code, exceptionTable := #[], attributes := #[] }
def k2m2 : Method := { name := "add", desc := "(IIID[I[I[D)V", sig := { parameters := [.int, .int, .int, .double, (.array .int), (.array .int), (.array .double)], returnType := none }, accessFlags := 0, code := some k2c2 }
def k2c3 : Code := { maxStack := 7, maxLocals := 7, code := prog_63_method_12_code, exceptionTable := #[], attributes := #[] }
def k2m3 : Method := { name := "push", desc := "(I)V", sig := { parameters := [.int], returnType := none }, accessFlags := 2, code := some k2c3 }
def k2c4 : Code := { maxStack := 4, maxLocals := 6, code := prog_63_method_13_code, exceptionTable := #[], attributes := #[] }
def k2m4 : Method := { name := "isBefore", desc := "(DIDI)Z", sig := { parameters := [.double, .int, .double, .int], returnType := some .boolean }, accessFlags := 10, code := some k2c4 }
def k2c5 : Code := { maxStack := 4, maxLocals := 6, code := prog_63_method_15_code, exceptionTable := #[], attributes := #[] }
def k2m5 : Method := { name := "put", desc := "(IDII)V", sig := { parameters := [.int, .double, .int, .int], returnType := none }, accessFlags := 2, code := some k2c5 }
/-- com/example/docstride/docstride/search/topk/StretchQueue -/
def k2 : Class := { plain "com/example/docstride/docstride/search/topk/StretchQueue" (some 0) with
  accessFlags := 48
  interfaces := #[]
  cf := some (fileOf pool2 7 #[] #[{ accessFlags := 0, nameIndex := 5, descriptorIndex := 74, attributes := #[] }, { accessFlags := 0, nameIndex := 101, descriptorIndex := 102, attributes := #[] }, { accessFlags := 0, nameIndex := 103, descriptorIndex := 104, attributes := #[] }, { accessFlags := 2, nameIndex := 73, descriptorIndex := 74, attributes := #[] }, { accessFlags := 10, nameIndex := 54, descriptorIndex := 55, attributes := #[] }, { accessFlags := 2, nameIndex := 81, descriptorIndex := 82, attributes := #[] }] 48 2 #[] #[{ accessFlags := 26, nameIndex := 83, descriptorIndex := 39, attributes := #[] }, { accessFlags := 18, nameIndex := 38, descriptorIndex := 39, attributes := #[] }, { accessFlags := 2, nameIndex := 58, descriptorIndex := 39, attributes := #[] }, { accessFlags := 2, nameIndex := 11, descriptorIndex := 12, attributes := #[] }, { accessFlags := 2, nameIndex := 15, descriptorIndex := 12, attributes := #[] }, { accessFlags := 2, nameIndex := 18, descriptorIndex := 12, attributes := #[] }, { accessFlags := 2, nameIndex := 21, descriptorIndex := 22, attributes := #[] }, { accessFlags := 2, nameIndex := 25, descriptorIndex := 26, attributes := #[] }, { accessFlags := 2, nameIndex := 42, descriptorIndex := 12, attributes := #[] }, { accessFlags := 2, nameIndex := 45, descriptorIndex := 12, attributes := #[] }, { accessFlags := 2, nameIndex := 48, descriptorIndex := 22, attributes := #[] }, { accessFlags := 2, nameIndex := 51, descriptorIndex := 39, attributes := #[] }, { accessFlags := 2, nameIndex := 29, descriptorIndex := 12, attributes := #[] }, { accessFlags := 2, nameIndex := 32, descriptorIndex := 22, attributes := #[] }, { accessFlags := 2, nameIndex := 35, descriptorIndex := 12, attributes := #[] }])
  fields := #[{ name := "FIRST_ROOM", type := .int, accessFlags := 26, slot := 0, constantValue := 0 }, { name := "count", type := .int, accessFlags := 18, slot := 0, constantValue := 0 }, { name := "added", type := .int, accessFlags := 2, slot := 1, constantValue := 0 }, { name := "starts", type := (.array .int), accessFlags := 2, slot := 2, constantValue := 0 }, { name := "nexts", type := (.array .int), accessFlags := 2, slot := 3, constantValue := 0 }, { name := "ends", type := (.array .int), accessFlags := 2, slot := 4, constantValue := 0 }, { name := "bounds", type := (.array .double), accessFlags := 2, slot := 5, constantValue := 0 }, { name := "windows", type := (.array .boolean), accessFlags := 2, slot := 6, constantValue := 0 }, { name := "entries", type := (.array .int), accessFlags := 2, slot := 7, constantValue := 0 }, { name := "blocks", type := (.array .int), accessFlags := 2, slot := 8, constantValue := 0 }, { name := "parts", type := (.array .double), accessFlags := 2, slot := 9, constantValue := 0 }, { name := "size", type := .int, accessFlags := 2, slot := 10, constantValue := 0 }, { name := "heap", type := (.array .int), accessFlags := 2, slot := 11, constantValue := 0 }, { name := "heapBounds", type := (.array .double), accessFlags := 2, slot := 12, constantValue := 0 }, { name := "heapStarts", type := (.array .int), accessFlags := 2, slot := 13, constantValue := 0 }]
  methods := #[k2m0, k2m1, k2m2, k2m3, k2m4, k2m5]
  instanceTypes := #[.int, .int, (.array .int), (.array .int), (.array .int), (.array .double), (.array .boolean), (.array .int), (.array .int), (.array .double), .int, (.array .int), (.array .double), (.array .int)]
  staticTypes := #[.int]
  resolved := Array.replicate 112 none
  statics := none }

def pool3 : Array CpInfo := pool [(1, u "java/lang/Cloneable"), (0, .class_ 1), (0, u "java/lang/Object"), (0, .class_ 3)] 3

/-- java/lang/Cloneable -/
def k3 : Class := { plain "java/lang/Cloneable" (some 0) with
  accessFlags := 1537
  interfaces := #[]
  cf := some (fileOf pool3 2 #[] #[] 1537 4 #[] #[])
  fields := #[]
  methods := #[]
  instanceTypes := #[]
  staticTypes := #[]
  resolved := Array.replicate 8 none
  statics := none }

def pool4 : Array CpInfo := pool [(1, u "java/io/Serializable"), (0, .class_ 1), (0, u "java/lang/Object"), (0, .class_ 3)] 3

/-- java/io/Serializable -/
def k4 : Class := { plain "java/io/Serializable" (some 0) with
  accessFlags := 1537
  interfaces := #[]
  cf := some (fileOf pool4 2 #[] #[] 1537 4 #[] #[])
  fields := #[]
  methods := #[]
  instanceTypes := #[]
  staticTypes := #[]
  resolved := Array.replicate 8 none
  statics := none }

/-- the primitive boolean -/
def k5 : Class := { plain "boolean" none with kind := .primitive 'Z', accessFlags := 0x411 }
/-- [Z -/
def k6 : Class := { plain "[Z" (some 0) with kind := .array 5 .boolean, interfaces := #[3, 4], accessFlags := 1041 }

/-- the primitive byte -/
def k7 : Class := { plain "byte" none with kind := .primitive 'B', accessFlags := 0x411 }
/-- [B -/
def k8 : Class := { plain "[B" (some 0) with kind := .array 7 .byte, interfaces := #[3, 4], accessFlags := 1041 }

/-- the primitive double -/
def k9 : Class := { plain "double" none with kind := .primitive 'D', accessFlags := 0x411 }
/-- [D -/
def k10 : Class := { plain "[D" (some 0) with kind := .array 9 .double, interfaces := #[3, 4], accessFlags := 1041 }

/-- the primitive int -/
def k11 : Class := { plain "int" none with kind := .primitive 'I', accessFlags := 0x411 }
/-- [I -/
def k12 : Class := { plain "[I" (some 0) with kind := .array 11 .int, interfaces := #[3, 4], accessFlags := 1041 }

def heap : Heap := #[]
def classes : Array Class := #[k0, k1, k2, k3, k4, k5, k6, k7, k8, k9, k10, k11, k12]
def interned : List (Array UInt16 × Addr) := []
def slotsUsed : Nat := 0
def theMethod : MethodId := ⟨1, 1⟩
def args0 : Array Value := #[.int 5, .int 5, .int 5, .int 5, .long 5, .int 5]
def aboutOver (below : List Frame) : State where
  vm := { classes := classes, interned := interned.toArray }
  heap := heap
  slotsUsed := slotsUsed
  threads := #[{ frames := .invoking theMethod args0 :: below }]
def below0 : List Frame := [.native { method := ⟨0, 0⟩, args := #[] }]
def about1 : State := aboutOver below0
def p0 : Program := .bare "" "" ""
def e0 : Env := launch0.env 0 0 0
theorem w_frames : about1.frames = Frame.invoking theMethod args0 :: below0 := rfl
set_option maxRecDepth 65536 in
theorem w_args : argsFit about1.vm theMethod args0 = true := by decide +kernel
set_option maxRecDepth 65536 in
theorem w_heap : heapFits about1 = true := by decide +kernel
set_option maxRecDepth 65536 in
theorem w_runnable : about1.curStatus? = some .runnable := by decide +kernel
set_option maxRecDepth 65536 in
theorem w_alone : about1.alone = true := by decide +kernel
set_option maxRecDepth 65536 in
theorem w_named : about1.methodNamed? x = some theMethod := by decide +kernel
set_option maxRecDepth 65536 in
theorem w_hears : about1.hears theMethod below0 = true := by decide +kernel
set_option maxRecDepth 65536 in
theorem w_ripe : about1.ripe theMethod args0 below0 = true := by decide +kernel
theorem w_running : about1.status = .running := rfl
set_option maxRecDepth 65536 in
theorem w_room : about1.hasRoom e0.platform room_1 = true :=
  launch0.hasRoom_least _ room_1 (by decide +kernel) (by decide +kernel) (by decide +kernel) (by decide +kernel) (by decide +kernel) (by decide +kernel)
theorem allAtoms_all (ts : List Jvm.Cond) (a : Array Jvm.Value) (st : Jvm.State) : (allAtoms ts).before a st = ts.all (fun c => c.before a st) := by
  induction ts with
  | nil => rfl
  | cons c t ih =>
    show (Jvm.Cond.and c (allAtoms t)).before a st = _
    rw [Jvm.Cond.before_and, ih, List.all_cons]
def words1 : List Jvm.Cond := Jvm.Cond.code x code maxLocals ret :: tables_1
/-- a 'code' word, met by the world's own term for the bytes: nothing is compared byte by byte -/
theorem code_word {y : MethodName} {bytes : ByteArray} {mx : Nat} {rt : Option FieldType} {a : Array Value} {s : State} {m : MethodId} {meth : Method} {c : Code} (h1 : s.methodNamed? y = some m) (h2 : s.vm.method? m = some meth) (h3 : meth.code = some c) (h4 : c.code = bytes)
    (h5 : (c.maxLocals == mx && c.exceptionTable.isEmpty && decide (c.maxStack ≤ mostOperands) && decide (meth.sig.returnType = rt) && !meth.locks && decide (parseMethodDescriptor y.desc = some meth.sig)) = true) : (Jvm.Cond.code y bytes mx rt).before a s = true := by
  simp only [Bool.and_eq_true, beq_iff_eq, Bool.not_eq_true', decide_eq_true_eq] at h5
  obtain ⟨⟨⟨⟨⟨g1, g2⟩, g3⟩, g4⟩, g5⟩, g6⟩ := h5
  simp [Cond.before, Cond.holds, Cond.value, h1, h2, h3, h4, g1, g2, g3, g4, g5, g6]
def isCode : Jvm.Cond → Bool
  | .code _ _ _ _ => true
  | _ => false
theorem all_split {L : List Jvm.Cond} {P : Jvm.Cond → Bool} (h1 : L.all (fun c => isCode c || P c) = true) (h2 : ∀ c ∈ L.filter isCode, P c = true) : L.all P = true := by
  refine List.all_eq_true.mpr fun c hc => ?_
  have h := List.all_eq_true.mp h1 c hc
  rcases Bool.eq_false_or_eq_true (isCode c) with hi | hi
  · exact h2 c (List.mem_filter.mpr ⟨hc, hi⟩)
  · simpa [hi] using h
set_option maxRecDepth 65536 in
theorem w_c0 : (Jvm.Cond.code x code maxLocals ret).before args0 about1 = true := code_word (m := ⟨1, 1⟩) (meth := k1m1) (c := k1c1) (by decide +kernel) rfl rfl rfl (by decide +kernel)
set_option maxRecDepth 65536 in
theorem w_c1 : (Jvm.Cond.code ({ cls := "com/example/docstride/docstride/search/topk/StretchQueue", name := "<init>", desc := "(I)V" } : Jvm.MethodName) prog_63_method_1_code (2 : Nat) (Option.none : Option Jvm.ClassFile.FieldType)).before args0 about1 = true := code_word (m := ⟨2, 0⟩) (meth := k2m0) (c := k2c0) (by decide +kernel) rfl rfl rfl (by decide +kernel)
set_option maxRecDepth 65536 in
theorem w_c2 : (Jvm.Cond.code ({ cls := "java/lang/Object", name := "<init>", desc := "()V" } : Jvm.MethodName) object_method_1_code (1 : Nat) (Option.none : Option Jvm.ClassFile.FieldType)).before args0 about1 = true := code_word (m := ⟨0, 0⟩) (meth := k0m0) (c := k0c0) (by decide +kernel) rfl rfl rfl (by decide +kernel)
set_option maxRecDepth 65536 in
theorem w_c3 : (Jvm.Cond.code ({ cls := "com/example/docstride/docstride/search/topk/StretchQueue", name := "add", desc := "(IIID[I[I[D)V" } : Jvm.MethodName) prog_63_method_10_code (12 : Nat) (Option.none : Option Jvm.ClassFile.FieldType)).before args0 about1 = true := code_word (m := ⟨2, 2⟩) (meth := k2m2) (c := k2c2) (by decide +kernel) rfl rfl rfl (by decide +kernel)
set_option maxRecDepth 65536 in
theorem w_c4 : (Jvm.Cond.code ({ cls := "com/example/docstride/docstride/search/topk/StretchQueue", name := "push", desc := "(I)V" } : Jvm.MethodName) prog_63_method_12_code (7 : Nat) (Option.none : Option Jvm.ClassFile.FieldType)).before args0 about1 = true := code_word (m := ⟨2, 3⟩) (meth := k2m3) (c := k2c3) (by decide +kernel) rfl rfl rfl (by decide +kernel)
set_option maxRecDepth 65536 in
theorem w_c5 : (Jvm.Cond.code ({ cls := "com/example/docstride/docstride/search/topk/StretchQueue", name := "put", desc := "(IDII)V" } : Jvm.MethodName) prog_63_method_15_code (6 : Nat) (Option.none : Option Jvm.ClassFile.FieldType)).before args0 about1 = true := code_word (m := ⟨2, 5⟩) (meth := k2m5) (c := k2c5) (by decide +kernel) rfl rfl rfl (by decide +kernel)
set_option maxRecDepth 65536 in
theorem w_c6 : (Jvm.Cond.code ({ cls := "com/example/docstride/docstride/search/topk/StretchQueue", name := "isBefore", desc := "(DIDI)Z" } : Jvm.MethodName) prog_63_method_13_code (6 : Nat) (Option.some Jvm.ClassFile.FieldType.boolean)).before args0 about1 = true := code_word (m := ⟨2, 4⟩) (meth := k2m4) (c := k2c4) (by decide +kernel) rfl rfl rfl (by decide +kernel)
set_option maxRecDepth 65536 in
theorem w_c7 : (Jvm.Cond.code ({ cls := "com/example/docstride/docstride/search/topk/StretchQueue", name := "copy", desc := "(I[I[I[D)V" } : Jvm.MethodName) prog_63_method_9_code (7 : Nat) (Option.none : Option Jvm.ClassFile.FieldType)).before args0 about1 = true := code_word (m := ⟨2, 1⟩) (meth := k2m1) (c := k2c1) (by decide +kernel) rfl rfl rfl (by decide +kernel)
def codes1 : List Jvm.Cond := [Jvm.Cond.code x code maxLocals ret, Jvm.Cond.code ({ cls := "com/example/docstride/docstride/search/topk/StretchQueue", name := "<init>", desc := "(I)V" } : Jvm.MethodName) prog_63_method_1_code (2 : Nat) (Option.none : Option Jvm.ClassFile.FieldType), Jvm.Cond.code ({ cls := "java/lang/Object", name := "<init>", desc := "()V" } : Jvm.MethodName) object_method_1_code (1 : Nat) (Option.none : Option Jvm.ClassFile.FieldType), Jvm.Cond.code ({ cls := "com/example/docstride/docstride/search/topk/StretchQueue", name := "add", desc := "(IIID[I[I[D)V" } : Jvm.MethodName) prog_63_method_10_code (12 : Nat) (Option.none : Option Jvm.ClassFile.FieldType), Jvm.Cond.code ({ cls := "com/example/docstride/docstride/search/topk/StretchQueue", name := "push", desc := "(I)V" } : Jvm.MethodName) prog_63_method_12_code (7 : Nat) (Option.none : Option Jvm.ClassFile.FieldType), Jvm.Cond.code ({ cls := "com/example/docstride/docstride/search/topk/StretchQueue", name := "put", desc := "(IDII)V" } : Jvm.MethodName) prog_63_method_15_code (6 : Nat) (Option.none : Option Jvm.ClassFile.FieldType), Jvm.Cond.code ({ cls := "com/example/docstride/docstride/search/topk/StretchQueue", name := "isBefore", desc := "(DIDI)Z" } : Jvm.MethodName) prog_63_method_13_code (6 : Nat) (Option.some Jvm.ClassFile.FieldType.boolean), Jvm.Cond.code ({ cls := "com/example/docstride/docstride/search/topk/StretchQueue", name := "copy", desc := "(I[I[I[D)V" } : Jvm.MethodName) prog_63_method_9_code (7 : Nat) (Option.none : Option Jvm.ClassFile.FieldType)]
set_option maxRecDepth 65536 in
theorem codes_eq : words1.filter isCode = codes1 := rfl
theorem w_codes : ∀ c ∈ words1.filter isCode, c.before args0 about1 = true := by
  rw [codes_eq]
  intro c hc
  simp only [codes1, List.mem_cons, List.not_mem_nil, or_false] at hc
  rcases hc with rfl | rfl | rfl | rfl | rfl | rfl | rfl | rfl
  · exact w_c0
  · exact w_c1
  · exact w_c2
  · exact w_c3
  · exact w_c4
  · exact w_c5
  · exact w_c6
  · exact w_c7
set_option maxRecDepth 65536 in
theorem w_t1 : (words1.take 24).all (fun c => isCode c || c.before args0 about1) = true := by decide +kernel
set_option maxRecDepth 65536 in
theorem w_t2 : ((words1.drop 24).take 24).all (fun c => isCode c || c.before args0 about1) = true := by decide +kernel
set_option maxRecDepth 65536 in
theorem w_t3 : ((words1.drop 24).drop 24).all (fun c => isCode c || c.before args0 about1) = true := by decide +kernel
theorem w_tables : (allAtoms (Jvm.Cond.code x code maxLocals ret :: tables_1)).before args0 about1 = true := by
  rw [allAtoms_all]
  show words1.all (fun c => c.before args0 about1) = true
  refine all_split ?_ w_codes
  rw [← List.take_append_drop 24 words1, List.all_append, w_t1, ← List.take_append_drop 24 (words1.drop 24), List.all_append, w_t2, w_t3]
  rfl
set_option maxRecDepth 65536 in
theorem w_case : (Jvm.Cond.and given_1 narrow_1).before args0 about1 = true := by decide +kernel
theorem w_applies : (headSpec (Jvm.Cond.code x code maxLocals ret :: tables_1) room_1).applies x e0.platform about1 = true :=
  (Spec.applies_iff w_frames).mpr ⟨w_running, w_runnable, w_alone, w_named, w_hears, w_ripe, w_room, w_tables⟩
set_option maxRecDepth 200000 in
theorem atStart : AtStart classFile x code maxLocals ret World_1 tables_1 room_1 Calls_1 rest_1 Pre_1 launch0 p0 e0 about1 theMethod args0 below0 :=
  ⟨lists_1, trivial, launch0.admits_env _ _ _, launch0.least_env, fairChoices_fair.cas, fairChoices_fair.clock, w_frames, w_args, w_heap, w_applies, trivial, trivial, w_case⟩
end start1
theorem witness_1 : WitnessClaimed_1 := ⟨start1.p0, start1.e0, start1.about1, start1.theMethod, start1.args0, start1.below0, start1.atStart⟩
end Jvm.Pilot.@@N@@
