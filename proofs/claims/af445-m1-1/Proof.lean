import JvmDerived
import JvmDerived.Pilot.@@N@@Statement
import JvmDerived.Pilot.@@N@@Code
set_option linter.unusedVariables false
set_option linter.unusedSimpArgs false
@@BLOCK:NumsL.lean.txt@@
namespace Jvm.RoadKit
open Sem ClassFile Op Lib Jvm.Stand Jvm.Free Jvm.LawKit
section Go
variable {p : Program} {l : Launch} {e : Env} {R : Room} {s : State} {m : MethodId} {args : Array Value} {below : List Frame} {meth : Method} {c : Code} {T : State} {locs : List Loc} {cells slots : Nat} {Z : State} {a0 : Array Value} {h : Heap}
/-- the run from U comes to its return, and leaves what Qv says -/
def Go (p : Program) (e : Env) (below : List Frame) (s : State) (R : Room) (Qv : Option Value → Heap → List Loc → Prop) (U : State) : Prop :=
  ∃ s₂ o, Steps p.tables e below U s₂ ∧ s₂.status = .running ∧ Ended s₂ below o ∧ ∃ v L, o = .returned v ∧ Qv v s₂.heap L ∧ FrameEnd s o s₂ L R.cells R.slots
variable {Qv : Option Value → Heap → List Loc → Prop} {U V : State}
theorem Go.st (h : ∀ t, Steps p.tables e below U t → Steps p.tables e below V t) (k : Go p e below s R Qv U) : Go p e below s R Qv V := by
  obtain ⟨t, o, h1, r⟩ := k
  exact ⟨t, o, h t h1, r⟩
theorem Go.ret (X : Stand p l e R s m args below meth c T locs cells slots) (hlk : meth.locks = false) {v : Option Value} (hv : meth.sig.returnType = none → v = none) (hc : cells ≤ R.cells) (hs : slots ≤ R.slots) (hq : Qv v T.heap locs)
    (st : ∀ fs, (∀ (f : JFrame) (acts : List Action), f.method = m → f.locked = none → f.entered = [] → (doReturn e (T.setTop f) acts v).1 = T.setFrames fs) → Steps p.tables e below V (T.setFrames fs)) : Go p e below s R Qv V := by
  obtain ⟨fs, hr, hrun, hended, hW, hsame⟩ := X.leave (v := v) hv hlk
  exact ⟨_, _, st fs hr, hrun, hended, _, _, rfl, hq, ⟨_, rfl⟩, hW, hsame.mono hc hs⟩
theorem Go.retD (X : Stand p l e R s m args below meth c T locs cells slots) (hx : p.tables.exec = Jvm.exec) (hlk : meth.locks = false) (hret : meth.sig.returnType = some .double) {pc : Nat} {Ls : Array Slot} {z : UInt64} {rest : List Value} (hd : decode c.code pc = .ok (.dreturn, 1)) (hc : cells ≤ R.cells) (hs : slots ≤ R.slots)
    (hq : Qv (some (.double z)) T.heap locs) : Go p e below s R Qv (T.setTop (mkF m pc Ls (.double z :: rest))) :=
  Go.ret X hlk (v := some (.double z)) (fun q => by rw [hret] at q; cases q) hc hs hq fun fs hr => retOut X hx hret rfl (Or.inr (Or.inr (Or.inl ⟨rfl, rfl, _, rfl⟩))) hd hr
theorem Go.retJ (X : Stand p l e R s m args below meth c T locs cells slots) (hx : p.tables.exec = Jvm.exec) (hlk : meth.locks = false) (hret : meth.sig.returnType = some .long) {pc : Nat} {Ls : Array Slot} {z : Int64} {rest : List Value} (hd : decode c.code pc = .ok (.lreturn, 1)) (hc : cells ≤ R.cells) (hs : slots ≤ R.slots)
    (hq : Qv (some (.long z)) T.heap locs) : Go p e below s R Qv (T.setTop (mkF m pc Ls (.long z :: rest))) :=
  Go.ret X hlk (v := some (.long z)) (fun q => by rw [hret] at q; cases q) hc hs hq fun fs hr => retOut X hx hret rfl (Or.inr (Or.inl ⟨rfl, rfl, _, rfl⟩)) hd hr
theorem Go.retI (X : Stand p l e R s m args below meth c T locs cells slots) (hx : p.tables.exec = Jvm.exec) (hlk : meth.locks = false) (hret : meth.sig.returnType = some .int) {pc : Nat} {Ls : Array Slot} {z : Int32} {rest : List Value} (hd : decode c.code pc = .ok (.ireturn, 1)) (hc : cells ≤ R.cells) (hs : slots ≤ R.slots)
    (hq : Qv (some (.int z)) T.heap locs) : Go p e below s R Qv (T.setTop (mkF m pc Ls (.int z :: rest))) :=
  Go.ret X hlk (v := some (.int z)) (fun q => by rw [hret] at q; cases q) hc hs hq fun fs hr => retOut X hx hret rfl (Or.inl ⟨rfl, Or.inl rfl, _, rfl⟩) hd hr
theorem Go.retZ (X : Stand p l e R s m args below meth c T locs cells slots) (hx : p.tables.exec = Jvm.exec) (hlk : meth.locks = false) (hret : meth.sig.returnType = some .boolean) {pc : Nat} {Ls : Array Slot} {z : Int32} {rest : List Value} (hd : decode c.code pc = .ok (.ireturn, 1)) (hc : cells ≤ R.cells) (hs : slots ≤ R.slots)
    (hq : Qv (some (.int (nar .boolean z))) T.heap locs) : Go p e below s R Qv (T.setTop (mkF m pc Ls (.int z :: rest))) :=
  Go.ret X hlk (v := some (.int (nar .boolean z))) (fun q => by rw [hret] at q; cases q) hc hs hq fun fs hr => retN X hx hret (Or.inl rfl) hd hr
theorem Go.retV (X : Stand p l e R s m args below meth c T locs cells slots) (hx : p.tables.exec = Jvm.exec) (hlk : meth.locks = false) (hret : meth.sig.returnType = none) {pc : Nat} {Ls : Array Slot} {st : List Value} (hd : decode c.code pc = .ok (.return_, 1)) (hc : cells ≤ R.cells) (hs : slots ≤ R.slots)
    (hq : Qv none T.heap locs) : Go p e below s R Qv (T.setTop (mkF m pc Ls [])) :=
  Go.ret X hlk (v := none) (fun _ => rfl) hc hs hq fun fs hr => X.returnOut hx hret hd hr
theorem Go.callS (X : Stand p l e R s m args below meth c T locs cells slots) (hx : p.tables.exec = Jvm.exec) (hZ : Z.Warmed39 s.vm) {own : String} {index : Nat} {y : MethodName} {bytes : ByteArray} {maxL : Nat} {ret : Option FieldType} (hown : s.vm.findClass own = some m.cls)
    (w1 : (Cond.methodLink own index y).before a0 Z = true) (w2 : (Cond.static y).before a0 Z = true) (w3 : (Cond.initialized y.cls).before a0 Z = true) (w4 : (Cond.code y bytes maxL ret).before a0 Z = true) (hy : y.cls ≠ "java/lang/invoke/MethodHandle" ∧ y.cls ≠ "java/lang/invoke/VarHandle")
    {rm : Room} {as' : Array Value} {Q : Option Value → Heap → List Loc → Prop}
    (hM : MetFree l y (head1 [Cond.code y bytes maxL ret] rm) (fun a U => a = as' ∧ Z.Warmed39 U.vm ∧ U.heap = h) (fun _ _ _ _ _ => True) (fun _ U o U' => ∃ v L, o = .returned v ∧ Q v U'.heap L ∧ FrameEnd U o U' L rm.cells rm.slots))
    (eT : T.heap = h) (W : Nat) (hf : rm.frames + 1 ≤ R.frames) (hl : W + (maxL + 11) + rm.locals ≤ R.locals) {g : JFrame} (hg : g.method = m) (hsize : g.locals.size = c.maxLocals) (argsL rest : List Value) (ha : as' = argsL.toArray)
    (hlen : ∀ sig, parseMethodDescriptor y.desc = some sig → argsL.length = sig.parameters.length) (hst : g.stack = argsL.reverse ++ rest) (hW : 2 * g.monitorRoom + (rest.map fun v => v.category).sum ≤ W) (hd : decode c.code g.pc = .ok (.invokestatic index, 3)) (hc : cells + rm.cells ≤ R.cells) (hs : slots + rm.slots ≤ R.slots)
    (k : ∀ v T' L, Q v T'.heap L → Stand p l e R s m args below meth c T' (locs ++ L) (cells + rm.cells) (slots + rm.slots) → Go p e below s R Qv (T'.setTop { g with pc := g.pc + 3, stack := v.toList ++ rest })) : Go p e below s R Qv (T.setTop g) := by
  subst ha
  obtain ⟨v, vm1, ⟨T', L', c', n'⟩, -, X', ⟨L, hQ, l1, y1, z1⟩, st⟩ := Jvm.LawKit.callS X hx hown (mvT hZ w1) (mvT hZ w2) (mvT hZ w3) (mvT hZ w4) hy (backOf (W := W) hM hZ w4 w3 hf hl) hg hsize (argsL := argsL) (rest := rest) hlen hst hW hd (fun _ _ => ⟨rfl, eT, hc, hs⟩)
  dsimp only [Pt.U, Pt.locs, Pt.cells, Pt.slots] at X' l1 y1 z1 st hQ
  subst l1 y1 z1
  exact Go.st st (k v T' L hQ X')
theorem Go.callI (X : Stand p l e R s m args below meth c T locs cells slots) (hx : p.tables.exec = Jvm.exec) (hZ : Z.Warmed39 s.vm) {own : String} {index : Nat} {y : MethodName} {bytes : ByteArray} {maxL : Nat} (hown : s.vm.findClass own = some m.cls) (hy1 : y.name = "<init>")
    (w1 : (Cond.methodLink own index y).before a0 Z = true) (w2 : (Cond.instanceMethod y).before a0 Z = true) (w3 : (Cond.initialized y.cls).before a0 Z = true) (w4 : (Cond.code y bytes maxL none).before a0 Z = true) (hy : y.cls ≠ "java/lang/invoke/MethodHandle" ∧ y.cls ≠ "java/lang/invoke/VarHandle")
    {rm : Room} {as' : Array Value} {Q : Option Value → Heap → List Loc → Prop}
    (hM : MetFree l y (head1 [Cond.code y bytes maxL none] rm) (fun a U => a = as' ∧ Z.Warmed39 U.vm ∧ U.heap = h) (fun _ _ _ _ _ => True) (fun _ U o U' => ∃ v L, o = .returned v ∧ Q v U'.heap L ∧ FrameEnd U o U' L rm.cells rm.slots))
    (eT : T.heap = h) (W : Nat) (hf : rm.frames + 1 ≤ R.frames) (hl : W + (maxL + 11) + rm.locals ≤ R.locals) {g : JFrame} (hg : g.method = m) (hsize : g.locals.size = c.maxLocals) (a : Addr) (argsL rest : List Value) (ha : as' = (.ref a :: argsL).toArray)
    (hlen : ∀ sig, parseMethodDescriptor y.desc = some sig → argsL.length = sig.parameters.length) (hst : g.stack = argsL.reverse ++ .ref a :: rest) (hW : 2 * g.monitorRoom + (rest.map fun v => v.category).sum ≤ W) (hd : decode c.code g.pc = .ok (.invokespecial index, 3)) (hc : cells + rm.cells ≤ R.cells) (hs : slots + rm.slots ≤ R.slots)
    (k : ∀ v T' L, Q v T'.heap L → Stand p l e R s m args below meth c T' (locs ++ L) (cells + rm.cells) (slots + rm.slots) → Go p e below s R Qv (T'.setTop { g with pc := g.pc + 3, stack := v.toList ++ rest })) : Go p e below s R Qv (T.setTop g) := by
  subst ha
  obtain ⟨v, vm1, ⟨T', L', c', n'⟩, -, X', ⟨L, hQ, l1, y1, z1⟩, st⟩ := X.specialBack hx hy1 hown (mvT hZ w1) (mvT hZ w2) (mvT hZ w4) hy (backOf (W := W) hM hZ w4 w3 hf hl) hg hsize (Steps.refl _) (a := a) (argsL := argsL) (rest := rest) hlen hst hW hd (fun _ _ => ⟨rfl, eT, hc, hs⟩)
  dsimp only [Pt.U, Pt.locs, Pt.cells, Pt.slots] at X' l1 y1 z1 st hQ
  subst l1 y1 z1
  exact Go.st (fun t k => st.trans k) (k v T' L hQ X')
theorem Go.callV (X : Stand p l e R s m args below meth c T locs cells slots) (hx : p.tables.exec = Jvm.exec) (hZ : Z.Warmed39 s.vm) {own C : String} {index : Nat} {y : MethodName} {bytes : ByteArray} {maxL : Nat} {ret : Option FieldType} (hown : s.vm.findClass own = some m.cls)
    (w1 : (Cond.methodLink own index y).before a0 Z = true) (w2 : (Cond.declares y).before a0 Z = true) (w5 : (Cond.selects C y y).before a0 Z = true) (w6 : (Cond.instanceMethod y).before a0 Z = true) (w3 : (Cond.initialized y.cls).before a0 Z = true) (w4 : (Cond.code y bytes maxL ret).before a0 Z = true) (hy : y.cls ≠ "java/lang/invoke/MethodHandle" ∧ y.cls ≠ "java/lang/invoke/VarHandle")
    {rm : Room} {as' : Array Value} {Q : Option Value → Heap → List Loc → Prop}
    (hM : MetFree l y (head1 [Cond.code y bytes maxL ret] rm) (fun a U => a = as' ∧ Z.Warmed39 U.vm ∧ U.heap = h) (fun _ _ _ _ _ => True) (fun _ U o U' => ∃ v L, o = .returned v ∧ Q v U'.heap L ∧ FrameEnd U o U' L rm.cells rm.slots))
    (eT : T.heap = h) (a : Addr) (E : Exa Z h a C) (W : Nat) (hf : rm.frames + 1 ≤ R.frames) (hl : W + (maxL + 11) + rm.locals ≤ R.locals) {g : JFrame} (hg : g.method = m) (hsize : g.locals.size = c.maxLocals) (argsL rest : List Value) (ha : as' = (.ref a :: argsL).toArray)
    (hlen : ∀ sig, parseMethodDescriptor y.desc = some sig → argsL.length = sig.parameters.length) (hst : g.stack = argsL.reverse ++ .ref a :: rest) (hW : 2 * g.monitorRoom + (rest.map fun v => v.category).sum ≤ W) (hd : decode c.code g.pc = .ok (.invokevirtual index, 3)) (hc : cells + rm.cells ≤ R.cells) (hs : slots + rm.slots ≤ R.slots)
    (k : ∀ v T' L, Q v T'.heap L → Stand p l e R s m args below meth c T' (locs ++ L) (cells + rm.cells) (slots + rm.slots) → Go p e below s R Qv (T'.setTop { g with pc := g.pc + 3, stack := v.toList ++ rest })) : Go p e below s R Qv (T.setTop g) := by
  subst ha
  obtain ⟨cB, kB, q1, q2, q3⟩ := isOf hZ eT E
  obtain ⟨v, vm1, ⟨T', L', c', n'⟩, -, X', ⟨L, hQ, l1, y1, z1⟩, st⟩ := X.virtualBack hx hown (mvT hZ w1) (mvT hZ w2) (notFace_of_selects (args := #[]) (mvT hZ w5)) (mvT hZ w5) (mvT hZ w6) hy (backOf (W := W) hM hZ w4 w3 hf hl) q1 q3 hg hsize (Steps.refl _) (argsL := argsL) (rest := rest) hlen hst hW hd (fun _ _ => ⟨rfl, eT, hc, hs⟩)
  dsimp only [Pt.U, Pt.locs, Pt.cells, Pt.slots] at X' l1 y1 z1 st hQ
  subst l1 y1 z1
  exact Go.st (fun t k => st.trans k) (k v T' L hQ X')
/-- a body's contract, by its walk -/
theorem Go.met {y : MethodName} {bytes : ByteArray} {maxL : Nat} {ret : Option FieldType} {ws : List Cond} {rm : Room} {as' : Array Value} {Q : Option Value → Heap → List Loc → Prop} (hn : plainFor y = true)
    (body : ∀ (p : Program) (e : Env) (s : State) (m : MethodId) (below : List Frame) (meth : Method) (c : Code) (s₁ : State), p.tables.exec = Jvm.exec → c.code = bytes → c.maxLocals = maxL → s.vm.findClass y.cls = some m.cls → meth.name = y.name → meth.sig.returnType = ret → meth.locks = false → Z.Warmed39 s.vm → s₁.heap = h →
      Stand p l e rm s m as' below meth c s₁ [] 0 0 → Go p e below s rm Q (s₁.setTop (entryFrame m as' maxL))) :
    MetFree l y (head1 (Cond.code y bytes maxL ret :: ws) rm) (fun a U => a = as' ∧ Z.Warmed39 U.vm ∧ U.heap = h) (fun _ _ _ _ _ => True) (fun _ U o U' => ∃ v L, o = .returned v ∧ Q v U'.heap L ∧ FrameEnd U o U' L rm.cells rm.slots) := by
  refine MetFree.of_bodySF hn hisR ?_
  intro p e s m args below meth c s₁ Bd hml hP hK
  obtain ⟨rfl, hZ, hh⟩ := hP
  exact body p e s m below meth c s₁ Bd.exec Bd.bytes hml (findClass_of_methodNamed Bd.named) (name_of_methodNamed Bd.named Bd.method).1 Bd.returns Bd.notSynchronized hZ (by rw [← hh, Bd.state]; rfl) (Stand.of_body Bd)
theorem Keep.size_le {h0 h : Heap} {ws : List Addr} (K : Keep h0 h ws) : h0.size ≤ h.size := K.1
theorem Go.cast {g g' : JFrame} (q : g = g') (k : Go p e below s R Qv (T.setTop g')) : Go p e below s R Qv (T.setTop g) := q ▸ k
end Go
end Jvm.RoadKit
namespace Jvm.RoadKit
open Sem ClassFile Op Lib Jvm.Stand Jvm.Free Jvm.LawKit
section GoW
variable {p : Program} {l : Launch} {e : Env} {R : Room} {s b : State} {m : MethodId} {args : Array Value} {below : List Frame} {meth : Method} {c : Code} {T : State} {locs : List Loc} {cells slots : Nat} {Z : State} {a0 : Array Value} {h : Heap} {vm0 : Vm} {k0 : Nat}
/-- as Go, of a run that may intern literals -/
def GoW (p : Program) (e : Env) (below : List Frame) (s : State) (R : Room) (Qv : Option Value → Heap → List Loc → Prop) (U : State) : Prop :=
  ∃ s₂ o, Steps p.tables e below U s₂ ∧ s₂.status = .running ∧ Ended s₂ below o ∧ ∃ v L, o = .returned v ∧ Qv v s₂.heap L ∧ ReturnedEndW s o s₂ L R.cells R.slots
variable {Qv : Option Value → Heap → List Loc → Prop} {U V : State}
theorem GoW.st (h : ∀ t, Steps p.tables e below U t → Steps p.tables e below V t) (k : GoW p e below s R Qv U) : GoW p e below s R Qv V := by
  obtain ⟨t, o, h1, r⟩ := k
  exact ⟨t, o, h t h1, r⟩
theorem GoW.ret (X : Stand p l e R (s.setVm vm0) m args below meth c T locs cells slots) (hS : s.Since vm0 k0) (hk : k0 ≤ T.heap.size) (hlk : meth.locks = false) {v : Option Value} (hv : meth.sig.returnType = none → v = none) (hc : cells ≤ R.cells) (hs : slots ≤ R.slots) (hq : Qv v T.heap locs)
    (st : ∀ fs, (∀ (f : JFrame) (acts : List Action), f.method = m → f.locked = none → f.entered = [] → (doReturn e (T.setTop f) acts v).1 = T.setFrames fs) → Steps p.tables e below V (T.setFrames fs)) : GoW p e below s R Qv V := by
  obtain ⟨fs, hr, hrun, hended, h1, h2, h3, h4⟩ := X.leaveW hS hk (v := v) hv hlk
  exact ⟨_, _, st fs hr, hrun, hended, _, _, rfl, hq, h1, h2, h3, h4.mono hc hs⟩
theorem GoW.retZ (X : Stand p l e R (s.setVm vm0) m args below meth c T locs cells slots) (hS : s.Since vm0 k0) (hk : k0 ≤ T.heap.size) (hx : p.tables.exec = Jvm.exec) (hlk : meth.locks = false) (hret : meth.sig.returnType = some .boolean) {pc : Nat} {Ls : Array Slot} {z : Int32} {rest : List Value} (hd : decode c.code pc = .ok (.ireturn, 1)) (hc : cells ≤ R.cells) (hs : slots ≤ R.slots)
    (hq : Qv (some (.int (nar .boolean z))) T.heap locs) : GoW p e below s R Qv (T.setTop (mkF m pc Ls (.int z :: rest))) :=
  GoW.ret X hS hk hlk (v := some (.int (nar .boolean z))) (fun q => by rw [hret] at q; cases q) hc hs hq fun fs hr => retN X hx hret (Or.inl rfl) hd hr
theorem GoW.retV (X : Stand p l e R (s.setVm vm0) m args below meth c T locs cells slots) (hS : s.Since vm0 k0) (hk : k0 ≤ T.heap.size) (hx : p.tables.exec = Jvm.exec) (hlk : meth.locks = false) (hret : meth.sig.returnType = none) {pc : Nat} {Ls : Array Slot} {st : List Value} (hd : decode c.code pc = .ok (.return_, 1)) (hc : cells ≤ R.cells) (hs : slots ≤ R.slots)
    (hq : Qv none T.heap locs) : GoW p e below s R Qv (T.setTop (mkF m pc Ls [])) :=
  GoW.ret X hS hk hlk (v := none) (fun _ => rfl) hc hs hq fun fs hr => X.returnOut hx hret hd hr
theorem GoW.callS (X : Stand p l e R b m args below meth c T locs cells slots) (hx : p.tables.exec = Jvm.exec) (hZ : Z.Warmed39 b.vm) {own : String} {index : Nat} {y : MethodName} {bytes : ByteArray} {maxL : Nat} {ret : Option FieldType} (hown : b.vm.findClass own = some m.cls)
    (w1 : (Cond.methodLink own index y).before a0 Z = true) (w2 : (Cond.static y).before a0 Z = true) (w3 : (Cond.initialized y.cls).before a0 Z = true) (w4 : (Cond.code y bytes maxL ret).before a0 Z = true) (hy : y.cls ≠ "java/lang/invoke/MethodHandle" ∧ y.cls ≠ "java/lang/invoke/VarHandle")
    {rm : Room} {as' : Array Value} {Q : Option Value → Heap → List Loc → Prop}
    (hM : MetFree l y (head1 [Cond.code y bytes maxL ret] rm) (fun a U => a = as' ∧ Z.Warmed39 U.vm ∧ U.heap = h) (fun _ _ _ _ _ => True) (fun _ U o U' => ∃ v L, o = .returned v ∧ Q v U'.heap L ∧ FrameEnd U o U' L rm.cells rm.slots))
    (eT : T.heap = h) (W : Nat) (hf : rm.frames + 1 ≤ R.frames) (hl : W + (maxL + 11) + rm.locals ≤ R.locals) {g : JFrame} (hg : g.method = m) (hsize : g.locals.size = c.maxLocals) (argsL rest : List Value) (ha : as' = argsL.toArray)
    (hlen : ∀ sig, parseMethodDescriptor y.desc = some sig → argsL.length = sig.parameters.length) (hst : g.stack = argsL.reverse ++ rest) (hW : 2 * g.monitorRoom + (rest.map fun v => v.category).sum ≤ W) (hd : decode c.code g.pc = .ok (.invokestatic index, 3)) (hc : cells + rm.cells ≤ R.cells) (hs : slots + rm.slots ≤ R.slots)
    (k : ∀ v T' L, Q v T'.heap L → Stand p l e R b m args below meth c T' (locs ++ L) (cells + rm.cells) (slots + rm.slots) → GoW p e below s R Qv (T'.setTop { g with pc := g.pc + 3, stack := v.toList ++ rest })) : GoW p e below s R Qv (T.setTop g) := by
  subst ha
  obtain ⟨v, vm1, ⟨T', L', c', n'⟩, -, X', ⟨L, hQ, l1, y1, z1⟩, st⟩ := Jvm.LawKit.callS X hx hown (mvT hZ w1) (mvT hZ w2) (mvT hZ w3) (mvT hZ w4) hy (backOf (W := W) hM hZ w4 w3 hf hl) hg hsize (argsL := argsL) (rest := rest) hlen hst hW hd (fun _ _ => ⟨rfl, eT, hc, hs⟩)
  dsimp only [Pt.U, Pt.locs, Pt.cells, Pt.slots] at X' l1 y1 z1 st hQ
  subst l1 y1 z1
  exact GoW.st st (k v T' L hQ X')
theorem GoW.callI (X : Stand p l e R b m args below meth c T locs cells slots) (hx : p.tables.exec = Jvm.exec) (hZ : Z.Warmed39 b.vm) {own : String} {index : Nat} {y : MethodName} {bytes : ByteArray} {maxL : Nat} (hown : b.vm.findClass own = some m.cls) (hy1 : y.name = "<init>")
    (w1 : (Cond.methodLink own index y).before a0 Z = true) (w2 : (Cond.instanceMethod y).before a0 Z = true) (w3 : (Cond.initialized y.cls).before a0 Z = true) (w4 : (Cond.code y bytes maxL none).before a0 Z = true) (hy : y.cls ≠ "java/lang/invoke/MethodHandle" ∧ y.cls ≠ "java/lang/invoke/VarHandle")
    {rm : Room} {as' : Array Value} {Q : Option Value → Heap → List Loc → Prop}
    (hM : MetFree l y (head1 [Cond.code y bytes maxL none] rm) (fun a U => a = as' ∧ Z.Warmed39 U.vm ∧ U.heap = h) (fun _ _ _ _ _ => True) (fun _ U o U' => ∃ v L, o = .returned v ∧ Q v U'.heap L ∧ FrameEnd U o U' L rm.cells rm.slots))
    (eT : T.heap = h) (W : Nat) (hf : rm.frames + 1 ≤ R.frames) (hl : W + (maxL + 11) + rm.locals ≤ R.locals) {g : JFrame} (hg : g.method = m) (hsize : g.locals.size = c.maxLocals) (a : Addr) (argsL rest : List Value) (ha : as' = (.ref a :: argsL).toArray)
    (hlen : ∀ sig, parseMethodDescriptor y.desc = some sig → argsL.length = sig.parameters.length) (hst : g.stack = argsL.reverse ++ .ref a :: rest) (hW : 2 * g.monitorRoom + (rest.map fun v => v.category).sum ≤ W) (hd : decode c.code g.pc = .ok (.invokespecial index, 3)) (hc : cells + rm.cells ≤ R.cells) (hs : slots + rm.slots ≤ R.slots)
    (k : ∀ v T' L, Q v T'.heap L → Stand p l e R b m args below meth c T' (locs ++ L) (cells + rm.cells) (slots + rm.slots) → GoW p e below s R Qv (T'.setTop { g with pc := g.pc + 3, stack := v.toList ++ rest })) : GoW p e below s R Qv (T.setTop g) := by
  subst ha
  obtain ⟨v, vm1, ⟨T', L', c', n'⟩, -, X', ⟨L, hQ, l1, y1, z1⟩, st⟩ := X.specialBack hx hy1 hown (mvT hZ w1) (mvT hZ w2) (mvT hZ w4) hy (backOf (W := W) hM hZ w4 w3 hf hl) hg hsize (Steps.refl _) (a := a) (argsL := argsL) (rest := rest) hlen hst hW hd (fun _ _ => ⟨rfl, eT, hc, hs⟩)
  dsimp only [Pt.U, Pt.locs, Pt.cells, Pt.slots] at X' l1 y1 z1 st hQ
  subst l1 y1 z1
  exact GoW.st (fun t k => st.trans k) (k v T' L hQ X')
theorem GoW.callV (X : Stand p l e R b m args below meth c T locs cells slots) (hx : p.tables.exec = Jvm.exec) (hZ : Z.Warmed39 b.vm) {own C : String} {index : Nat} {y : MethodName} {bytes : ByteArray} {maxL : Nat} {ret : Option FieldType} (hown : b.vm.findClass own = some m.cls)
    (w1 : (Cond.methodLink own index y).before a0 Z = true) (w2 : (Cond.declares y).before a0 Z = true) (w5 : (Cond.selects C y y).before a0 Z = true) (w6 : (Cond.instanceMethod y).before a0 Z = true) (w3 : (Cond.initialized y.cls).before a0 Z = true) (w4 : (Cond.code y bytes maxL ret).before a0 Z = true) (hy : y.cls ≠ "java/lang/invoke/MethodHandle" ∧ y.cls ≠ "java/lang/invoke/VarHandle")
    {rm : Room} {as' : Array Value} {Q : Option Value → Heap → List Loc → Prop}
    (hM : MetFree l y (head1 [Cond.code y bytes maxL ret] rm) (fun a U => a = as' ∧ Z.Warmed39 U.vm ∧ U.heap = h) (fun _ _ _ _ _ => True) (fun _ U o U' => ∃ v L, o = .returned v ∧ Q v U'.heap L ∧ FrameEnd U o U' L rm.cells rm.slots))
    (eT : T.heap = h) (a : Addr) (E : Exa Z h a C) (W : Nat) (hf : rm.frames + 1 ≤ R.frames) (hl : W + (maxL + 11) + rm.locals ≤ R.locals) {g : JFrame} (hg : g.method = m) (hsize : g.locals.size = c.maxLocals) (argsL rest : List Value) (ha : as' = (.ref a :: argsL).toArray)
    (hlen : ∀ sig, parseMethodDescriptor y.desc = some sig → argsL.length = sig.parameters.length) (hst : g.stack = argsL.reverse ++ .ref a :: rest) (hW : 2 * g.monitorRoom + (rest.map fun v => v.category).sum ≤ W) (hd : decode c.code g.pc = .ok (.invokevirtual index, 3)) (hc : cells + rm.cells ≤ R.cells) (hs : slots + rm.slots ≤ R.slots)
    (k : ∀ v T' L, Q v T'.heap L → Stand p l e R b m args below meth c T' (locs ++ L) (cells + rm.cells) (slots + rm.slots) → GoW p e below s R Qv (T'.setTop { g with pc := g.pc + 3, stack := v.toList ++ rest })) : GoW p e below s R Qv (T.setTop g) := by
  subst ha
  obtain ⟨cB, kB, q1, q2, q3⟩ := isOf hZ eT E
  obtain ⟨v, vm1, ⟨T', L', c', n'⟩, -, X', ⟨L, hQ, l1, y1, z1⟩, st⟩ := X.virtualBack hx hown (mvT hZ w1) (mvT hZ w2) (notFace_of_selects (args := #[]) (mvT hZ w5)) (mvT hZ w5) (mvT hZ w6) hy (backOf (W := W) hM hZ w4 w3 hf hl) q1 q3 hg hsize (Steps.refl _) (argsL := argsL) (rest := rest) hlen hst hW hd (fun _ _ => ⟨rfl, eT, hc, hs⟩)
  dsimp only [Pt.U, Pt.locs, Pt.cells, Pt.slots] at X' l1 y1 z1 st hQ
  subst l1 y1 z1
  exact GoW.st (fun t k => st.trans k) (k v T' L hQ X')
/-- a constructor that may intern, by its contract -/
theorem GoW.callIW (X : Stand p l e R (s.setVm vm0) m args below meth c T locs cells slots) (hS : s.Since vm0 k0) (hk : k0 ≤ h.size) (hx : p.tables.exec = Jvm.exec) (hZ : Z.Warmed39 (s.setVm vm0).vm) {own : String} {index : Nat} {y : MethodName} {bytes : ByteArray} {maxL : Nat} (hown : (s.setVm vm0).vm.findClass own = some m.cls) (hy1 : y.name = "<init>")
    (w1 : (Cond.methodLink own index y).before a0 Z = true) (w2 : (Cond.instanceMethod y).before a0 Z = true) (w3 : (Cond.initialized y.cls).before a0 Z = true) (w4 : (Cond.code y bytes maxL none).before a0 Z = true) (hy : y.cls ≠ "java/lang/invoke/MethodHandle" ∧ y.cls ≠ "java/lang/invoke/VarHandle")
    {rm : Room} {as' : Array Value} {Q : Option Value → Heap → List Loc → Prop}
    (hM : MetFree l y (head1 [Cond.code y bytes maxL none] rm) (fun a U => a = as' ∧ Z.Warmed39 U.vm ∧ U.heap = h) (fun _ _ _ _ _ => True) (fun _ U o U' => ∃ v L, o = .returned v ∧ Q v U'.heap L ∧ ReturnedEndW U o U' L rm.cells rm.slots))
    (eT : T.heap = h) (W : Nat) (hf : rm.frames + 1 ≤ R.frames) (hl : W + (maxL + 11) + rm.locals ≤ R.locals) {g : JFrame} (hg : g.method = m) (hsize : g.locals.size = c.maxLocals) (a : Addr) (argsL rest : List Value) (ha : as' = (.ref a :: argsL).toArray)
    (hlen : ∀ sig, parseMethodDescriptor y.desc = some sig → argsL.length = sig.parameters.length) (hst : g.stack = argsL.reverse ++ .ref a :: rest) (hW : 2 * g.monitorRoom + (rest.map fun v => v.category).sum ≤ W) (hd : decode c.code g.pc = .ok (.invokespecial index, 3)) (hc : cells + rm.cells ≤ R.cells) (hs : slots + rm.slots ≤ R.slots)
    (k : ∀ v T' L, Q v T'.heap L → Stand p l e R (s.setVm T'.vm) m args below meth c T' (locs ++ L) (cells + rm.cells) (slots + rm.slots) → s.Since T'.vm T'.heap.size → Z.Warmed39 (s.setVm T'.vm).vm → (s.setVm T'.vm).vm.findClass own = some m.cls → GoW p e below s R Qv (T'.setTop { g with pc := g.pc + 3, stack := v.toList ++ rest })) : GoW p e below s R Qv (T.setTop g) := by
  subst ha
  obtain ⟨v, vm1, ⟨T', L', c', n'⟩, -, X', hS', hgr, ⟨L, hQ, l1, y1, z1⟩, st⟩ := X.specialBackS hx hy1 hown (mvT hZ w1) (mvT hZ w2) (mvT hZ w4) hy (backOfS (W := W) hM hZ w4 w3 hf hl) hg hsize (Steps.refl _) (a := a) (argsL := argsL) (rest := rest) hlen hst hW hd (fun _ _ => ⟨rfl, eT, hc, hs⟩)
  dsimp only [Pt.U, Pt.locs, Pt.cells, Pt.slots] at X' hS' hgr l1 y1 z1 st hQ
  subst l1 y1 z1
  obtain ⟨X2, hS2, hZ2, hown2⟩ := rebS (own := own) (n1 := T.heap.size) (n := T'.heap.size) hS (by rw [eT]; exact hk) X' hS' hgr hZ hown
  exact GoW.st (fun t k => st.trans k) (k v T' L hQ X2 hS2 hZ2 hown2)
/-- a body's contract, by its walk -/
theorem GoW.met {y : MethodName} {bytes : ByteArray} {maxL : Nat} {ret : Option FieldType} {ws : List Cond} {rm : Room} {as' : Array Value} {Q : Option Value → Heap → List Loc → Prop} (hn : plainFor y = true)
    (body : ∀ (p : Program) (e : Env) (s : State) (m : MethodId) (below : List Frame) (meth : Method) (c : Code) (s₁ : State), p.tables.exec = Jvm.exec → c.code = bytes → c.maxLocals = maxL → (s.setVm s.vm).vm.findClass y.cls = some m.cls → meth.name = y.name → meth.sig.returnType = ret → meth.locks = false → Z.Warmed39 (s.setVm s.vm).vm → s₁.heap = h →
      Stand p l e rm (s.setVm s.vm) m as' below meth c s₁ [] 0 0 → s.Since s.vm 0 → GoW p e below s rm Q (s₁.setTop (entryFrame m as' maxL))) :
    MetFree l y (head1 (Cond.code y bytes maxL ret :: ws) rm) (fun a U => a = as' ∧ Z.Warmed39 U.vm ∧ U.heap = h) (fun _ _ _ _ _ => True) (fun _ U o U' => ∃ v L, o = .returned v ∧ Q v U'.heap L ∧ ReturnedEndW U o U' L rm.cells rm.slots) := by
  refine MetFree.of_bodySF hn hisR ?_
  intro p e s m args below meth c s₁ Bd hml hP hK
  obtain ⟨rfl, hZ, hh⟩ := hP
  exact body p e s m below meth c s₁ Bd.exec Bd.bytes hml (findClass_of_methodNamed Bd.named) (name_of_methodNamed Bd.named Bd.method).1 Bd.returns Bd.notSynchronized hZ (by rw [← hh, Bd.state]; rfl) (Stand.of_body Bd) ((State.WarmedH.refl s).since 0)
theorem GoW.cast {g g' : JFrame} (q : g = g') (k : GoW p e below s R Qv (T.setTop g')) : GoW p e below s R Qv (T.setTop g) := q ▸ k
end GoW
end Jvm.RoadKit
namespace Jvm.RoadKit
open Sem ClassFile Op Lib Jvm.Stand Jvm.Free Jvm.LawKit Jvm.Free.Fl
section GoFin
variable {p : Program} {l : Launch} {e : Env} {R : Room} {s : State} {m : MethodId} {args : Array Value} {below : List Frame} {meth : Method} {c : Code} {T : State} {locs : List Loc} {cells slots : Nat} {Z : State} {a0 : Array Value} {h : Heap} {Qv : Option Value → Heap → List Loc → Prop}
/-- Double.isFinite of a finite double, by the library's own law -/
theorem Go.isFin (X : Stand p l e R s m args below meth c T locs cells slots) (hx : p.tables.exec = Jvm.exec) (hZ : Z.Warmed39 s.vm) {own : String} {index : Nat} {b1 b2 : ByteArray} (hown : s.vm.findClass own = some m.cls)
    (w1 : (Cond.methodLink own index IsFinite.yN).before a0 Z = true) (w2 : (Cond.static IsFinite.yN).before a0 Z = true) (w3 : (Cond.initialized DC).before a0 Z = true) (w4 : (Cond.code IsFinite.yN b1 2 (some .boolean)).before a0 Z = true) (eb1 : b1 = IsFinite.yB)
    (u1 : (Cond.methodLink DC 38 Abs.absDN).before a0 Z = true) (u2 : (Cond.static Abs.absDN).before a0 Z = true) (u3 : (Cond.initialized "java/lang/Math").before a0 Z = true) (u4 : (Cond.code Abs.absDN b2 2 (some .double)).before a0 Z = true) (eb2 : b2 = Abs.absDCode) (u5 : (Cond.constantDouble DC 111 maxD).before a0 Z = true)
    {v : UInt64} (hf : Fin64 v) (eT : T.heap = h) (W : Nat) (hfr : 1 + 1 ≤ R.frames) (hlo : W + (2 + 11) + 13 ≤ R.locals) {g : JFrame} (hg : g.method = m) (hsize : g.locals.size = c.maxLocals) (rest : List Value) (hst : g.stack = .double v :: rest) (hW : 2 * g.monitorRoom + (rest.map fun v => v.category).sum ≤ W)
    (hd : decode c.code g.pc = .ok (.invokestatic index, 3)) (hc : cells ≤ R.cells) (hs : slots ≤ R.slots)
    (k : ∀ T', T'.heap = h → Stand p l e R s m args below meth c T' locs cells slots → Go p e below s R Qv (T'.setTop { g with pc := g.pc + 3, stack := .int 1 :: rest })) : Go p e below s R Qv (T.setTop g) := by
  subst eb1 eb2
  have htab : IsFinite.tab.before args s = true := by
    unfold IsFinite.tab
    simp only [Cond.before_and, Bool.and_eq_true]
    exact ⟨mvT hZ w4, mvT hZ u1, mvT hZ u2, mvT hZ u3, mvT hZ u4, mvT hZ u5⟩
  obtain ⟨vv, vm1, ⟨T', L', c', n'⟩, -, X', ⟨⟨h1, h2, h3, h4⟩, hv⟩, st⟩ := Jvm.LawKit.callS X hx hown (mvT hZ w1) (mvT hZ w2) (mvT hZ w3) (mvT hZ w4) (by decide) (IsFinite.pays (W := W) hfr hlo htab (mvT hZ w3)) hg hsize (argsL := [.double v]) (rest := rest) (fun sig q => by
    have : parseMethodDescriptor IsFinite.yN.desc = some ⟨[.double], some .boolean⟩ := by decide +kernel
    rw [this] at q; cases q; rfl) hst hW hd (fun _ _ => ⟨hc, hs, v, rfl, hf.noNaN⟩)
  dsimp only [Pt.U, Pt.locs, Pt.cells, Pt.slots] at X' h1 h2 h3 h4 st
  subst h2 h3 h4
  have e1 := hv v ⟨rfl, hf.noNaN⟩
  rw [if_pos ((le_max_iff hf.noNaN).mpr hf)] at e1
  subst e1
  exact Go.st st (k T' (h1.trans eT) X')
end GoFin
end Jvm.RoadKit
namespace Jvm.OwnFl
open Jvm Jvm.FP Jvm.FP.Core Jvm.Free.Fl Op
/-- a double as a whole number of the least doubles -/
abbrev zv (a : UInt64) : Int := zval b64 (val64 a)
theorem zv_def (a : UInt64) : zv a = zval b64 (val64 a) := rfl
theorem nn_int {i : Int} {a : UInt64} (h : DInt i a) : NoNaN64 a := val64_no.mpr (DInt_ne_nan h)
theorem nn_fin {a : UInt64} (h : DFin a) : NoNaN64 a := val64_no.mpr h.ne_nan
theorem fin_int {i : Int} {a : UInt64} (h : DInt i a) : DFin a := by
  unfold DInt at h
  cases hv : val64 a with
  | nan => rw [hv] at h; exact h.elim
  | inf s => rw [hv] at h; exact h.elim
  | fin s c q => exact ⟨s, c, q, hv⟩
/-! what a comparison pushes -/
theorem cv_lt {a b : UInt64} (ha : NoNaN64 a) (hb : NoNaN64 b) (h : zv a < zv b) (o : ClassFile.CmpOp) : cmpValue (FP.dcmp a b) o = -1 := by
  rw [show FP.dcmp a b = some .lt by
    show Core.dcmp a b = _
    rw [dcmp_zval (val64_no.mp ha) (val64_no.mp hb)]; exact congrArg some ((compare_lt_iff _ _).mpr h)]
  cases o <;> rfl
theorem cv_eq {a b : UInt64} (ha : NoNaN64 a) (hb : NoNaN64 b) (h : zv a = zv b) (o : ClassFile.CmpOp) : cmpValue (FP.dcmp a b) o = 0 := by
  rw [show FP.dcmp a b = some .eq by
    show Core.dcmp a b = _
    rw [dcmp_zval (val64_no.mp ha) (val64_no.mp hb)]; exact congrArg some ((compare_eq_iff _ _).mpr h)]
  cases o <;> rfl
theorem cv_gt {a b : UInt64} (ha : NoNaN64 a) (hb : NoNaN64 b) (h : zv b < zv a) (o : ClassFile.CmpOp) : cmpValue (FP.dcmp a b) o = 1 := by
  rw [show FP.dcmp a b = some .gt by
    show Core.dcmp a b = _
    rw [dcmp_zval (val64_no.mp ha) (val64_no.mp hb)]; exact congrArg some ((compare_gt_iff _ _).mpr h)]
  cases o <;> rfl
theorem cv_ge {a b : UInt64} (ha : NoNaN64 a) (hb : NoNaN64 b) (h : zv b ≤ zv a) (o : ClassFile.CmpOp) : ¬ (cmpValue (FP.dcmp a b) o < 0) := by
  rcases Int.lt_or_eq_of_le h with h | h
  · rw [cv_gt ha hb h o]; decide
  · rw [cv_eq ha hb h.symm o]; decide
theorem cv_le {a b : UInt64} (ha : NoNaN64 a) (hb : NoNaN64 b) (h : zv a ≤ zv b) (o : ClassFile.CmpOp) : ¬ (0 < cmpValue (FP.dcmp a b) o) := by
  rcases Int.lt_or_eq_of_le h with h | h
  · rw [cv_lt ha hb h o]; decide
  · rw [cv_eq ha hb h o]; decide
theorem cv_lt' {a b : UInt64} (ha : NoNaN64 a) (hb : NoNaN64 b) (h : zv a < zv b) (o : ClassFile.CmpOp) : cmpValue (FP.dcmp a b) o < 0 := by rw [cv_lt ha hb h o]; decide
theorem cv_gt' {a b : UInt64} (ha : NoNaN64 a) (hb : NoNaN64 b) (h : zv b < zv a) (o : ClassFile.CmpOp) : 0 < cmpValue (FP.dcmp a b) o := by rw [cv_gt ha hb h o]; decide
theorem cv_ne {a b : UInt64} (ha : NoNaN64 a) (hb : NoNaN64 b) (h : zv a ≠ zv b) (o : ClassFile.CmpOp) : ¬ (cmpValue (FP.dcmp a b) o = 0) := by
  rcases Int.lt_or_gt_of_ne h with h | h
  · rw [cv_lt ha hb h o]; decide
  · rw [cv_gt ha hb h o]; decide
/-! what lcmp pushes -/
theorem lc_eq {x y : Int64} : Jvm.RoadKit.lcmpW x y = 0 ↔ x.toInt = y.toInt := by
  rw [Int64.toInt_inj]
  unfold Jvm.RoadKit.lcmpW
  by_cases h : x > y
  · rw [if_pos h]; constructor
    · intro h1; exact absurd h1 (by decide)
    · rintro rfl; exact absurd h (Int64.lt_irrefl)
  · rw [if_neg h]
    by_cases h2 : x = y
    · rw [if_pos h2]; simp [h2]
    · rw [if_neg h2]; constructor
      · intro h1; exact absurd h1 (by decide)
      · intro h1; exact absurd h1 h2
theorem lc_gt {x y : Int64} : 0 < Jvm.RoadKit.lcmpW x y ↔ y.toInt < x.toInt := by
  rw [← Int64.lt_iff_toInt_lt]
  unfold Jvm.RoadKit.lcmpW
  by_cases h : x > y
  · rw [if_pos h]; exact ⟨fun _ => h, fun _ => by decide⟩
  · rw [if_neg h]
    by_cases h2 : x = y
    · rw [if_pos h2]; exact ⟨fun h1 => absurd h1 (by decide), fun h1 => absurd h1 h⟩
    · rw [if_neg h2]; exact ⟨fun h1 => absurd h1 (by decide), fun h1 => absurd h1 h⟩
theorem lc_lt {x y : Int64} : Jvm.RoadKit.lcmpW x y < 0 ↔ x.toInt < y.toInt := by
  by_cases h : x > y
  · have h3 := Int64.lt_iff_toInt_lt.mp h
    unfold Jvm.RoadKit.lcmpW
    rw [if_pos h]; exact ⟨fun h1 => absurd h1 (by decide), fun h1 => by omega⟩
  · have h3 : ¬ (y.toInt < x.toInt) := fun q => h (Int64.lt_iff_toInt_lt.mpr q)
    unfold Jvm.RoadKit.lcmpW
    rw [if_neg h]
    by_cases h2 : x = y
    · rw [if_pos h2]; subst h2; exact ⟨fun h1 => absurd h1 (by decide), fun h1 => by omega⟩
    · rw [if_neg h2]
      have h4 : x.toInt ≠ y.toInt := fun q => h2 (Int64.toInt_inj.mp q)
      exact ⟨fun _ => by omega, fun _ => by decide⟩
/-! whole numbers -/
theorem zv_int {i : Int} {a : UInt64} (h : DInt i a) : zv a = i * (one64 : Int) := DInt_zval h
theorem one_pos : (0 : Int) < (one64 : Int) := Int.ofNat_lt.mpr one64_pos
theorem cvi_eq {i j : Int} {a b : UInt64} (ha : DInt i a) (hb : DInt j b) (h : i = j) (o : ClassFile.CmpOp) : cmpValue (FP.dcmp a b) o = 0 :=
  cv_eq (nn_int ha) (nn_int hb) (by rw [zv_int ha, zv_int hb, h]) o
theorem cvi_lt {i j : Int} {a b : UInt64} (ha : DInt i a) (hb : DInt j b) (h : i < j) (o : ClassFile.CmpOp) : cmpValue (FP.dcmp a b) o = -1 :=
  cv_lt (nn_int ha) (nn_int hb) (by rw [zv_int ha, zv_int hb]; exact Int.mul_lt_mul_of_pos_right h one_pos) o
theorem cvi_gt {i j : Int} {a b : UInt64} (ha : DInt i a) (hb : DInt j b) (h : j < i) (o : ClassFile.CmpOp) : cmpValue (FP.dcmp a b) o = 1 :=
  cv_gt (nn_int ha) (nn_int hb) (by rw [zv_int ha, zv_int hb]; exact Int.mul_lt_mul_of_pos_right h one_pos) o
theorem zint : DInt 0 (0 : UInt64) := by unfold DInt; rw [val64_zero]; show signed false (0 * _) = 0 * _; simp [signed]
theorem l2dI {x : Int64} (h1 : -9007199254740992 ≤ x.toInt) (h2 : x.toInt ≤ 9007199254740992) : DInt x.toInt (FP.l2d x) := l2d_int (by omega)
theorem i2dI (x : Int32) : DInt x.toInt (FP.i2d x) := i2d_int x
theorem mulI {i j : Int} {a b : UInt64} (ha : DInt i a) (hb : DInt j b) (h : (i * j).natAbs ≤ 9007199254740992) : DInt (i * j) (FP.dmul a b) := dmul_int ha hb h
theorem addI {i j : Int} {a b : UInt64} (ha : DInt i a) (hb : DInt j b) (h : (i + j).natAbs ≤ 9007199254740992) : DInt (i + j) (FP.dadd a b) := dadd_int ha hb h
theorem subI {i j : Int} {a b : UInt64} (ha : DInt i a) (hb : DInt j b) (h : (i - j).natAbs ≤ 9007199254740992) : DInt (i - j) (FP.dsub a b) := dsub_int ha hb h
theorem absMul {i j : Int} {A B : Nat} (h1 : i.natAbs ≤ A) (h2 : j.natAbs ≤ B) : (i * j).natAbs ≤ A * B := by rw [Int.natAbs_mul]; exact Nat.mul_le_mul h1 h2
end Jvm.OwnFl
namespace Jvm.OwnFl
open Jvm Jvm.FP Jvm.FP.Core Jvm.Free.Fl Op
/-! ROUNDING: rz A B: the double nearest A / B, as a whole number of the least doubles -/
def rz (A B : Nat) : Nat := zmag b64 (roundRatio b64 false A B 0)
/-- v least doubles are a double -/
def Rep (v : Nat) : Prop := ∃ c q, Core.fits b64 (.fin false c q) ∧ inUnits c q b64.qmin = v
theorem qz : b64.qmin = -1074 := by decide
theorem rep_of {c k : Nat} (hc : c < 2 ^ 53) (hk : k ≤ 2045) : Rep (c * 2 ^ k) := by
  obtain ⟨c', q', h1, h2⟩ := round_exact good_b64 false (c := c) (q := b64.qmin + k) hc (by omega) (by have : b64.qmax = 971 := by decide
                                                                                                       rw [qz, this]; omega)
  refine ⟨c', q', ?_, ?_⟩
  · rw [← h1]; exact round_fits good_b64 _
  · rw [h2]; unfold inUnits; rw [show (b64.qmin + (k : Int) - b64.qmin).toNat = k by omega]
theorem rep_le {n k : Nat} (hn : n ≤ 2 ^ 53) (hk : k ≤ 2044) : Rep (n * 2 ^ k) := by
  rcases Nat.lt_or_eq_of_le hn with h | h
  · exact rep_of h (by omega)
  · have := rep_of (c := 2 ^ 52) (k := k + 1) (by decide) (by omega)
    rw [h]; rw [Nat.pow_succ] at this
    rw [show (2 : Nat) ^ 53 * 2 ^ k = 2 ^ 52 * (2 ^ k * 2) by rw [show (2 : Nat) ^ 53 = 2 ^ 52 * 2 from rfl]; grind]
    exact this
theorem rep_int {n : Nat} (hn : n ≤ 2 ^ 53) : Rep (n * one64) := rep_le hn (by decide)
theorem inU (A : Nat) : inUnits A 0 b64.qmin = A * one64 := by
  unfold inUnits; rw [← pow_qmin64, show (0 - b64.qmin : Int) = -b64.qmin by omega]
theorem rz_le {A B v : Nat} (hB : 0 < B) (hv : Rep v) (h : A * one64 ≤ v * B) : rz A B ≤ v := by
  obtain ⟨c, q, hf, rfl⟩ := hv
  refine zmag_roundRatio_le good_b64 hB hf (by simp) (e0 := b64.qmin) (Int.le_refl _) (by rw [qz]; decide) ?_
  rw [inU, show (b64.qmin - b64.qmin : Int).toNat = 0 by omega, Nat.pow_zero, Nat.mul_one]
  exact h
theorem rz_ge {A B v : Nat} (hB : 0 < B) (hv : Rep v) (h : v * B ≤ A * one64) : v ≤ rz A B := by
  obtain ⟨c, q, hf, rfl⟩ := hv
  refine zmag_roundRatio_ge good_b64 hB hf (e0 := b64.qmin) (Int.le_refl _) (by rw [qz]; decide) ?_
  rw [inU, show (b64.qmin - b64.qmin : Int).toNat = 0 by omega, Nat.pow_zero, Nat.mul_one]
  exact h
theorem rz_exact {A B v : Nat} (hB : 0 < B) (hv : Rep v) (h : A * one64 = v * B) : rz A B = v :=
  Nat.le_antisymm (rz_le hB hv (Nat.le_of_eq h)) (rz_ge hB hv (Nat.le_of_eq h.symm))
theorem rz_congr {A B A' B' : Nat} (hB : 0 < B) (hB' : 0 < B') (h : A * B' = A' * B) : rz A B = rz A' B' := by
  unfold rz
  rw [roundRatio_congr (f := b64) (s := false) (e := 0) (e' := 0) hB hB' (by simpa using h)]
theorem rz_zero (B : Nat) : rz 0 B = 0 := by
  unfold rz roundRatio; simp [zmag, inUnits]
theorem zmag_sign (s : Bool) (A B : Nat) (e : Int) : zmag b64 (roundRatio b64 s A B e) = zmag b64 (roundRatio b64 false A B e) := by
  unfold roundRatio roundAt settle bound
  split
  · rfl
  · split
    · split <;> rfl
    · split <;> rfl
/-- the quotient of two finite doubles -/
theorem val_ddiv {a b : UInt64} (ha : DFin a) (hb : DFin b) (h0 : zv b ≠ 0) :
    ∃ s A B, 0 < B ∧ zv a = signed (sgn (val64 a)) A ∧ zv b = signed (sgn (val64 b)) B ∧ s = (sgn (val64 a) != sgn (val64 b)) ∧ val64 (FP.ddiv a b) = roundRatio b64 s A B 0 := by
  obtain ⟨s, c, q, e1⟩ := ha
  obtain ⟨t, d, r, e2⟩ := hb
  have f1 := val64_fits a
  have f2 := val64_fits b
  have hzb : zv b = signed t (inUnits d r b64.qmin) := by rw [zv_def, e2]; rfl
  have hd : d ≠ 0 := by
    intro hd; apply h0; rw [hzb, hd]; unfold inUnits; rw [Nat.zero_mul, signed_zero]
  rw [e1] at f1; rw [e2] at f2
  have q1 := f1.2.1; have q2 := f2.2.1
  refine ⟨s != t, inUnits c q b64.qmin, inUnits d r b64.qmin, Nat.mul_pos (Nat.pos_of_ne_zero hd) (Nat.two_pow_pos _), by rw [zv_def, e1]; rfl, by rw [zv_def, e2]; rfl, by rw [e1, e2]; rfl, ?_⟩
  show val64 (Core.ddiv a b) = _
  rw [val64_ddiv, e1, e2]
  show (if d = 0 then _ else roundRatio b64 (s != t) c d (q - r)) = _
  rw [if_neg hd]
  refine roundRatio_congr (Nat.pos_of_ne_zero hd) (Nat.mul_pos (Nat.pos_of_ne_zero hd) (Nat.two_pow_pos _)) ?_
  unfold inUnits
  have e3 : (r - b64.qmin).toNat + (q - r - 0).toNat = (q - b64.qmin).toNat + (0 - (q - r)).toNat := by omega
  rw [show c * (d * 2 ^ (r - b64.qmin).toNat) * 2 ^ (q - r - 0).toNat = c * d * (2 ^ (r - b64.qmin).toNat * 2 ^ (q - r - 0).toNat) by grind, ← Nat.pow_add, e3, Nat.pow_add]
  grind
theorem zv_round (s : Bool) (A B : Nat) : zval b64 (roundRatio b64 s A B 0) = signed s (rz A B) := by
  unfold zval; rw [sgn_roundRatio, zmag_sign]; rfl
theorem nn_ddiv {a b : UInt64} (ha : DFin a) (hb : DFin b) (h0 : zv b ≠ 0) : NoNaN64 (FP.ddiv a b) := by
  obtain ⟨s, A, B, -, -, -, -, h⟩ := val_ddiv ha hb h0
  refine val64_no.mpr ?_
  rw [h]; exact roundRatio_ne_nan _ _ _ _ _
/-- where both are positive, or the dividend nought -/
theorem zv_ddiv {a b : UInt64} {A B : Nat} (ha : DFin a) (hb : DFin b) (h1 : zv a = (A : Int)) (h2 : zv b = (B : Int)) (hB : 0 < B) : zv (FP.ddiv a b) = (rz A B : Int) := by
  obtain ⟨s, A', B', p, q1, q2, hs, h⟩ := val_ddiv ha hb (by omega)
  have e1 : A' = A := by
    have := natAbs_signed (sgn (val64 a)) A'
    rw [← q1, h1] at this; omega
  have e2 : B' = B := by
    have := natAbs_signed (sgn (val64 b)) B'
    rw [← q2, h2] at this; omega
  subst e1 e2
  rw [zv_def, h, zv_round]
  by_cases z : A' = 0
  · subst z; rw [rz_zero, signed_zero]; rfl
  · have s1 : sgn (val64 a) = false := by
      cases hq : sgn (val64 a) with
      | false => rfl
      | true => rw [hq, h1] at q1; simp only [signed, if_true] at q1; omega
    have s2 : sgn (val64 b) = false := by
      cases hq : sgn (val64 b) with
      | false => rfl
      | true => rw [hq, h2] at q2; simp only [signed, if_true] at q2; omega
    rw [hs, s1, s2]; rfl
/-- the quotient of two whole numbers, the divisor positive -/
theorem zv_divI {i j : Nat} {a b : UInt64} (ha : DInt i a) (hb : DInt j b) (hj : 0 < j) : zv (FP.ddiv a b) = (rz i j : Int) := by
  have h1 : zv a = ((i * one64 : Nat) : Int) := by rw [zv_int ha]; rfl
  have h2 : zv b = ((j * one64 : Nat) : Int) := by rw [zv_int hb]; rfl
  rw [zv_ddiv (fin_int ha) (fin_int hb) h1 h2 (Nat.mul_pos hj one64_pos)]
  exact congrArg Int.ofNat (rz_congr (Nat.mul_pos hj one64_pos) hj (by grind))
theorem nn_divI {i j : Int} {a b : UInt64} (ha : DInt i a) (hb : DInt j b) (hj : j ≠ 0) : NoNaN64 (FP.ddiv a b) :=
  nn_ddiv (fin_int ha) (fin_int hb) (by rw [zv_int hb]; have := one_pos; intro h; rcases Int.mul_eq_zero.mp h with h | h <;> omega)
theorem sgn_key {k : Int} {t : Bool} {K : Nat} (hk : k * (one64 : Int) = signed t K) (h0 : k ≠ 0) : t = decide (k < 0) := by
  rcases Int.lt_or_gt_of_ne h0 with h | h
  · have h1 := Int.mul_neg_of_neg_of_pos h one_pos
    cases t with
    | true => simp [h]
    | false => rw [hk] at h1; simp only [signed] at h1; exfalso; simp at h1; omega
  · have h1 := Int.mul_pos h one_pos
    cases t with
    | false => simp; omega
    | true => rw [hk] at h1; simp only [signed, if_true] at h1; exfalso; omega
/-- the quotient of two whole numbers, by their signs -/
theorem zv_divS {i j : Int} {a b : UInt64} (ha : DInt i a) (hb : DInt j b) (hj : j ≠ 0) : ((0 ≤ i ∧ 0 < j) ∨ (i ≤ 0 ∧ j < 0) → zv (FP.ddiv a b) = (rz i.natAbs j.natAbs : Int)) ∧ ((0 ≤ i ∧ j < 0) ∨ (i ≤ 0 ∧ 0 < j) → zv (FP.ddiv a b) = -(rz i.natAbs j.natAbs : Int)) := by
  have hz : zv b ≠ 0 := by rw [zv_int hb]; have := one_pos; intro h; rcases Int.mul_eq_zero.mp h with h | h <;> omega
  obtain ⟨s, A, B, hB, h1, h2, hs, h⟩ := val_ddiv (fin_int ha) (fin_int hb) hz
  rw [zv_int ha] at h1; rw [zv_int hb] at h2
  have eA : i.natAbs * one64 = A := by have := congrArg Int.natAbs h1; rw [natAbs_signed, Int.natAbs_mul, Int.natAbs_natCast] at this; exact this
  have eB : j.natAbs * one64 = B := by have := congrArg Int.natAbs h2; rw [natAbs_signed, Int.natAbs_mul, Int.natAbs_natCast] at this; exact this
  have hr : rz A B = rz i.natAbs j.natAbs := by subst eA eB; exact rz_congr hB (by omega) (by generalize one64 = o; ac_rfl)
  have hv : zv (FP.ddiv a b) = signed s (rz A B) := by rw [zv_def, h, zv_round]
  have sb := sgn_key h2 hj
  by_cases hi : i = 0
  · have : rz A B = 0 := by rw [hr, hi]; exact rz_zero _
    rw [hv, this, signed_zero]
    rw [this] at hr
    omega
  · have sa := sgn_key h1 hi
    rw [sa, sb] at hs
    rw [hv, hr, hs]
    constructor
    · rintro (⟨q1, q2⟩ | ⟨q1, q2⟩)
      · have : ¬ i < 0 := by omega
        have : ¬ j < 0 := by omega
        simp [*, signed]
      · have : i < 0 := by omega
        simp [*, signed]
    · rintro (⟨q1, q2⟩ | ⟨q1, q2⟩)
      · have : ¬ i < 0 := by omega
        simp [*, signed]
      · have : i < 0 := by omega
        have : ¬ j < 0 := by omega
        simp [*, signed]
end Jvm.OwnFl
namespace Jvm.OwnFl
open Jvm Jvm.FP Jvm.FP.Core Jvm.Free.Fl Op
theorem rep_900 : Rep (2 ^ 900 * one64) := by
  have := rep_le (n := 1) (k := 1974) (by decide) (by decide)
  rw [Nat.one_mul] at this
  rw [show (2 : Nat) ^ 900 * one64 = 2 ^ 1974 by unfold one64; rw [← Nat.pow_add]]
  exact this
theorem rz_fin {A B : Nat} (hB : 0 < B) (h : A ≤ 2 ^ 900 * B) : ∃ c q, roundRatio b64 false A B 0 = .fin false c q := by
  rcases roundRatio_cases b64 false A B 0 with h1 | h1
  · exact h1
  · exfalso
    have h2 : rz A B ≤ 2 ^ 900 * one64 := rz_le hB rep_900 (by
      have := Nat.mul_le_mul_right one64 h
      rw [show 2 ^ 900 * B * one64 = 2 ^ 900 * one64 * B from Nat.mul_right_comm _ _ _] at this
      exact this)
    unfold rz at h2
    rw [h1] at h2
    have h3 : (2 : Nat) ^ 1974 < b64.tails * 2 ^ (b64.exps - 2) := by decide +kernel
    have h4 : (2 : Nat) ^ 900 * one64 = 2 ^ 1974 := by unfold one64; rw [← Nat.pow_add]
    rw [h4] at h2
    exact absurd (Nat.lt_of_le_of_lt h2 h3) (Nat.lt_irrefl _)
theorem rz_near {A B v : Nat} (hB : 0 < B) (h : A ≤ 2 ^ 900 * B) (hv : Rep v) : (((A * one64 : Nat) : Int) - ((rz A B * B : Nat) : Int)).natAbs ≤ (((A * one64 : Nat) : Int) - ((v * B : Nat) : Int)).natAbs := by
  obtain ⟨c, q, h1⟩ := rz_fin hB h
  obtain ⟨c', q', hf, rfl⟩ := hv
  have h2 := roundRatio_nearest good_b64 hB h1 (c' := c') (q' := q') (e0 := b64.qmin) hf.1 hf.2.1 (Int.le_refl _) (by rw [qz]; decide)
  unfold distance at h2
  rw [inU] at h2
  have h3 : rz A B = inUnits c q b64.qmin := by unfold rz; rw [h1]; rfl
  rw [h3, Int.natCast_mul (inUnits c q b64.qmin), Int.natCast_mul (inUnits c' q' b64.qmin)]
  exact h2
theorem rz_rep {A B : Nat} (hB : 0 < B) (h : A ≤ 2 ^ 900 * B) : Rep (rz A B) := by
  obtain ⟨c, q, h1⟩ := rz_fin hB h
  refine ⟨c, q, ?_, ?_⟩
  · rw [← h1]; exact roundRatio_fits good_b64 _ _ hB _
  · unfold rz; rw [h1]; rfl
/-- rounding is monotone -/
theorem rz_mono {A B A' B' : Nat} (hB : 0 < B) (hB' : 0 < B') (hf : A ≤ 2 ^ 900 * B) (hf' : A' ≤ 2 ^ 900 * B') (h : A * B' ≤ A' * B) : rz A B ≤ rz A' B' := by
  refine Nat.le_of_not_lt fun hlt => ?_
  have n1 := rz_near hB hf (rz_rep hB' hf')
  have n2 := rz_near hB' hf' (rz_rep hB hf)
  generalize hu : rz A' B' = u at *
  generalize hv : rz A B = v at *
  have l1 : u * B < v * B := (Nat.mul_lt_mul_right hB).mpr hlt
  have l2 : u * B' < v * B' := (Nat.mul_lt_mul_right hB').mpr hlt
  have k1 : u * B + v * B ≤ 2 * (A * one64) := by omega
  have k2 : 2 * (A' * one64) ≤ u * B' + v * B' := by omega
  have m1 := Nat.mul_le_mul_right B' k1
  have m2 := Nat.mul_le_mul_right B k2
  have m3 := Nat.mul_le_mul_right (2 * one64) h
  have e1 : (u * B + v * B) * B' = (u * B' + v * B') * B := by grind
  have e2 : 2 * (A * one64) * B' = A * B' * (2 * one64) := by grind
  have e3 : 2 * (A' * one64) * B = A' * B * (2 * one64) := by grind
  have hEq : A * B' * (2 * one64) = A' * B * (2 * one64) := by omega
  have hEq2 : A * B' = A' * B := Nat.eq_of_mul_eq_mul_right (Nat.mul_pos (by decide) one64_pos) hEq
  have := rz_congr hB hB' hEq2
  omega
/-- the error, where A / B is at most 2 ^ (t - 1020): at most 2 ^ t least doubles -/
theorem rz_err {A B t : Nat} (hB : 0 < B) (ht : t ≤ 1900) (h : A * 2 ^ 1020 ≤ B * 2 ^ t) : (((A * one64 : Nat) : Int) - ((rz A B * B : Nat) : Int)).natAbs ≤ B * 2 ^ t := by
  have hf : A ≤ 2 ^ 900 * B := by
    have h1 : B * 2 ^ t ≤ B * 2 ^ 1900 := Nat.mul_le_mul_left _ (Nat.pow_le_pow_right (by decide) ht)
    have h2 : A * 2 ^ 1020 ≤ 2 ^ 900 * B * 2 ^ 1020 := by
      rw [show (2 : Nat) ^ 900 * B * 2 ^ 1020 = B * 2 ^ 1920 by rw [show (2 : Nat) ^ 1920 = 2 ^ 900 * 2 ^ 1020 by rw [← Nat.pow_add]]; generalize (2 : Nat) ^ 900 = u; generalize (2 : Nat) ^ 1020 = v; ac_rfl]
      exact Nat.le_trans h (Nat.le_trans h1 (Nat.mul_le_mul_left _ (Nat.pow_le_pow_right (by decide) (by decide))))
    exact Nat.le_of_mul_le_mul_right h2 (Nat.two_pow_pos _)
  have hD : 0 < B * 2 ^ (t + 1) := Nat.mul_pos hB (Nat.two_pow_pos _)
  have hN : nearest (A * one64) (B * 2 ^ (t + 1)) ≤ 2 ^ 53 := by
    refine nearest_le hD ?_
    have h3 := Nat.mul_le_mul_right (2 ^ 54) h
    rw [show one64 = 2 ^ 1020 * 2 ^ 54 by unfold one64; rw [← Nat.pow_add], ← Nat.mul_assoc]
    refine Nat.le_trans h3 (Nat.le_of_eq ?_)
    rw [show (2 : Nat) ^ 54 = 2 ^ 53 * 2 from rfl, show (2 : Nat) ^ (t + 1) = 2 ^ t * 2 from rfl]; generalize (2 : Nat) ^ t = z; generalize (2 : Nat) ^ 53 = y; ac_rfl
  have n1 := rz_near hB hf (rep_le hN (k := t + 1) (by omega))
  have n2 := nearest_spec (A * one64) (B * 2 ^ (t + 1)) hD
  obtain ⟨n3, n4, -⟩ := n2
  generalize nearest (A * one64) (B * 2 ^ (t + 1)) = c at *
  have e1 : c * 2 ^ (t + 1) * B = c * (B * 2 ^ (t + 1)) := by ac_rfl
  rw [e1] at n1
  have e2 : (2 * c + 1) * (B * 2 ^ (t + 1)) = 2 * (c * (B * 2 ^ (t + 1))) + B * 2 ^ (t + 1) := by grind
  have e3 : 2 * c * (B * 2 ^ (t + 1)) = 2 * (c * (B * 2 ^ (t + 1))) := by grind
  have e4 : B * 2 ^ (t + 1) = 2 * (B * 2 ^ t) := by rw [Nat.pow_succ]; ac_rfl
  rw [e2] at n3
  rw [e3] at n4
  rw [e4] at n1 n3 n4
  generalize c * (2 * (B * 2 ^ t)) = y at *
  generalize B * 2 ^ t = z at *
  omega
theorem lt900 {x k : Nat} (h : x ≤ 2 ^ k) (hk : k < 900) : x < 2 ^ 900 := Nat.lt_of_le_of_lt h (Nat.pow_lt_pow_right (by decide) hk)
/-- strictly, for numerators of up to 52 digits -/
theorem rz_strict {A A' B : Nat} (hB : 0 < B) (hBm : B < 2 ^ 900) (h : A < A') (hA : A' ≤ 2 ^ 52) : rz A B < rz A' B := by
  have j1 : 2 ^ B.log2 ≤ B := Nat.log2_self_le (by omega)
  have j2 : B < 2 ^ (B.log2 + 1) := Nat.lt_log2_self
  have j3 : B.log2 < 900 := (Nat.pow_lt_pow_iff_right (by decide : 1 < 2)).mp (Nat.lt_of_le_of_lt j1 hBm)
  generalize B.log2 = j at *
  have e0 : (2 : Nat) ^ 52 * 2 ^ 1020 = 2 ^ j * 2 ^ (1072 - j) := by rw [← Nat.pow_add, ← Nat.pow_add, show j + (1072 - j) = 52 + 1020 by omega]
  have c1 : A' * 2 ^ 1020 ≤ B * 2 ^ (1072 - j) := Nat.le_trans (Nat.mul_le_mul_right _ hA) (by rw [e0]; exact Nat.mul_le_mul_right _ j1)
  have c0 : A * 2 ^ 1020 ≤ B * 2 ^ (1072 - j) := Nat.le_trans (Nat.mul_le_mul_right _ (Nat.le_of_lt h)) c1
  have c2 : B * 2 ^ (1072 - j) * 2 < one64 := by
    have : B * 2 ^ (1072 - j) * 2 = B * 2 ^ (1073 - j) := by rw [Nat.mul_assoc, ← Nat.pow_succ, show (1072 - j).succ = 1073 - j by omega]
    rw [this]
    have := (Nat.mul_lt_mul_right (Nat.two_pow_pos (1073 - j))).mpr j2
    rw [← Nat.pow_add, show j + 1 + (1073 - j) = 1074 by omega] at this
    exact this
  have r1 := rz_err hB (by omega) c1
  have r0 := rz_err hB (by omega) c0
  refine Nat.lt_of_not_le fun hle => ?_
  have m1 := Nat.mul_le_mul_right B hle
  have m2 : A * one64 + one64 ≤ A' * one64 := by
    have := Nat.mul_le_mul_right one64 h
    rw [Nat.succ_mul] at this; exact this
  generalize rz A B * B = x at *
  generalize rz A' B * B = y at *
  generalize B * 2 ^ (1072 - j) = z at *
  generalize A * one64 = u at *
  generalize A' * one64 = v at *
  omega
/-- strictly, for fractions up to 1 whose denominator is below 2 ^ 53 -/
theorem rz_strict1 {A A' B : Nat} (hB : 0 < B) (hBm : B < 2 ^ 53) (h : A < A') (hA : A' ≤ B) : rz A B < rz A' B := by
  have c1 : A' * 2 ^ 1020 ≤ B * 2 ^ 1020 := Nat.mul_le_mul_right _ hA
  have c0 : A * 2 ^ 1020 ≤ B * 2 ^ 1020 := Nat.mul_le_mul_right _ (by omega)
  have c2 : B * 2 ^ 1020 * 2 < one64 := by
    have := (Nat.mul_lt_mul_right (Nat.two_pow_pos 1021)).mpr hBm
    rw [← Nat.pow_add] at this
    rw [Nat.mul_assoc, ← Nat.pow_succ]; exact this
  have r1 := rz_err hB (by decide) c1
  have r0 := rz_err hB (by decide) c0
  refine Nat.lt_of_not_le fun hle => ?_
  have m1 := Nat.mul_le_mul_right B hle
  have m2 : A * one64 + one64 ≤ A' * one64 := by
    have := Nat.mul_le_mul_right one64 h
    rw [Nat.succ_mul] at this; exact this
  generalize rz A B * B = x at *
  generalize rz A' B * B = y at *
  generalize B * 2 ^ 1020 = z at *
  generalize A * one64 = u at *
  generalize A' * one64 = v at *
  omega
end Jvm.OwnFl
namespace Jvm.OwnFl
open Jvm Jvm.FP Jvm.FP.Core Jvm.Free.Fl Op
/-! sums, differences, products: rounded between the doubles that bound them -/
theorem repz {v : Int} (h : Rep v.natAbs) : ∃ V, Core.fits b64 V ∧ V ≠ .nan ∧ zval b64 V = v := by
  obtain ⟨c, q, hf, hq⟩ := h
  refine ⟨.fin (decide (v < 0)) c q, hf, by simp, ?_⟩
  show signed (decide (v < 0)) (inUnits c q b64.qmin) = v
  rw [hq]; unfold signed
  by_cases h : v < 0 <;> simp [h] <;> omega
theorem q0 : ((2 ^ (b64.qmin - b64.qmin).toNat : Nat) : Int) = 1 := by rw [show (b64.qmin - b64.qmin).toNat = 0 by omega]; rfl
theorem zadd_le {a b : UInt64} {v : Int} (ha : DFin a) (hb : DFin b) (hv : Rep v.natAbs) (h : zv a + zv b ≤ v) : zv (FP.dadd a b) ≤ v := by
  obtain ⟨V, h1, h2, rfl⟩ := repz hv
  obtain ⟨s, c, q, e1⟩ := ha
  obtain ⟨t, d, r, e2⟩ := hb
  have f1 := val64_fits a
  have f2 := val64_fits b
  rw [zv_def, zv_def, e1, e2] at h
  rw [e1] at f1; rw [e2] at f2
  obtain ⟨sg, n, e, k1, k2, k3⟩ := sum_units f1 f2
  show zval b64 (val64 (Core.dadd a b)) ≤ _
  rw [val64_dadd, e1, e2, k1]
  exact zval_round_le good_b64 h1 h2 (Int.le_refl _) k2 (by rw [k3, q0, Int.mul_one]; exact h)
theorem zadd_ge {a b : UInt64} {v : Int} (ha : DFin a) (hb : DFin b) (hv : Rep v.natAbs) (h : v ≤ zv a + zv b) : v ≤ zv (FP.dadd a b) := by
  obtain ⟨V, h1, h2, rfl⟩ := repz hv
  obtain ⟨s, c, q, e1⟩ := ha
  obtain ⟨t, d, r, e2⟩ := hb
  have f1 := val64_fits a
  have f2 := val64_fits b
  rw [zv_def, zv_def, e1, e2] at h
  rw [e1] at f1; rw [e2] at f2
  obtain ⟨sg, n, e, k1, k2, k3⟩ := sum_units f1 f2
  show _ ≤ zval b64 (val64 (Core.dadd a b))
  rw [val64_dadd, e1, e2, k1]
  exact zval_round_ge good_b64 h1 h2 (Int.le_refl _) k2 (by rw [k3, q0, Int.mul_one]; exact h)
theorem zadd {a b : UInt64} (ha : DFin a) (hb : DFin b) (hv : Rep (zv a + zv b).natAbs) : zv (FP.dadd a b) = zv a + zv b :=
  Int.le_antisymm (zadd_le ha hb hv (Int.le_refl _)) (zadd_ge ha hb hv (Int.le_refl _))
theorem zneg (a : UInt64) : zv (Core.dneg a) = -zv a := by
  show zval b64 (val64 (Core.dneg a)) = _
  rw [Core.val64_dneg]; exact zval_negate _ _
theorem neg_fin {a : UInt64} (ha : DFin a) : DFin (Core.dneg a) := by
  obtain ⟨s, c, q, e1⟩ := ha
  exact ⟨!s, c, q, by rw [Core.val64_dneg, e1]; rfl⟩
theorem zsub_le {a b : UInt64} {v : Int} (ha : DFin a) (hb : DFin b) (hv : Rep v.natAbs) (h : zv a - zv b ≤ v) : zv (FP.dsub a b) ≤ v := by
  show zv (Core.dsub a b) ≤ v
  rw [Core.dsub_eq]
  exact zadd_le ha (neg_fin hb) hv (by rw [zneg]; omega)
theorem zsub_ge {a b : UInt64} {v : Int} (ha : DFin a) (hb : DFin b) (hv : Rep v.natAbs) (h : v ≤ zv a - zv b) : v ≤ zv (FP.dsub a b) := by
  show v ≤ zv (Core.dsub a b)
  rw [Core.dsub_eq]
  exact zadd_ge ha (neg_fin hb) hv (by rw [zneg]; omega)
theorem zsub {a b : UInt64} (ha : DFin a) (hb : DFin b) (hv : Rep (zv a - zv b).natAbs) : zv (FP.dsub a b) = zv a - zv b :=
  Int.le_antisymm (zsub_le ha hb hv (Int.le_refl _)) (zsub_ge ha hb hv (Int.le_refl _))
theorem q2 : ((2 ^ (b64.qmin - 2 * b64.qmin).toNat : Nat) : Int) = (one64 : Int) := by rw [← pow_qmin64, show (b64.qmin - 2 * b64.qmin) = -b64.qmin by omega]
theorem zmul_le {a b : UInt64} {v : Int} (ha : DFin a) (hb : DFin b) (hv : Rep v.natAbs) (h : zv a * zv b ≤ v * (one64 : Int)) : zv (FP.dmul a b) ≤ v := by
  obtain ⟨V, h1, h2, rfl⟩ := repz hv
  obtain ⟨s, c, q, e1⟩ := ha
  obtain ⟨t, d, r, e2⟩ := hb
  have f1 := val64_fits a
  have f2 := val64_fits b
  rw [zv_def, zv_def, e1, e2] at h
  rw [e1] at f1; rw [e2] at f2
  obtain ⟨k1, k2, k3⟩ := product_units f1 f2
  show zval b64 (val64 (Core.dmul a b)) ≤ _
  rw [val64_dmul, e1, e2, k1]
  exact zval_round_le good_b64 h1 h2 (e0 := 2 * b64.qmin) (by rw [qz]; decide) k2 (by rw [k3, q2, signed_xor]; exact h)
theorem zmul_ge {a b : UInt64} {v : Int} (ha : DFin a) (hb : DFin b) (hv : Rep v.natAbs) (h : v * (one64 : Int) ≤ zv a * zv b) : v ≤ zv (FP.dmul a b) := by
  obtain ⟨V, h1, h2, rfl⟩ := repz hv
  obtain ⟨s, c, q, e1⟩ := ha
  obtain ⟨t, d, r, e2⟩ := hb
  have f1 := val64_fits a
  have f2 := val64_fits b
  rw [zv_def, zv_def, e1, e2] at h
  rw [e1] at f1; rw [e2] at f2
  obtain ⟨k1, k2, k3⟩ := product_units f1 f2
  show _ ≤ zval b64 (val64 (Core.dmul a b))
  rw [val64_dmul, e1, e2, k1]
  exact zval_round_ge good_b64 h1 h2 (e0 := 2 * b64.qmin) (by rw [qz]; decide) k2 (by rw [k3, q2, signed_xor]; exact h)
theorem zmul {a b : UInt64} {v : Int} (ha : DFin a) (hb : DFin b) (hv : Rep v.natAbs) (h : zv a * zv b = v * (one64 : Int)) : zv (FP.dmul a b) = v :=
  Int.le_antisymm (zmul_le ha hb hv (Int.le_of_eq h)) (zmul_ge ha hb hv (Int.le_of_eq h.symm))
theorem fin_le {a : UInt64} (hn : NoNaN64 a) (h : (zv a).natAbs ≤ 2 ^ 1974) : DFin a := by
  cases hv : val64 a with
  | nan => exact absurd hv (val64_no.mp hn)
  | fin s c q => exact ⟨s, c, q, hv⟩
  | inf s =>
    exfalso
    rw [zv_def, hv] at h
    have h1 : (zval b64 (.inf s)).natAbs = b64.tails * 2 ^ (b64.exps - 2) := natAbs_signed _ _
    rw [h1] at h
    have h3 : (2 : Nat) ^ 1974 < b64.tails * 2 ^ (b64.exps - 2) := by decide +kernel
    exact absurd (Nat.lt_of_le_of_lt h h3) (Nat.lt_irrefl _)
theorem nn_add {a b : UInt64} (ha : DFin a) (hb : DFin b) : NoNaN64 (FP.dadd a b) := noNaN64_no.mpr (Core.dadd_out ha.notNaN hb)
theorem nn_sub {a b : UInt64} (ha : DFin a) (hb : DFin b) : NoNaN64 (FP.dsub a b) := noNaN64_no.mpr (Core.dsub_out ha.notNaN hb)
theorem nn_mul {a b : UInt64} (ha : DFin a) (hb : DFin b) : NoNaN64 (FP.dmul a b) := noNaN64_no.mpr (Core.dmul_out ha hb)
end Jvm.OwnFl
namespace Jvm.OwnFl
open Jvm Jvm.FP Jvm.FP.Core Jvm.Free.Fl Op
theorem int_of_zv {i : Int} {a : UInt64} (ha : DFin a) (h : zv a = i * (one64 : Int)) : DInt i a := by
  obtain ⟨s, c, q, e1⟩ := ha
  have f1 := val64_fits a
  rw [e1] at f1
  have q1 := f1.2.1
  rw [qz] at q1
  unfold DInt
  rw [e1]
  show signed s (c * 2 ^ q.toNat) = i * ((2 ^ (-q).toNat : Nat) : Int)
  have h2 : signed s (c * 2 ^ (q - b64.qmin).toNat) = i * (one64 : Int) := by
    rw [zv_def, e1] at h; exact h
  have p : (0 : Int) < ((2 ^ (1074 - (-q).toNat) : Nat) : Int) := Int.ofNat_lt.mpr (Nat.two_pow_pos _)
  refine Int.eq_of_mul_eq_mul_right (Int.ne_of_gt p) ?_
  rw [← signed_mul, Nat.mul_assoc, ← Nat.pow_add, show q.toNat + (1074 - (-q).toNat) = (q - b64.qmin).toNat by rw [qz]; omega, h2, Int.mul_assoc, ← Int.natCast_mul, ← Nat.pow_add, show (-q).toNat + (1074 - (-q).toNat) = 1074 by omega]
  rfl
/-- a quotient of whole numbers that is whole -/
theorem divI {i j k : Int} {a b : UInt64} (ha : DInt i a) (hb : DInt j b) (hj : j ≠ 0) (hi : i = k * j) (hk : k.natAbs ≤ 9007199254740992) : DInt k (FP.ddiv a b) := by
  have hn := nn_divI ha hb hj
  have hr : rz i.natAbs j.natAbs = k.natAbs * one64 := rz_exact (by omega) (rep_int (by omega)) (by rw [hi, Int.natAbs_mul]; generalize one64 = o; ac_rfl)
  have hz : zv (FP.ddiv a b) = k * (one64 : Int) := by
    obtain ⟨hp, hm⟩ := zv_divS ha hb hj
    rw [hr, Int.natCast_mul] at hp hm
    rcases Int.lt_or_gt_of_ne hj with h | h <;> rcases Int.lt_or_le k 0 with h' | h'
    · have := Int.mul_pos_of_neg_of_neg h' h
      rw [hm (Or.inl ⟨by omega, h⟩), show ((k.natAbs : Nat) : Int) = -k by omega, Int.neg_mul, Int.neg_neg]
    · have := Int.mul_nonpos_of_nonneg_of_nonpos h' (Int.le_of_lt h)
      rw [hp (Or.inr ⟨by omega, h⟩), show ((k.natAbs : Nat) : Int) = k by omega]
    · have := Int.mul_neg_of_neg_of_pos h' h
      rw [hm (Or.inr ⟨by omega, h⟩), show ((k.natAbs : Nat) : Int) = -k by omega, Int.neg_mul, Int.neg_neg]
    · have := Int.mul_nonneg h' (Int.le_of_lt h)
      rw [hp (Or.inl ⟨by omega, h⟩), show ((k.natAbs : Nat) : Int) = k by omega]
  refine int_of_zv (fin_le hn ?_) hz
  rw [hz, Int.natAbs_mul, Int.natAbs_natCast]
  refine Nat.le_trans (Nat.mul_le_mul_right _ hk) ?_
  unfold one64; rw [show (9007199254740992 : Nat) = 2 ^ 53 from rfl, ← Nat.pow_add]; exact Nat.pow_le_pow_right (by decide) (by decide)
theorem negI {i : Int} {a : UInt64} (ha : DInt i a) : DInt (-i) (FP.dneg a) := by
  rw [FP.dneg_core ((noNaN64_no (x := a)).mp (nn_int ha))]; exact dneg_int ha
end Jvm.OwnFl
namespace Jvm.OwnFl
open Jvm Jvm.FP Jvm.FP.Core Jvm.Free.Fl Op
/-- a product of finite doubles, as a rounded ratio -/
theorem val_dmul {a b : UInt64} (ha : DFin a) (hb : DFin b) : val64 (FP.dmul a b) = roundRatio b64 (sgn (val64 a) != sgn (val64 b)) ((zv a).natAbs * (zv b).natAbs) (one64 * one64) 0 := by
  obtain ⟨s, c, q, e1⟩ := ha
  obtain ⟨t, d, r, e2⟩ := hb
  have f1 := val64_fits a
  have f2 := val64_fits b
  have z1 : (zv a).natAbs = inUnits c q b64.qmin := by rw [zv_def, e1]; exact natAbs_signed _ _
  have z2 : (zv b).natAbs = inUnits d r b64.qmin := by rw [zv_def, e2]; exact natAbs_signed _ _
  rw [e1] at f1; rw [e2] at f2
  have q1 := f1.2.1; have q2 := f2.2.1
  rw [qz] at q1 q2
  rw [z1, z2, e1, e2]
  show val64 (Core.dmul a b) = _
  rw [val64_dmul, e1, e2]
  show roundRatio b64 (s != t) (c * d) 1 (q + r) = roundRatio b64 (s != t) _ _ 0
  refine roundRatio_congr (by decide) (Nat.mul_pos one64_pos one64_pos) ?_
  unfold inUnits one64
  rw [qz, ← Nat.pow_add, Nat.mul_one]
  have e3 : (1074 + 1074) + (q + r - 0).toNat = (q - -1074).toNat + (r - -1074).toNat + (0 - (q + r)).toNat := by omega
  have e4 : c * d * 2 ^ (1074 + 1074) * 2 ^ (q + r - 0).toNat = c * d * 2 ^ ((1074 + 1074) + (q + r - 0).toNat) := by rw [Nat.mul_assoc, ← Nat.pow_add]
  have e5 : c * 2 ^ (q - -1074).toNat * (d * 2 ^ (r - -1074).toNat) * 2 ^ (0 - (q + r)).toNat = c * d * 2 ^ ((q - -1074).toNat + (r - -1074).toNat + (0 - (q + r)).toNat) := by
    rw [Nat.pow_add, Nat.pow_add]
    generalize 2 ^ (q - -1074).toNat = x
    generalize 2 ^ (r - -1074).toNat = y
    generalize 2 ^ (0 - (q + r)).toNat = z
    ac_rfl
  rw [e4, e5, e3]
theorem abs_mul {a b : UInt64} (ha : DFin a) (hb : DFin b) : (zv (FP.dmul a b)).natAbs = rz ((zv a).natAbs * (zv b).natAbs) (one64 * one64) := by
  rw [zv_def (FP.dmul a b), val_dmul ha hb, zv_round, natAbs_signed]
theorem sq_nonneg {a : UInt64} (ha : DFin a) : zv (FP.dmul a a) = (rz ((zv a).natAbs * (zv a).natAbs) (one64 * one64) : Int) := by
  rw [zv_def (FP.dmul a a), val_dmul ha ha, zv_round]
  have : (sgn (val64 a) != sgn (val64 a)) = false := by cases sgn (val64 a) <;> rfl
  rw [this]; rfl
end Jvm.OwnFl
namespace Jvm.Pilot.@@N@@
open Jvm Jvm.ClassFile Sem Op Lib Jvm.Free Jvm.Stand Jvm.LawKit Jvm.RoadKit Bundle Jvm.Pilot.@@N@@.Jvm.D
section Own
open Jvm.OwnFl Jvm.FP.Core Jvm.Free.Fl
theorem own_3600 : DInt 3600 (4660134898793709568 : UInt64) := by
  unfold DInt; rw [show val64 4660134898793709568 = .fin false 7916483719987200 (-41) from by decide +kernel]; show signed false _ = _; decide
theorem own_k {x : Int32} {v : Int64} (q : (x &&& (1048575 : Int32)).toInt64 = v) : 0 ≤ v.toInt ∧ v.toInt < 1048576 := by
  have m1 := Jvm.Kit.i32_mask x 1048575 (k := 20) (by decide) (by decide)
  rw [← q, Jvm.Kit.i64_of_i32, m1]; omega
theorem own_i {y : Int32} (h : 0 ≤ y.toInt) : (¬ (cmpValue (FP.dcmp (FP.i2d y) (0 : UInt64)) .l < (0 : Int32))) ∧ Fin64 (FP.i2d y) := by
  have d := i2dI y
  refine ⟨cv_ge (nn_int d) (nn_int zint) ?_ .l, fin64_core.mpr (fin_int d)⟩
  rw [zv_int d, zv_int zint, Int.zero_mul]
  exact Int.mul_nonneg h (Int.le_of_lt one_pos)
theorem own_m16 (x : Int32) : 0 ≤ (x &&& (65535 : Int32)).toInt := by
  have m1 := Jvm.Kit.i32_mask x 65535 (k := 16) (by decide) (by decide)
  rw [m1]; omega
theorem own_m24 (x : Int32) : 0 ≤ (x &&& (16777215 : Int32)).toInt ∧ (x &&& (16777215 : Int32)).toInt < 16777216 := by
  have m1 := Jvm.Kit.i32_mask x 16777215 (k := 24) (by decide) (by decide)
  rw [m1]; omega
theorem own_r {k : Int64} (h : 0 ≤ k.toInt ∧ k.toInt < 1048576) : DInt (k.toInt * 3600) (FP.l2d ((3600 : Int64) * k)) := by
  have e : (3600 : Int64).toInt = 3600 := by decide
  have m : ((3600 : Int64) * k).toInt = k.toInt * 3600 := by rw [Jvm.Kit.i64_mul (by rw [e]; omega) (by rw [e]; omega), e]; omega
  rw [← m]; exact l2dI (by omega) (by omega)
theorem own_rg {k : Int64} (h : 0 ≤ k.toInt ∧ k.toInt < 1048576) : (¬ (cmpValue (FP.dcmp (FP.l2d ((3600 : Int64) * k)) (0 : UInt64)) .l < (0 : Int32))) ∧ Fin64 (FP.l2d ((3600 : Int64) * k)) := by
  have d := own_r h
  refine ⟨cv_ge (nn_int d) (nn_int zint) ?_ .l, fin64_core.mpr (fin_int d)⟩
  rw [zv_int d, zv_int zint, Int.zero_mul]
  exact Int.mul_nonneg (by omega) (Int.le_of_lt one_pos)
theorem own_rep : Rep (2 ^ 55 * one64) := by
  have := rep_le (n := 1) (k := 1129) (by decide) (by decide)
  rw [Nat.one_mul] at this
  rw [show (2 : Nat) ^ 55 * one64 = 2 ^ 1129 by unfold one64; rw [← Nat.pow_add]]; exact this
/-- the deviation: R times a whole number of up to 31 digits -/
theorem own_dev {R x : UInt64} {i : Int} (fR : DFin R) (hR : (zv R).natAbs ≤ 2 ^ 24 * one64) (hx : DInt i x) (hi : i.natAbs ≤ 2 ^ 31) : NoNaN64 (FP.dmul R x) ∧ DFin (FP.dmul R x) ∧ (zv (FP.dmul R x)).natAbs = rz ((zv R).natAbs * (i.natAbs * one64)) (one64 * one64) ∧ (zv (FP.dmul R x)).natAbs ≤ 2 ^ 55 * one64 ∧ NoNaN64 (FP.dmul (FP.dmul R x) (FP.dmul R x)) := by
  have n1 := nn_mul fR (fin_int hx)
  have e1 : (zv x).natAbs = i.natAbs * one64 := by rw [zv_int hx, Int.natAbs_mul, Int.natAbs_natCast]
  have e2 := abs_mul fR (fin_int hx)
  rw [e1] at e2
  have hb : (zv (FP.dmul R x)).natAbs ≤ 2 ^ 55 * one64 := by
    rw [e2]
    refine rz_le (Nat.mul_pos one64_pos one64_pos) own_rep ?_
    have h1 : (zv R).natAbs * (i.natAbs * one64) ≤ 2 ^ 24 * one64 * (2 ^ 31 * one64) := Nat.mul_le_mul hR (Nat.mul_le_mul_right _ hi)
    have h2 := Nat.mul_le_mul_right one64 h1
    refine Nat.le_trans h2 (Nat.le_of_eq ?_)
    rw [show (2 : Nat) ^ 55 = 2 ^ 24 * 2 ^ 31 by rw [← Nat.pow_add]]
    generalize one64 = o
    generalize (2 : Nat) ^ 24 = u
    generalize (2 : Nat) ^ 31 = w
    ac_rfl
  have f1 : DFin (FP.dmul R x) := fin_le n1 (Nat.le_trans hb (by
    unfold one64; rw [← Nat.pow_add]; exact Nat.pow_le_pow_right (by decide) (by decide)))
  exact ⟨n1, f1, e2, hb, nn_mul f1 f1⟩
theorem own_bnd {a b A B o : Nat} (h1 : a ≤ A * o) (h2 : b ≤ B * o) : a * b ≤ A * B * (o * o) := Nat.le_trans (Nat.mul_le_mul h1 h2) (Nat.le_of_eq (by ac_rfl))
theorem own_i31 (b : Int32) : b.toInt.natAbs ≤ 2 ^ 31 := by have h1 := b.le_toInt; have h2 := b.toInt_lt; omega
/-- the exact case -/
theorem own_ex {k : Int64} {b : Int32} (h : 0 ≤ k.toInt ∧ k.toInt < 1048576) : NoNaN64 (FP.ddiv (FP.l2d ((3600 : Int64) * k)) (4660134898793709568 : UInt64)) ∧ NoNaN64 (FP.dmul (FP.ddiv (FP.l2d ((3600 : Int64) * k)) (4660134898793709568 : UInt64)) (FP.i2d b)) ∧
    NoNaN64 (FP.dmul (FP.dmul (FP.ddiv (FP.l2d ((3600 : Int64) * k)) (4660134898793709568 : UInt64)) (FP.i2d b)) (FP.dmul (FP.ddiv (FP.l2d ((3600 : Int64) * k)) (4660134898793709568 : UInt64)) (FP.i2d b))) ∧ NoNaN64 (FP.dmul (FP.l2d (k * b.toInt64)) (FP.l2d (k * b.toInt64))) ∧
    cmpValue (FP.dcmp (FP.dmul (FP.dmul (FP.ddiv (FP.l2d ((3600 : Int64) * k)) (4660134898793709568 : UInt64)) (FP.i2d b)) (FP.dmul (FP.ddiv (FP.l2d ((3600 : Int64) * k)) (4660134898793709568 : UInt64)) (FP.i2d b))) (FP.dmul (FP.l2d (k * b.toInt64)) (FP.l2d (k * b.toInt64)))) .l = 0 := by
  have b1 := b.le_toInt; have b2 := b.toInt_lt
  have d1 : DInt k.toInt (FP.ddiv (FP.l2d ((3600 : Int64) * k)) (4660134898793709568 : UInt64)) := divI (own_r h) own_3600 (by decide) rfl (by omega)
  have bd := absMul (A := 1048576) (B := 2147483648) (i := k.toInt) (j := b.toInt) (by omega) (by omega)
  have d2 := mulI d1 (i2dI b) (by omega)
  have e : (k * b.toInt64).toInt = k.toInt * b.toInt := by rw [Jvm.Kit.i64_mul (by rw [Jvm.Kit.i64_of_i32]; omega) (by rw [Jvm.Kit.i64_of_i32]; omega), Jvm.Kit.i64_of_i32]
  have d3 : DInt (k.toInt * b.toInt) (FP.l2d (k * b.toInt64)) := by rw [← e]; exact l2dI (by omega) (by omega)
  have f2 := fin_int d2
  have f3 := fin_int d3
  refine ⟨nn_int d1, nn_int d2, nn_mul f2 f2, nn_mul f3 f3, cv_eq (nn_mul f2 f2) (nn_mul f3 f3) ?_ .l⟩
  rw [sq_nonneg f2, sq_nonneg f3, zv_int d2, zv_int d3]
theorem own_R {y : Int32} (h : 0 ≤ y.toInt ∧ y.toInt < 16777216) : NoNaN64 (FP.ddiv (FP.i2d y) (4660134898793709568 : UInt64)) ∧ DFin (FP.ddiv (FP.i2d y) (4660134898793709568 : UInt64)) ∧ (zv (FP.ddiv (FP.i2d y) (4660134898793709568 : UInt64))).natAbs ≤ 2 ^ 24 * one64 := by
  have n1 := nn_divI (i2dI y) own_3600 (by decide)
  have z := (zv_divS (i2dI y) own_3600 (by decide)).1 (Or.inl ⟨h.1, by decide⟩)
  have hr : rz y.toInt.natAbs (3600 : Int).natAbs ≤ 2 ^ 24 * one64 := rz_le (by decide) (rep_int (by decide)) (by
    have h1 : y.toInt.natAbs ≤ 2 ^ 24 * 3600 := by omega
    have h2 := Nat.mul_le_mul_right one64 h1
    rw [Nat.mul_right_comm] at h2
    rw [show (3600 : Int).natAbs = 3600 from rfl]
    exact h2)
  have hb : (zv (FP.ddiv (FP.i2d y) (4660134898793709568 : UInt64))).natAbs ≤ 2 ^ 24 * one64 := by rw [z, Int.natAbs_natCast]; exact hr
  exact ⟨n1, fin_le n1 (Nat.le_trans hb (by unfold one64; rw [← Nat.pow_add]; exact Nat.pow_le_pow_right (by decide) (by decide))), hb⟩
theorem own_sym {R x : UInt64} {i : Int} (fR : DFin R) (hR : (zv R).natAbs ≤ 2 ^ 24 * one64) (hx : DInt i x) (hi : i.natAbs ≤ 2 ^ 31) : cmpValue (FP.dcmp (FP.dmul (FP.dmul R x) (FP.dmul R x)) (FP.dmul (FP.dmul R (FP.dneg x)) (FP.dmul R (FP.dneg x)))) .l = 0 := by
  obtain ⟨-, f1, e1, -, n1⟩ := own_dev fR hR hx hi
  obtain ⟨-, f2, e2, -, n2⟩ := own_dev fR hR (negI hx) (by omega)
  refine cv_eq n1 n2 ?_ .l
  rw [sq_nonneg f1, sq_nonneg f2, e1, e2, Int.natAbs_neg]
theorem own_nonneg {R x : UInt64} {i : Int} (fR : DFin R) (hR : (zv R).natAbs ≤ 2 ^ 24 * one64) (hx : DInt i x) (hi : i.natAbs ≤ 2 ^ 31) : ¬ (cmpValue (FP.dcmp (FP.dmul (FP.dmul R x) (FP.dmul R x)) (0 : UInt64)) .l < (0 : Int32)) := by
  obtain ⟨-, f1, e1, -, n1⟩ := own_dev fR hR hx hi
  refine cv_ge n1 (nn_int zint) ?_ .l
  rw [sq_nonneg f1, zv_int zint]; omega
theorem own_900 {a B : Nat} {k : Nat} (h : a ≤ 2 ^ k * B) (hk : k ≤ 900) : a ≤ 2 ^ 900 * B := Nat.le_trans h (Nat.mul_le_mul_right _ (Nat.pow_le_pow_right (by decide) hk))
theorem own_mono {R x y : UInt64} {i j : Int} (fR : DFin R) (hR : (zv R).natAbs ≤ 2 ^ 24 * one64) (hx : DInt i x) (hi : i.natAbs ≤ 2 ^ 31) (hy : DInt j y) (hj : j.natAbs ≤ 2 ^ 31) (h : i.natAbs ≤ j.natAbs) : ¬ (0 < cmpValue (FP.dcmp (FP.dmul (FP.dmul R x) (FP.dmul R x)) (FP.dmul (FP.dmul R y) (FP.dmul R y))) .g) := by
  obtain ⟨-, f1, e1, b1, n1⟩ := own_dev fR hR hx hi
  obtain ⟨-, f2, e2, b2, n2⟩ := own_dev fR hR hy hj
  refine cv_le n1 n2 ?_ .g
  rw [sq_nonneg f1, sq_nonneg f2]
  have hO := Nat.mul_pos one64_pos one64_pos
  have a1 := own_bnd hR (Nat.mul_le_mul_right one64 hi)
  have a2 := own_bnd hR (Nat.mul_le_mul_right one64 hj)
  have a3 := own_bnd b1 b1
  have a4 := own_bnd b2 b2
  rw [← Nat.pow_add] at a1 a2 a3 a4
  have hle : (zv (FP.dmul R x)).natAbs ≤ (zv (FP.dmul R y)).natAbs := by
    rw [e1, e2]
    exact rz_mono hO hO (own_900 a1 (by decide)) (own_900 a2 (by decide)) (Nat.mul_le_mul_right _ (Nat.mul_le_mul_left _ (Nat.mul_le_mul_right _ h)))
  exact Int.ofNat_le.mpr (rz_mono hO hO (own_900 a3 (by decide)) (own_900 a4 (by decide)) (Nat.mul_le_mul_right _ (Nat.mul_le_mul hle hle)))
theorem own_abs {b : Int32} {v : Int64} (q : (if lcmpW b.toInt64 (0 : Int64) < (0 : Int32) then -b.toInt64 else b.toInt64) = v) : v.toInt = (b.toInt.natAbs : Int) := by
  have e := Jvm.Kit.i64_of_i32 b
  have b1 := b.le_toInt
  rw [← q]
  split
  · rename_i h
    have h1 := lc_lt.mp h
    rw [e, Int64.toInt_zero] at h1
    rw [Jvm.Kit.i64_neg (by rw [e]; omega), e]; omega
  · rename_i h
    have h1 := mt lc_lt.mpr h
    rw [e, Int64.toInt_zero] at h1
    rw [e]; omega
theorem own_fin {u v : Int64} {i j : Int} (hu : u.toInt = (i.natAbs : Int)) (hv : v.toInt = (j.natAbs : Int)) : (0 < lcmpW u v → j.natAbs ≤ i.natAbs) ∧ (¬ 0 < lcmpW u v → i.natAbs ≤ j.natAbs) := by
  constructor
  · intro h; have := lc_gt.mp h; omega
  · intro h; have := mt lc_gt.mpr h; omega
end Own
theorem own_wS {a0 : Array Value} {Z : State} (hw : ∀ d ∈ tables_1, d.before a0 Z = true) : ∀ a ∈ Bundle.stringAtoms, a.before a0 Z = true := by
  intro d hd
  simp only [Bundle.stringAtoms, List.mem_cons, List.not_mem_nil, or_false] at hd
  rcases hd with rfl | rfl | rfl | rfl | rfl | rfl | rfl
  · exact hw _ (List.mem_of_getElem? (i := 18) rfl)
  · exact hw _ (List.mem_of_getElem? (i := 19) rfl)
  · exact hw _ (List.mem_of_getElem? (i := 20) rfl)
  · exact hw _ (List.mem_of_getElem? (i := 21) rfl)
  · exact hw _ (List.mem_of_getElem? (i := 22) rfl)
  · exact hw _ (List.mem_of_getElem? (i := 23) rfl)
  · exact hw _ (List.mem_of_getElem? (i := 24) rfl)
theorem d1_0 : decode jdk_30_method_1_code 0 = .ok (.aload_n 0, 1) := by decide +kernel
theorem d1_1 : decode jdk_30_method_1_code 1 = .ok (.invokespecial 1, 3) := by decide +kernel
theorem d1_4 : decode jdk_30_method_1_code 4 = .ok (.return_, 1) := by decide +kernel
theorem pn0 : plainName "java/lang/Record" = true := by first | (simp [plainName, overriddenIn]; done) | decide +kernel
def Q_rec (Z : State) (a : Addr) (h0 : Heap) (n0 : Nat) (v : Option Value) (h : Heap) (L : List Loc) : Prop := v = none ∧ Fr n0 L ∧ h = h0
theorem ef_rec (m : MethodId) (y0 : Addr) : entryFrame m #[(.ref y0)] 1 = mkF m 0 #[.val (.ref y0)] [] := by first | (simp [entryFrame, mkF, argsToLocals, Value.category, maxLocals]; done) | rfl
set_option maxRecDepth 65536 in
set_option maxHeartbeats 40000000 in
theorem rm_rec (l : Launch) (Z : State) (a0 : Array Value) (hw : ∀ d ∈ tables_1, d.before a0 Z = true) (ws : List Jvm.Cond) (a : Addr) (h0 : Heap) (n0 : Nat) (Z0 : n0 ≤ h0.size)  :
    MetFree l (⟨"java/lang/Record", "<init>", "()V"⟩ : MethodName) (head1 (Jvm.Cond.code (⟨"java/lang/Record", "<init>", "()V"⟩ : MethodName) jdk_30_method_1_code 1 none :: ws) ({ frames := 1, cells := 0, slots := 0, locals := 12 } : Room)) (fun aa_ U => aa_ = #[(.ref a)] ∧ Z.Warmed39 U.vm ∧ U.heap = h0) (fun _ _ _ _ _ => True) (fun _ U o U' => ∃ v L, o = .returned v ∧ Q_rec Z a h0 n0 v U'.heap L ∧ FrameEnd U o U' L (({ frames := 1, cells := 0, slots := 0, locals := 12 } : Room)).cells (({ frames := 1, cells := 0, slots := 0, locals := 12 } : Room)).slots) := by
  refine Go.met (plainFor_of_name pn0) ?_
  intro p e s m below meth c s₁ hx hby hml hown hnm hret hlk hZ e0 X0
  have N0 := Fr.nil n0
  refine Go.cast (ef_rec m a) ?_
  refine Go.st (U := (s₁.setTop (mkF m 1 #[.val (.ref a)] [(.ref a)]))) (fun t_ k_ => XS.aloadN X0.here hx rfl (hb hby d1_0) rfl rfl k_) ?_
  obtain ⟨Ti1, Xi1, ei1, sti1⟩ := initO X0 hx hZ hown (hw _ (List.mem_of_getElem? (i := 14) rfl)) (hw _ (List.mem_of_getElem? (i := 15) rfl)) (hw _ (List.mem_of_getElem? (i := 16) rfl)) e0 (g := (mkF m 1 #[.val (.ref a)] [(.ref a)])) rfl (by rw [hml]; rfl) rfl (hb hby d1_1) (by decide) (W := 0) (by show 2 * 0 + _ ≤ _; exact Nat.le_of_eq rfl) (by decide)
  refine Go.st (U := (Ti1.setTop (mkF m 4 #[.val (.ref a)] []))) sti1 ?_
  refine Go.retV (st := []) Xi1 hx hlk hret (hb hby d1_4) (by decide) (by decide) ?_
  show Q_rec Z a h0 n0 _ Ti1.heap _
  rw [ei1]
  exact ⟨rfl, N0, rfl⟩
theorem d3_0 : decode prog_5_method_2_code 0 = .ok (.iload_n 0, 1) := by decide +kernel
theorem d3_1 : decode prog_5_method_2_code 1 = .ok (.ifCond .eq 10, 3) := by decide +kernel
theorem d3_4 : decode prog_5_method_2_code 4 = .ok (.dload_n 2, 1) := by decide +kernel
theorem d3_5 : decode prog_5_method_2_code 5 = .ok (.invokestatic 7, 3) := by decide +kernel
theorem d3_8 : decode prog_5_method_2_code 8 = .ok (.ifCond .ne 18, 3) := by decide +kernel
theorem d3_11 : decode prog_5_method_2_code 11 = .ok (.new 13, 3) := by decide +kernel
theorem d3_14 : decode prog_5_method_2_code 14 = .ok (.dup, 1) := by decide +kernel
theorem d3_15 : decode prog_5_method_2_code 15 = .ok (.aload_n 1, 1) := by decide +kernel
theorem d3_16 : decode prog_5_method_2_code 16 = .ok (.dload_n 2, 1) := by decide +kernel
theorem d3_17 : decode prog_5_method_2_code 17 = .ok (.invokedynamic 15, 5) := by decide +kernel
theorem d3_22 : decode prog_5_method_2_code 22 = .ok (.invokespecial 19, 3) := by decide +kernel
theorem d3_25 : decode prog_5_method_2_code 25 = .ok (.athrow, 1) := by decide +kernel
theorem d3_26 : decode prog_5_method_2_code 26 = .ok (.return_, 1) := by decide +kernel
theorem pn1 : plainName "com/example/widemargin/widemargin/Arguments" = true := by first | (simp [plainName, overriddenIn]; done) | decide +kernel
def Q_req (Z : State) (z : Int32) (g : Addr) (u : UInt64) (h0 : Heap) (n0 : Nat) (v : Option Value) (h : Heap) (L : List Loc) : Prop := v = none ∧ Fr n0 L ∧ h = h0
theorem ef_req (m : MethodId) (y0 : Int32) (y1 : Addr) (y2 : UInt64) : entryFrame m #[(.int y0), (.ref y1), (.double y2)] 4 = mkF m 0 #[.val (.int y0), .val (.ref y1), .val (.double y2), .second] [] := by first | (simp [entryFrame, mkF, argsToLocals, Value.category, maxLocals]; done) | rfl
set_option maxRecDepth 65536 in
set_option maxHeartbeats 40000000 in
theorem rm_req (l : Launch) (Z : State) (a0 : Array Value) (hw : ∀ d ∈ tables_1, d.before a0 Z = true) (ws : List Jvm.Cond) (z : Int32) (g : Addr) (u : UInt64) (h0 : Heap) (n0 : Nat) (Z0 : n0 ≤ h0.size) (c1 : ¬ (z = (0 : Int32))) (hfin : Jvm.Free.Fl.Fin64 u) :
    MetFree l (⟨"com/example/widemargin/widemargin/Arguments", "require", "(ZLjava/lang/String;D)V"⟩ : MethodName) (head1 (Jvm.Cond.code (⟨"com/example/widemargin/widemargin/Arguments", "require", "(ZLjava/lang/String;D)V"⟩ : MethodName) prog_5_method_2_code 4 none :: ws) ({ frames := 2, cells := 0, slots := 0, locals := 26 } : Room)) (fun aa_ U => aa_ = #[(.int z), (.ref g), (.double u)] ∧ Z.Warmed39 U.vm ∧ U.heap = h0) (fun _ _ _ _ _ => True) (fun _ U o U' => ∃ v L, o = .returned v ∧ Q_req Z z g u h0 n0 v U'.heap L ∧ FrameEnd U o U' L (({ frames := 2, cells := 0, slots := 0, locals := 26 } : Room)).cells (({ frames := 2, cells := 0, slots := 0, locals := 26 } : Room)).slots) := by
  refine Go.met (plainFor_of_name pn1) ?_
  intro p e s m below meth c s₁ hx hby hml hown hnm hret hlk hZ e0 X0
  have N0 := Fr.nil n0
  refine Go.cast (ef_req m z g u) ?_
  refine Go.st (U := (s₁.setTop (mkF m 1 #[.val (.int z), .val (.ref g), .val (.double u), .second] [(.int z)]))) (fun t_ k_ => XS.iloadN X0.here hx rfl (hb hby d3_0) rfl k_) ?_
  refine Go.st (U := (s₁.setTop (mkF m 4 #[.val (.int z), .val (.ref g), .val (.double u), .second] []))) (fun t_ k_ => XS.ifNo X0.here hx rfl (hb hby d3_1) rfl ((if0 _ _).trans (feq c1).1) k_) ?_
  refine Go.st (U := (s₁.setTop (mkF m 5 #[.val (.int z), .val (.ref g), .val (.double u), .second] [(.double u)]))) (fun t_ k_ => XS.dloadN X0.here hx rfl (hb hby d3_4) rfl k_) ?_
  refine Go.isFin X0 hx hZ hown (hw _ (List.mem_of_getElem? (i := 29) rfl)) (hw _ (List.mem_of_getElem? (i := 30) rfl)) (hw _ (List.mem_of_getElem? (i := 31) rfl)) (hw _ (List.mem_of_getElem? (i := 32) rfl)) rfl (hw _ (List.mem_of_getElem? (i := 33) rfl)) (hw _ (List.mem_of_getElem? (i := 34) rfl)) (hw _ (List.mem_of_getElem? (i := 35) rfl)) (hw _ (List.mem_of_getElem? (i := 36) rfl)) rfl (hw _ (List.mem_of_getElem? (i := 37) rfl)) hfin e0 0 (by decide) (by decide) (g := (mkF m 5 #[.val (.int z), .val (.ref g), .val (.double u), .second] [(.double u)])) rfl (by rw [hml]; rfl) [] rfl (by show 2 * 0 + _ ≤ _; exact Nat.le_of_eq rfl) (hb hby d3_5) (by decide) (by decide) ?_
  intro Ti1 ei1 Xi1
  show Go p e below s _ _ (Ti1.setTop (mkF m 8 #[.val (.int z), .val (.ref g), .val (.double u), .second] [(.int (1 : Int32))]))
  refine Go.st (U := (Ti1.setTop (mkF m 26 #[.val (.int z), .val (.ref g), .val (.double u), .second] []))) (fun t_ k_ => XS.ifYes Xi1.here hx rfl (pc0 := 8) (pc' := 26) rfl (hb hby d3_8) rfl ((if0 _ _).trans (feq (by decide)).2) (by decide) (by decide) k_) ?_
  refine Go.retV (st := []) Xi1 hx hlk hret (hb hby d3_26) (by decide) (by decide) ?_
  show Q_req Z z g u h0 n0 _ Ti1.heap _
  rw [ei1]
  exact ⟨rfl, N0, rfl⟩
theorem d0_0 : decode prog_33_method_1_code 0 = .ok (.aload_n 0, 1) := by decide +kernel
theorem d0_1 : decode prog_33_method_1_code 1 = .ok (.invokespecial 1, 3) := by decide +kernel
theorem d0_4 : decode prog_33_method_1_code 4 = .ok (.dload_n 1, 1) := by decide +kernel
theorem d0_5 : decode prog_33_method_1_code 5 = .ok (.dconst 0, 1) := by decide +kernel
theorem d0_6 : decode prog_33_method_1_code 6 = .ok (.dcmp .l, 1) := by decide +kernel
theorem d0_7 : decode prog_33_method_1_code 7 = .ok (.ifCond .lt 7, 3) := by decide +kernel
theorem d0_10 : decode prog_33_method_1_code 10 = .ok (.iconst 1, 1) := by decide +kernel
theorem d0_11 : decode prog_33_method_1_code 11 = .ok (.goto 4, 3) := by decide +kernel
theorem d0_14 : decode prog_33_method_1_code 14 = .ok (.iconst 0, 1) := by decide +kernel
theorem d0_15 : decode prog_33_method_1_code 15 = .ok (.ldc 7, 2) := by decide +kernel
theorem d0_17 : decode prog_33_method_1_code 17 = .ok (.dload_n 1, 1) := by decide +kernel
theorem d0_18 : decode prog_33_method_1_code 18 = .ok (.invokestatic 9, 3) := by decide +kernel
theorem d0_21 : decode prog_33_method_1_code 21 = .ok (.dload_n 3, 1) := by decide +kernel
theorem d0_22 : decode prog_33_method_1_code 22 = .ok (.dconst 0, 1) := by decide +kernel
theorem d0_23 : decode prog_33_method_1_code 23 = .ok (.dcmp .l, 1) := by decide +kernel
theorem d0_24 : decode prog_33_method_1_code 24 = .ok (.ifCond .lt 7, 3) := by decide +kernel
theorem d0_27 : decode prog_33_method_1_code 27 = .ok (.iconst 1, 1) := by decide +kernel
theorem d0_28 : decode prog_33_method_1_code 28 = .ok (.goto 4, 3) := by decide +kernel
theorem d0_31 : decode prog_33_method_1_code 31 = .ok (.iconst 0, 1) := by decide +kernel
theorem d0_32 : decode prog_33_method_1_code 32 = .ok (.ldc 15, 2) := by decide +kernel
theorem d0_34 : decode prog_33_method_1_code 34 = .ok (.dload_n 3, 1) := by decide +kernel
theorem d0_35 : decode prog_33_method_1_code 35 = .ok (.invokestatic 9, 3) := by decide +kernel
theorem d0_38 : decode prog_33_method_1_code 38 = .ok (.aload_n 0, 1) := by decide +kernel
theorem d0_39 : decode prog_33_method_1_code 39 = .ok (.dload_n 1, 1) := by decide +kernel
theorem d0_40 : decode prog_33_method_1_code 40 = .ok (.putfield 17, 3) := by decide +kernel
theorem d0_43 : decode prog_33_method_1_code 43 = .ok (.aload_n 0, 1) := by decide +kernel
theorem d0_44 : decode prog_33_method_1_code 44 = .ok (.dload_n 3, 1) := by decide +kernel
theorem d0_45 : decode prog_33_method_1_code 45 = .ok (.putfield 23, 3) := by decide +kernel
theorem d0_48 : decode prog_33_method_1_code 48 = .ok (.return_, 1) := by decide +kernel
theorem pn2 : plainName "com/example/widemargin/widemargin/PredictionError" = true := by first | (simp [plainName, overriddenIn]; done) | decide +kernel
def Q_eb (Z : State) (a : Addr) (x0 : UInt64) (x1 : UInt64) (o0 : Value) (o1 : Value) (h0 : Heap) (n0 : Nat) (v : Option Value) (h : Heap) (L : List Loc) : Prop := v = none ∧ Fr n0 L ∧ Keep h0 h [a] ∧ Exa Z h a "com/example/widemargin/widemargin/PredictionError" ∧ Fld Z h a "com/example/widemargin/widemargin/PredictionError" "crossTrack" "D" (.double x0) ∧ Fld Z h a "com/example/widemargin/widemargin/PredictionError" "alongTrackRate" "D" (.double x1)
theorem ef_eb (m : MethodId) (y0 : Addr) (y1 : UInt64) (y2 : UInt64) : entryFrame m #[(.ref y0), (.double y1), (.double y2)] 5 = mkF m 0 #[.val (.ref y0), .val (.double y1), .second, .val (.double y2), .second] [] := by first | (simp [entryFrame, mkF, argsToLocals, Value.category, maxLocals]; done) | rfl
theorem pd0 : parseMethodDescriptor "()V" = some ⟨[], none⟩ := by decide +kernel
theorem pd1 : parseMethodDescriptor "(ZLjava/lang/String;D)V" = some ⟨[.boolean, .object "java/lang/String", .double], none⟩ := by decide +kernel
set_option maxRecDepth 65536 in
set_option maxHeartbeats 40000000 in
theorem rm_eb (l : Launch) (Z : State) (a0 : Array Value) (hw : ∀ d ∈ tables_1, d.before a0 Z = true) (ws : List Jvm.Cond) (a : Addr) (x0 : UInt64) (x1 : UInt64) (o0 : Value) (o1 : Value) (h0 : Heap) (n0 : Nat) (Z0 : n0 ≤ h0.size) (E0_a : Exa Z h0 a "com/example/widemargin/widemargin/PredictionError") (ge_a : n0 ≤ a) (F0_a_crossTrack : Fld Z h0 a "com/example/widemargin/widemargin/PredictionError" "crossTrack" "D" o0) (F0_a_alongTrackRate : Fld Z h0 a "com/example/widemargin/widemargin/PredictionError" "alongTrackRate" "D" o1) (c7 : ¬ (cmpValue (FP.dcmp x0 (0 : UInt64)) .l < (0 : Int32))) (f0 : Jvm.Free.Fl.Fin64 x0) (c24 : ¬ (cmpValue (FP.dcmp x1 (0 : UInt64)) .l < (0 : Int32))) (f1 : Jvm.Free.Fl.Fin64 x1) :
    MetFree l (⟨"com/example/widemargin/widemargin/PredictionError", "<init>", "(DD)V"⟩ : MethodName) (head1 (Jvm.Cond.code (⟨"com/example/widemargin/widemargin/PredictionError", "<init>", "(DD)V"⟩ : MethodName) prog_33_method_1_code 5 none :: ws) ({ frames := 3, cells := 4, slots := 648, locals := 44 } : Room)) (fun aa_ U => aa_ = #[(.ref a), (.double x0), (.double x1)] ∧ Z.Warmed39 U.vm ∧ U.heap = h0) (fun _ _ _ _ _ => True) (fun _ U o U' => ∃ v L, o = .returned v ∧ Q_eb Z a x0 x1 o0 o1 h0 n0 v U'.heap L ∧ ReturnedEndW U o U' L (({ frames := 3, cells := 4, slots := 648, locals := 44 } : Room)).cells (({ frames := 3, cells := 4, slots := 648, locals := 44 } : Room)).slots) := by
  refine GoW.met (plainFor_of_name pn2) ?_
  intro p e s m below meth c s₁ hx hby hml hown hnm hret hlk hZ e0 X0 hS
  have hk : 0 ≤ h0.size := Nat.zero_le _
  have N0 := Fr.nil n0
  refine GoW.cast (ef_eb m a x0 x1) ?_
  refine GoW.st (U := (s₁.setTop (mkF m 1 #[.val (.ref a), .val (.double x0), .second, .val (.double x1), .second] [(.ref a)]))) (fun t_ k_ => XS.aloadN X0.here hx rfl (hb hby d0_0) rfl rfl k_) ?_
  refine GoW.callI X0 hx hZ hown rfl (hw _ (List.mem_of_getElem? (i := 9) rfl)) (hw _ (List.mem_of_getElem? (i := 10) rfl)) (hw _ (List.mem_of_getElem? (i := 12) rfl)) (hw _ (List.mem_of_getElem? (i := 13) rfl)) (by decide) (rm_rec l Z a0 hw [] a h0 n0 Z0 ) e0 0 (by decide) (by decide) (g := (mkF m 1 #[.val (.ref a), .val (.double x0), .second, .val (.double x1), .second] [(.ref a)])) rfl (by rw [hml]; rfl) a [] [] rfl (lenOf pd0 rfl) rfl (by show 2 * 0 + _ ≤ _; exact Nat.le_of_eq rfl) (hb hby d0_1) (by decide) (by decide) ?_
  intro vi1 Ti1 Li1 hQi1 Xi1
  obtain ⟨rfl, Ni1, ei1⟩ := hQi1
  have Ni1 := Fr.app N0 Ni1
  show GoW p e below s _ _ (Ti1.setTop (mkF m 4 #[.val (.ref a), .val (.double x0), .second, .val (.double x1), .second] []))
  refine GoW.st (U := (Ti1.setTop (mkF m 5 #[.val (.ref a), .val (.double x0), .second, .val (.double x1), .second] [(.double x0)]))) (fun t_ k_ => XS.dloadN Xi1.here hx rfl (hb hby d0_4) rfl k_) ?_
  refine GoW.st (U := (Ti1.setTop (mkF m 6 #[.val (.ref a), .val (.double x0), .second, .val (.double x1), .second] [(.double (0 : UInt64)), (.double x0)]))) (fun t_ k_ => XS.dconst0 Xi1.here hx rfl (hb hby d0_5) rfl k_) ?_
  refine GoW.st (U := (Ti1.setTop (mkF m 7 #[.val (.ref a), .val (.double x0), .second, .val (.double x1), .second] [(.int (cmpValue (FP.dcmp x0 (0 : UInt64)) .l))]))) (fun t_ k_ => XS.dcmpS Xi1.here hx rfl (hb hby d0_6) rfl rfl k_) ?_
  refine GoW.st (U := (Ti1.setTop (mkF m 10 #[.val (.ref a), .val (.double x0), .second, .val (.double x1), .second] []))) (fun t_ k_ => XS.ifNo Xi1.here hx rfl (hb hby d0_7) rfl ((if0 _ _).trans (flt c7).1) k_) ?_
  refine GoW.st (U := (Ti1.setTop (mkF m 11 #[.val (.ref a), .val (.double x0), .second, .val (.double x1), .second] [(.int (1 : Int32))]))) (fun t_ k_ => XS.iconst Xi1.here hx rfl (hb hby d0_10) k_) ?_
  refine GoW.st (U := (Ti1.setTop (mkF m 15 #[.val (.ref a), .val (.double x0), .second, .val (.double x1), .second] [(.int (1 : Int32))]))) (fun t_ k_ => XS.goto Xi1.here hx rfl (pc0 := 11) (pc' := 15) rfl (hb hby d0_11) (by decide) (by decide) k_) ?_
  obtain ⟨ai2, Ti2, hi2, ki2, Xi2, ei2, Gi2, hS, hk, hZ, hown, sti2⟩ := ldcS Xi1 hx hZ hown (hw _ (List.mem_of_getElem? (i := 17) rfl)) (own_wS hw) ei1 hS hk (g := (mkF m 15 #[.val (.ref a), .val (.double x0), .second, .val (.double x1), .second] [(.int (1 : Int32))])) rfl (hb hby d0_15) (n := 320) (by decide +kernel) (by decide) (by decide) (by decide)
  have Fi2_a_crossTrack := Fld.ext Gi2 F0_a_crossTrack
  have Fi2_a_alongTrackRate := Fld.ext Gi2 F0_a_alongTrackRate
  have Ei2_a := Exa.ext Gi2 E0_a
  have Zi2 : n0 ≤ hi2.size := Nat.le_trans Z0 Gi2.1
  have Ki2 := Keep.ext (Keep.refl h0 [a]) Gi2
  refine GoW.st (U := (Ti2.setTop (mkF m 17 #[.val (.ref a), .val (.double x0), .second, .val (.double x1), .second] [(.ref ai2), (.int (1 : Int32))]))) sti2 ?_
  refine GoW.st (U := (Ti2.setTop (mkF m 18 #[.val (.ref a), .val (.double x0), .second, .val (.double x1), .second] [(.double x0), (.ref ai2), (.int (1 : Int32))]))) (fun t_ k_ => XS.dloadN Xi2.here hx rfl (hb hby d0_17) rfl k_) ?_
  refine GoW.callS Xi2 hx hZ hown (hw _ (List.mem_of_getElem? (i := 25) rfl)) (hw _ (List.mem_of_getElem? (i := 26) rfl)) (hw _ (List.mem_of_getElem? (i := 27) rfl)) (hw _ (List.mem_of_getElem? (i := 28) rfl)) (by decide) (rm_req l Z a0 hw [] (1 : Int32) ai2 x0 hi2 n0 Zi2 ((by decide)) f0) ei2 0 (by decide) (by decide) (g := (mkF m 18 #[.val (.ref a), .val (.double x0), .second, .val (.double x1), .second] [(.double x0), (.ref ai2), (.int (1 : Int32))])) rfl (by rw [hml]; rfl) [(.int (1 : Int32)), (.ref ai2), (.double x0)] [] rfl (lenOf pd1 rfl) rfl (by show 2 * 0 + _ ≤ _; exact Nat.le_of_eq rfl) (hb hby d0_18) (by decide) (by decide) ?_
  intro vi3 Ti3 Li3 hQi3 Xi3
  obtain ⟨rfl, Ni3, ei3⟩ := hQi3
  have Ni3 := Fr.app Ni1 Ni3
  show GoW p e below s _ _ (Ti3.setTop (mkF m 21 #[.val (.ref a), .val (.double x0), .second, .val (.double x1), .second] []))
  refine GoW.st (U := (Ti3.setTop (mkF m 22 #[.val (.ref a), .val (.double x0), .second, .val (.double x1), .second] [(.double x1)]))) (fun t_ k_ => XS.dloadN Xi3.here hx rfl (hb hby d0_21) rfl k_) ?_
  refine GoW.st (U := (Ti3.setTop (mkF m 23 #[.val (.ref a), .val (.double x0), .second, .val (.double x1), .second] [(.double (0 : UInt64)), (.double x1)]))) (fun t_ k_ => XS.dconst0 Xi3.here hx rfl (hb hby d0_22) rfl k_) ?_
  refine GoW.st (U := (Ti3.setTop (mkF m 24 #[.val (.ref a), .val (.double x0), .second, .val (.double x1), .second] [(.int (cmpValue (FP.dcmp x1 (0 : UInt64)) .l))]))) (fun t_ k_ => XS.dcmpS Xi3.here hx rfl (hb hby d0_23) rfl rfl k_) ?_
  refine GoW.st (U := (Ti3.setTop (mkF m 27 #[.val (.ref a), .val (.double x0), .second, .val (.double x1), .second] []))) (fun t_ k_ => XS.ifNo Xi3.here hx rfl (hb hby d0_24) rfl ((if0 _ _).trans (flt c24).1) k_) ?_
  refine GoW.st (U := (Ti3.setTop (mkF m 28 #[.val (.ref a), .val (.double x0), .second, .val (.double x1), .second] [(.int (1 : Int32))]))) (fun t_ k_ => XS.iconst Xi3.here hx rfl (hb hby d0_27) k_) ?_
  refine GoW.st (U := (Ti3.setTop (mkF m 32 #[.val (.ref a), .val (.double x0), .second, .val (.double x1), .second] [(.int (1 : Int32))]))) (fun t_ k_ => XS.goto Xi3.here hx rfl (pc0 := 28) (pc' := 32) rfl (hb hby d0_28) (by decide) (by decide) k_) ?_
  obtain ⟨ai4, Ti4, hi4, ki4, Xi4, ei4, Gi4, hS, hk, hZ, hown, sti4⟩ := ldcS Xi3 hx hZ hown (hw _ (List.mem_of_getElem? (i := 38) rfl)) (own_wS hw) ei3 hS hk (g := (mkF m 32 #[.val (.ref a), .val (.double x0), .second, .val (.double x1), .second] [(.int (1 : Int32))])) rfl (hb hby d0_32) (n := 320) (by decide +kernel) (by decide) (by decide) (by decide)
  have Fi4_a_crossTrack := Fld.ext Gi4 Fi2_a_crossTrack
  have Fi4_a_alongTrackRate := Fld.ext Gi4 Fi2_a_alongTrackRate
  have Ei4_a := Exa.ext Gi4 Ei2_a
  have Zi4 : n0 ≤ hi4.size := Nat.le_trans Zi2 Gi4.1
  have Ki4 := Keep.ext Ki2 Gi4
  refine GoW.st (U := (Ti4.setTop (mkF m 34 #[.val (.ref a), .val (.double x0), .second, .val (.double x1), .second] [(.ref ai4), (.int (1 : Int32))]))) sti4 ?_
  refine GoW.st (U := (Ti4.setTop (mkF m 35 #[.val (.ref a), .val (.double x0), .second, .val (.double x1), .second] [(.double x1), (.ref ai4), (.int (1 : Int32))]))) (fun t_ k_ => XS.dloadN Xi4.here hx rfl (hb hby d0_34) rfl k_) ?_
  refine GoW.callS Xi4 hx hZ hown (hw _ (List.mem_of_getElem? (i := 25) rfl)) (hw _ (List.mem_of_getElem? (i := 26) rfl)) (hw _ (List.mem_of_getElem? (i := 27) rfl)) (hw _ (List.mem_of_getElem? (i := 28) rfl)) (by decide) (rm_req l Z a0 hw [] (1 : Int32) ai4 x1 hi4 n0 Zi4 ((by decide)) f1) ei4 0 (by decide) (by decide) (g := (mkF m 35 #[.val (.ref a), .val (.double x0), .second, .val (.double x1), .second] [(.double x1), (.ref ai4), (.int (1 : Int32))])) rfl (by rw [hml]; rfl) [(.int (1 : Int32)), (.ref ai4), (.double x1)] [] rfl (lenOf pd1 rfl) rfl (by show 2 * 0 + _ ≤ _; exact Nat.le_of_eq rfl) (hb hby d0_35) (by decide) (by decide) ?_
  intro vi5 Ti5 Li5 hQi5 Xi5
  obtain ⟨rfl, Ni5, ei5⟩ := hQi5
  have Ni5 := Fr.app Ni3 Ni5
  show GoW p e below s _ _ (Ti5.setTop (mkF m 38 #[.val (.ref a), .val (.double x0), .second, .val (.double x1), .second] []))
  refine GoW.st (U := (Ti5.setTop (mkF m 39 #[.val (.ref a), .val (.double x0), .second, .val (.double x1), .second] [(.ref a)]))) (fun t_ k_ => XS.aloadN Xi5.here hx rfl (hb hby d0_38) rfl rfl k_) ?_
  refine GoW.st (U := (Ti5.setTop (mkF m 40 #[.val (.ref a), .val (.double x0), .second, .val (.double x1), .second] [(.double x0), (.ref a)]))) (fun t_ k_ => XS.dloadN Xi5.here hx rfl (hb hby d0_39) rfl k_) ?_
  obtain ⟨Ti6, hi6, Xi6, ei6, Wi6, sti6⟩ := putF Xi5 hx hZ hown (host := "") (Or.inl (hw _ (List.mem_of_getElem? (i := 39) rfl))) Via.refl ei5 Fi4_a_crossTrack Ei4_a (Or.inr ⟨(hw _ (List.mem_of_getElem? (i := 40) rfl)), rfl, hnm⟩) (hw _ (List.mem_of_getElem? (i := 3) rfl)) (ty := .double) (by decide) rfl rfl (g := (mkF m 40 #[.val (.ref a), .val (.double x0), .second, .val (.double x1), .second] [(.double x0), (.ref a)])) rfl rfl (hb hby d0_40)
  have Ni6 := Fr.snoc Xi6 Ni5 ge_a
  have Zi6 : n0 ≤ hi6.size := by rw [Wi6.size]; exact Zi4
  have hk := Nat.le_trans hk (Nat.le_of_eq (Wr.size Wi6).symm)
  have Fi6_a_crossTrack := Fld.same Wi6 Fi4_a_crossTrack
  have Fi6_a_alongTrackRate := Fld.other Wi6 Fi4_a_alongTrackRate (Or.inr (slot_ne (Or.inr (hw _ (List.mem_of_getElem? (i := 42) rfl))) (Or.inr (hw _ (List.mem_of_getElem? (i := 40) rfl))) (by decide) (t := .double) (t' := .double) (by decide) (by decide)))
  have Ei6_a := Exa.wr Wi6 Ei4_a
  have Ki6 := Keep.wr Ki4 Wi6 (Or.inl (List.mem_of_getElem? (i := 0) rfl))
  refine GoW.st (U := (Ti6.setTop (mkF m 43 #[.val (.ref a), .val (.double x0), .second, .val (.double x1), .second] []))) sti6 ?_
  refine GoW.st (U := (Ti6.setTop (mkF m 44 #[.val (.ref a), .val (.double x0), .second, .val (.double x1), .second] [(.ref a)]))) (fun t_ k_ => XS.aloadN Xi6.here hx rfl (hb hby d0_43) rfl rfl k_) ?_
  refine GoW.st (U := (Ti6.setTop (mkF m 45 #[.val (.ref a), .val (.double x0), .second, .val (.double x1), .second] [(.double x1), (.ref a)]))) (fun t_ k_ => XS.dloadN Xi6.here hx rfl (hb hby d0_44) rfl k_) ?_
  obtain ⟨Ti7, hi7, Xi7, ei7, Wi7, sti7⟩ := putF Xi6 hx hZ hown (host := "") (Or.inl (hw _ (List.mem_of_getElem? (i := 41) rfl))) Via.refl ei6 Fi6_a_alongTrackRate Ei6_a (Or.inr ⟨(hw _ (List.mem_of_getElem? (i := 42) rfl)), rfl, hnm⟩) (hw _ (List.mem_of_getElem? (i := 3) rfl)) (ty := .double) (by decide) rfl rfl (g := (mkF m 45 #[.val (.ref a), .val (.double x0), .second, .val (.double x1), .second] [(.double x1), (.ref a)])) rfl rfl (hb hby d0_45)
  have Ni7 := Fr.snoc Xi7 Ni6 ge_a
  have Zi7 : n0 ≤ hi7.size := by rw [Wi7.size]; exact Zi6
  have hk := Nat.le_trans hk (Nat.le_of_eq (Wr.size Wi7).symm)
  have Fi7_a_crossTrack := Fld.other Wi7 Fi6_a_crossTrack (Or.inr (slot_ne (Or.inr (hw _ (List.mem_of_getElem? (i := 40) rfl))) (Or.inr (hw _ (List.mem_of_getElem? (i := 42) rfl))) (by decide) (t := .double) (t' := .double) (by decide) (by decide)))
  have Fi7_a_alongTrackRate := Fld.same Wi7 Fi6_a_alongTrackRate
  have Ei7_a := Exa.wr Wi7 Ei6_a
  have Ki7 := Keep.wr Ki6 Wi7 (Or.inl (List.mem_of_getElem? (i := 0) rfl))
  refine GoW.st (U := (Ti7.setTop (mkF m 48 #[.val (.ref a), .val (.double x0), .second, .val (.double x1), .second] []))) sti7 ?_
  refine GoW.retV (st := []) Xi7 hS (by rw [ei7]; exact hk) hx hlk hret (hb hby d0_48) (by decide) (by decide) ?_
  show Q_eb Z a x0 x1 o0 o1 h0 n0 _ Ti7.heap _
  rw [ei7]
  exact ⟨rfl, Ni7, Ki7, Ei7_a, Fi7_a_crossTrack, Fi7_a_alongTrackRate⟩
theorem d6_0 : decode prog_33_method_2_code 0 = .ok (.aload_n 0, 1) := by decide +kernel
theorem d6_1 : decode prog_33_method_2_code 1 = .ok (.getfield 23, 3) := by decide +kernel
theorem d6_4 : decode prog_33_method_2_code 4 = .ok (.ldc2_w 28, 3) := by decide +kernel
theorem d6_7 : decode prog_33_method_2_code 7 = .ok (.ddiv, 1) := by decide +kernel
theorem d6_8 : decode prog_33_method_2_code 8 = .ok (.dload_n 1, 1) := by decide +kernel
theorem d6_9 : decode prog_33_method_2_code 9 = .ok (.dmul, 1) := by decide +kernel
theorem d6_10 : decode prog_33_method_2_code 10 = .ok (.dstore_n 3, 1) := by decide +kernel
theorem d6_11 : decode prog_33_method_2_code 11 = .ok (.dload_n 3, 1) := by decide +kernel
theorem d6_12 : decode prog_33_method_2_code 12 = .ok (.dload_n 3, 1) := by decide +kernel
theorem d6_13 : decode prog_33_method_2_code 13 = .ok (.dmul, 1) := by decide +kernel
theorem d6_14 : decode prog_33_method_2_code 14 = .ok (.dreturn, 1) := by decide +kernel
def Q_atv (Z : State) (a : Addr) (u : UInt64) (ra : UInt64) (h0 : Heap) (n0 : Nat) (v : Option Value) (h : Heap) (L : List Loc) : Prop := v = some (.double (FP.dmul (FP.dmul (FP.ddiv ra (4660134898793709568 : UInt64)) u) (FP.dmul (FP.ddiv ra (4660134898793709568 : UInt64)) u))) ∧ Fr n0 L ∧ h = h0
theorem ef_atv (m : MethodId) (y0 : Addr) (y1 : UInt64) : entryFrame m #[(.ref y0), (.double y1)] 5 = mkF m 0 #[.val (.ref y0), .val (.double y1), .second, .unset, .unset] [] := by first | (simp [entryFrame, mkF, argsToLocals, Value.category, maxLocals]; done) | rfl
set_option maxRecDepth 65536 in
set_option maxHeartbeats 40000000 in
theorem rm_atv (l : Launch) (Z : State) (a0 : Array Value) (hw : ∀ d ∈ tables_1, d.before a0 Z = true) (ws : List Jvm.Cond) (a : Addr) (u : UInt64) (ra : UInt64) (h0 : Heap) (n0 : Nat) (Z0 : n0 ≤ h0.size) (F0_a_alongTrackRate : Fld Z h0 a "com/example/widemargin/widemargin/PredictionError" "alongTrackRate" "D" (.double ra)) (n1 : Jvm.Free.Fl.NoNaN64 (FP.ddiv ra (4660134898793709568 : UInt64))) (n2 : Jvm.Free.Fl.NoNaN64 (FP.dmul (FP.ddiv ra (4660134898793709568 : UInt64)) u)) (n3 : Jvm.Free.Fl.NoNaN64 (FP.dmul (FP.dmul (FP.ddiv ra (4660134898793709568 : UInt64)) u) (FP.dmul (FP.ddiv ra (4660134898793709568 : UInt64)) u))) :
    MetFree l (⟨"com/example/widemargin/widemargin/PredictionError", "alongTrackVariance", "(D)D"⟩ : MethodName) (head1 (Jvm.Cond.code (⟨"com/example/widemargin/widemargin/PredictionError", "alongTrackVariance", "(D)D"⟩ : MethodName) prog_33_method_2_code 5 (some .double) :: ws) ({ frames := 0, cells := 0, slots := 0, locals := 0 } : Room)) (fun aa_ U => aa_ = #[(.ref a), (.double u)] ∧ Z.Warmed39 U.vm ∧ U.heap = h0) (fun _ _ _ _ _ => True) (fun _ U o U' => ∃ v L, o = .returned v ∧ Q_atv Z a u ra h0 n0 v U'.heap L ∧ FrameEnd U o U' L (({ frames := 0, cells := 0, slots := 0, locals := 0 } : Room)).cells (({ frames := 0, cells := 0, slots := 0, locals := 0 } : Room)).slots) := by
  refine Go.met (plainFor_of_name pn2) ?_
  intro p e s m below meth c s₁ hx hby hml hown hnm hret hlk hZ e0 X0
  have N0 := Fr.nil n0
  refine Go.cast (ef_atv m a u) ?_
  refine Go.st (U := (s₁.setTop (mkF m 1 #[.val (.ref a), .val (.double u), .second, .unset, .unset] [(.ref a)]))) (fun t_ k_ => XS.aloadN X0.here hx rfl (hb hby d6_0) rfl rfl k_) ?_
  obtain ⟨Ti1, Xi1, ei1, sti1⟩ := getF X0 hx hZ hown (host := "") (Or.inl (hw _ (List.mem_of_getElem? (i := 41) rfl))) Via.refl e0 F0_a_alongTrackRate (g := (mkF m 1 #[.val (.ref a), .val (.double u), .second, .unset, .unset] [(.ref a)])) rfl rfl (hb hby d6_1)
  refine Go.st (U := (Ti1.setTop (mkF m 4 #[.val (.ref a), .val (.double u), .second, .unset, .unset] [(.double ra)]))) sti1 ?_
  refine Go.st (U := (Ti1.setTop (mkF m 7 #[.val (.ref a), .val (.double u), .second, .unset, .unset] [(.double (4660134898793709568 : UInt64)), (.double ra)]))) (Xi1.ldc2DoubleC hx hown (mvT hZ (hw _ (List.mem_of_getElem? (i := 48) rfl))) (g := (mkF m 4 #[.val (.ref a), .val (.double u), .second, .unset, .unset] [(.double ra)])) rfl (hb hby d6_4)) ?_
  refine Go.st (U := (Ti1.setTop (mkF m 8 #[.val (.ref a), .val (.double u), .second, .unset, .unset] [(.double (FP.ddiv ra (4660134898793709568 : UInt64)))]))) (fun t_ k_ => XS.ddivS Xi1.here hx rfl (hb hby d6_7) rfl n1 rfl k_) ?_
  refine Go.st (U := (Ti1.setTop (mkF m 9 #[.val (.ref a), .val (.double u), .second, .unset, .unset] [(.double u), (.double (FP.ddiv ra (4660134898793709568 : UInt64)))]))) (fun t_ k_ => XS.dloadN Xi1.here hx rfl (hb hby d6_8) rfl k_) ?_
  refine Go.st (U := (Ti1.setTop (mkF m 10 #[.val (.ref a), .val (.double u), .second, .unset, .unset] [(.double (FP.dmul (FP.ddiv ra (4660134898793709568 : UInt64)) u))]))) (fun t_ k_ => XS.dmulS Xi1.here hx rfl (hb hby d6_9) rfl n2 rfl k_) ?_
  refine Go.st (U := (Ti1.setTop (mkF m 11 #[.val (.ref a), .val (.double u), .second, .val (.double (FP.dmul (FP.ddiv ra (4660134898793709568 : UInt64)) u)), .second] []))) (fun t_ k_ => XS.dstoreN Xi1.here hx rfl (hb hby d6_10) rfl (l' := #[.val (.ref a), .val (.double u), .second, .val (.double (FP.dmul (FP.ddiv ra (4660134898793709568 : UInt64)) u)), .second]) rfl k_) ?_
  refine Go.st (U := (Ti1.setTop (mkF m 12 #[.val (.ref a), .val (.double u), .second, .val (.double (FP.dmul (FP.ddiv ra (4660134898793709568 : UInt64)) u)), .second] [(.double (FP.dmul (FP.ddiv ra (4660134898793709568 : UInt64)) u))]))) (fun t_ k_ => XS.dloadN Xi1.here hx rfl (hb hby d6_11) rfl k_) ?_
  refine Go.st (U := (Ti1.setTop (mkF m 13 #[.val (.ref a), .val (.double u), .second, .val (.double (FP.dmul (FP.ddiv ra (4660134898793709568 : UInt64)) u)), .second] [(.double (FP.dmul (FP.ddiv ra (4660134898793709568 : UInt64)) u)), (.double (FP.dmul (FP.ddiv ra (4660134898793709568 : UInt64)) u))]))) (fun t_ k_ => XS.dloadN Xi1.here hx rfl (hb hby d6_12) rfl k_) ?_
  refine Go.st (U := (Ti1.setTop (mkF m 14 #[.val (.ref a), .val (.double u), .second, .val (.double (FP.dmul (FP.ddiv ra (4660134898793709568 : UInt64)) u)), .second] [(.double (FP.dmul (FP.dmul (FP.ddiv ra (4660134898793709568 : UInt64)) u) (FP.dmul (FP.ddiv ra (4660134898793709568 : UInt64)) u)))]))) (fun t_ k_ => XS.dmulS Xi1.here hx rfl (hb hby d6_13) rfl n3 rfl k_) ?_
  refine Go.retD Xi1 hx hlk hret (hb hby d6_14) (by decide) (by decide) ?_
  show Q_atv Z a u ra h0 n0 _ Ti1.heap _
  rw [ei1]
  exact ⟨rfl, N0, rfl⟩
theorem d7_0 : decode jdk_29_method_61_code 0 = .ok (.lload_n 0, 1) := by decide +kernel
theorem d7_1 : decode jdk_29_method_61_code 1 = .ok (.lconst 0, 1) := by decide +kernel
theorem d7_2 : decode jdk_29_method_61_code 2 = .ok (.lcmp, 1) := by decide +kernel
theorem d7_3 : decode jdk_29_method_61_code 3 = .ok (.ifCond .ge 8, 3) := by decide +kernel
theorem d7_6 : decode jdk_29_method_61_code 6 = .ok (.lload_n 0, 1) := by decide +kernel
theorem d7_7 : decode jdk_29_method_61_code 7 = .ok (.lneg, 1) := by decide +kernel
theorem d7_8 : decode jdk_29_method_61_code 8 = .ok (.goto 4, 3) := by decide +kernel
theorem d7_11 : decode jdk_29_method_61_code 11 = .ok (.lload_n 0, 1) := by decide +kernel
theorem d7_12 : decode jdk_29_method_61_code 12 = .ok (.lreturn, 1) := by decide +kernel
def Q_abs (Z : State) (k : Int64) (h0 : Heap) (n0 : Nat) (v : Option Value) (h : Heap) (L : List Loc) : Prop := v = some (.long (if lcmpW k (0 : Int64) < (0 : Int32) then -k else k)) ∧ Fr n0 L ∧ h = h0
theorem ef_abs (m : MethodId) (y0 : Int64) : entryFrame m #[(.long y0)] 2 = mkF m 0 #[.val (.long y0), .second] [] := by first | (simp [entryFrame, mkF, argsToLocals, Value.category, maxLocals]; done) | rfl
set_option maxRecDepth 65536 in
set_option maxHeartbeats 40000000 in
theorem rm_abs (l : Launch) (Z : State) (a0 : Array Value) (hw : ∀ d ∈ tables_1, d.before a0 Z = true) (ws : List Jvm.Cond) (k : Int64) (h0 : Heap) (n0 : Nat) (Z0 : n0 ≤ h0.size)  :
    MetFree l (⟨"java/lang/Math", "abs", "(J)J"⟩ : MethodName) (head1 (Jvm.Cond.code (⟨"java/lang/Math", "abs", "(J)J"⟩ : MethodName) jdk_29_method_61_code 2 (some .long) :: ws) ({ frames := 0, cells := 0, slots := 0, locals := 0 } : Room)) (fun aa_ U => aa_ = #[(.long k)] ∧ Z.Warmed39 U.vm ∧ U.heap = h0) (fun _ _ _ _ _ => True) (fun _ U o U' => ∃ v L, o = .returned v ∧ Q_abs Z k h0 n0 v U'.heap L ∧ FrameEnd U o U' L (({ frames := 0, cells := 0, slots := 0, locals := 0 } : Room)).cells (({ frames := 0, cells := 0, slots := 0, locals := 0 } : Room)).slots) := by
  refine Go.met (by decide +kernel) ?_
  intro p e s m below meth c s₁ hx hby hml hown hnm hret hlk hZ e0 X0
  have N0 := Fr.nil n0
  refine Go.cast (ef_abs m k) ?_
  refine Go.st (U := (s₁.setTop (mkF m 1 #[.val (.long k), .second] [(.long k)]))) (fun t_ k_ => XS.lloadN X0.here hx rfl (hb hby d7_0) rfl k_) ?_
  refine Go.st (U := (s₁.setTop (mkF m 2 #[.val (.long k), .second] [(.long (0 : Int64)), (.long k)]))) (fun t_ k_ => XS.lconst X0.here hx rfl (hb hby d7_1) k_) ?_
  refine Go.st (U := (s₁.setTop (mkF m 3 #[.val (.long k), .second] [(.int (lcmpW k (0 : Int64)))]))) (fun t_ k_ => XS.lcmp X0.here hx rfl (hb hby d7_2) rfl k_) ?_
  by_cases h3 : (lcmpW k (0 : Int64)) < (0 : Int32)
  · refine Go.st (U := (s₁.setTop (mkF m 6 #[.val (.long k), .second] []))) (fun t_ k_ => XS.ifNo X0.here hx rfl (hb hby d7_3) rfl ((if0 _ _).trans (tlt h3).2.1) k_) ?_
    refine Go.st (U := (s₁.setTop (mkF m 7 #[.val (.long k), .second] [(.long k)]))) (fun t_ k_ => XS.lloadN X0.here hx rfl (hb hby d7_6) rfl k_) ?_
    refine Go.st (U := (s₁.setTop (mkF m 8 #[.val (.long k), .second] [(.long (-k))]))) (fun t_ k_ => XS.lneg X0.here hx rfl (hb hby d7_7) rfl k_) ?_
    refine Go.st (U := (s₁.setTop (mkF m 12 #[.val (.long k), .second] [(.long (-k))]))) (fun t_ k_ => XS.goto X0.here hx rfl (pc0 := 8) (pc' := 12) rfl (hb hby d7_8) (by decide) (by decide) k_) ?_
    refine Go.retJ X0 hx hlk hret (hb hby d7_12) (by decide) (by decide) ?_
    show Q_abs Z k h0 n0 _ s₁.heap _
    rw [e0]
    exact ⟨(by rw [if_pos h3]), N0, rfl⟩
  · refine Go.st (U := (s₁.setTop (mkF m 11 #[.val (.long k), .second] []))) (fun t_ k_ => XS.ifYes X0.here hx rfl (pc0 := 3) (pc' := 11) rfl (hb hby d7_3) rfl ((if0 _ _).trans (flt h3).2.1) (by decide) (by decide) k_) ?_
    refine Go.st (U := (s₁.setTop (mkF m 12 #[.val (.long k), .second] [(.long k)]))) (fun t_ k_ => XS.lloadN X0.here hx rfl (hb hby d7_11) rfl k_) ?_
    refine Go.retJ X0 hx hlk hret (hb hby d7_12) (by decide) (by decide) ?_
    show Q_abs Z k h0 n0 _ s₁.heap _
    rw [e0]
    exact ⟨(by rw [if_neg h3]), N0, rfl⟩
theorem pn3 : plainName "com/example/widemargin/widemargin/PredictionErrorAlongTrackVariancePinLaw" = true := by first | (simp [plainName, overriddenIn]; done) | decide +kernel
def Q_law (Z : State) (p0 : Int32) (p1 : Int32) (p2 : Int32) (p3 : Int32) (p4 : Int32) (h0 : Heap) (n0 : Nat) (v : Option Value) (h : Heap) (L : List Loc) : Prop := v = some (.int 1) ∧ Fr n0 L
theorem ef_law (m : MethodId) (y0 : Int32) (y1 : Int32) (y2 : Int32) (y3 : Int32) (y4 : Int32) : entryFrame m #[(.int y0), (.int y1), (.int y2), (.int y3), (.int y4)] maxLocals = mkF m 0 #[.val (.int y0), .val (.int y1), .val (.int y2), .val (.int y3), .val (.int y4), .unset, .unset, .unset, .unset, .unset, .unset, .unset, .unset, .unset, .unset, .unset, .unset, .unset, .unset, .unset, .unset, .unset, .unset, .unset, .unset, .unset, .unset] [] := by first | (simp [entryFrame, mkF, argsToLocals, Value.category, maxLocals]; done) | rfl
theorem pd2 : parseMethodDescriptor "(DD)V" = some ⟨[.double, .double], none⟩ := by decide +kernel
theorem pd3 : parseMethodDescriptor "(D)D" = some ⟨[.double], some .double⟩ := by decide +kernel
theorem pd4 : parseMethodDescriptor "(J)J" = some ⟨[.long], some .long⟩ := by decide +kernel
set_option maxRecDepth 65536 in
set_option maxHeartbeats 40000000 in
theorem rm_law (l : Launch) (Z : State) (a0 : Array Value) (hw : ∀ d ∈ tables_1, d.before a0 Z = true) (ws : List Jvm.Cond) (p0 : Int32) (p1 : Int32) (p2 : Int32) (p3 : Int32) (p4 : Int32) (h0 : Heap) (n0 : Nat) (Z0 : n0 ≤ h0.size)  :
    MetFree l x (head1 (Jvm.Cond.code x code maxLocals ret :: ws) room_1) (fun aa_ U => aa_ = #[(.int p0), (.int p1), (.int p2), (.int p3), (.int p4)] ∧ Z.Warmed39 U.vm ∧ U.heap = h0) (fun _ _ _ _ _ => True) (fun _ U o U' => ∃ v L, o = .returned v ∧ Q_law Z p0 p1 p2 p3 p4 h0 n0 v U'.heap L ∧ ReturnedEndW U o U' L (room_1).cells (room_1).slots) := by
  refine GoW.met (plainFor_of_name pn3) ?_
  intro p e s m below meth c s₁ hx hby hml hown hnm hret hlk hZ e0 X0 hS
  have hk : 0 ≤ h0.size := Nat.zero_le _
  have hml : c.maxLocals = 27 := hml
  have N0 := Fr.nil n0
  refine GoW.cast (ef_law m p0 p1 p2 p3 p4) ?_
  refine GoW.st (U := (s₁.setTop (mkF m 1 #[.val (.int p0), .val (.int p1), .val (.int p2), .val (.int p3), .val (.int p4), .unset, .unset, .unset, .unset, .unset, .unset, .unset, .unset, .unset, .unset, .unset, .unset, .unset, .unset, .unset, .unset, .unset, .unset, .unset, .unset, .unset, .unset] [(.int p0)]))) (fun t_ k_ => XS.iloadN X0.here hx rfl (hb hby at_0) rfl k_) ?_
  refine GoW.st (U := (s₁.setTop (mkF m 3 #[.val (.int p0), .val (.int p1), .val (.int p2), .val (.int p3), .val (.int p4), .unset, .unset, .unset, .unset, .unset, .unset, .unset, .unset, .unset, .unset, .unset, .unset, .unset, .unset, .unset, .unset, .unset, .unset, .unset, .unset, .unset, .unset] [(.int (1048575 : Int32)), (.int p0)]))) (X0.ldcInt hx hown (mvT hZ (hw _ (List.mem_of_getElem? (i := 0) rfl))) (g := (mkF m 1 #[.val (.int p0), .val (.int p1), .val (.int p2), .val (.int p3), .val (.int p4), .unset, .unset, .unset, .unset, .unset, .unset, .unset, .unset, .unset, .unset, .unset, .unset, .unset, .unset, .unset, .unset, .unset, .unset, .unset, .unset, .unset, .unset] [(.int p0)])) rfl (hb hby at_1)) ?_
  refine GoW.st (U := (s₁.setTop (mkF m 4 #[.val (.int p0), .val (.int p1), .val (.int p2), .val (.int p3), .val (.int p4), .unset, .unset, .unset, .unset, .unset, .unset, .unset, .unset, .unset, .unset, .unset, .unset, .unset, .unset, .unset, .unset, .unset, .unset, .unset, .unset, .unset, .unset] [(.int (p0 &&& (1048575 : Int32)))]))) (fun t_ k_ => XS.iand X0.here hx rfl (hb hby at_3) rfl k_) ?_
  refine GoW.st (U := (s₁.setTop (mkF m 5 #[.val (.int p0), .val (.int p1), .val (.int p2), .val (.int p3), .val (.int p4), .unset, .unset, .unset, .unset, .unset, .unset, .unset, .unset, .unset, .unset, .unset, .unset, .unset, .unset, .unset, .unset, .unset, .unset, .unset, .unset, .unset, .unset] [(.long ((p0 &&& (1048575 : Int32)).toInt64))]))) (fun t_ k_ => XS.i2l X0.here hx rfl (hb hby at_4) rfl k_) ?_
  generalize q_kk : ((p0 &&& (1048575 : Int32)).toInt64) = kk
  refine GoW.st (U := (s₁.setTop (mkF m 7 #[.val (.int p0), .val (.int p1), .val (.int p2), .val (.int p3), .val (.int p4), .val (.long kk), .second, .unset, .unset, .unset, .unset, .unset, .unset, .unset, .unset, .unset, .unset, .unset, .unset, .unset, .unset, .unset, .unset, .unset, .unset, .unset, .unset] []))) (fun t_ k_ => XS.lstore X0.here hx rfl (hb hby at_5) rfl (l' := #[.val (.int p0), .val (.int p1), .val (.int p2), .val (.int p3), .val (.int p4), .val (.long kk), .second, .unset, .unset, .unset, .unset, .unset, .unset, .unset, .unset, .unset, .unset, .unset, .unset, .unset, .unset, .unset, .unset, .unset, .unset, .unset, .unset]) rfl k_) ?_
  have B_k := own_k q_kk
  obtain ⟨X1, X2, X3, X4, X5⟩ := own_ex (b := p1) B_k
  obtain ⟨R1, R2, R3⟩ := own_R (own_m24 p3)
  have I1 := Jvm.OwnFl.i2dI p1
  have I2 := Jvm.OwnFl.i2dI p4
  have J1 := own_i31 p1
  have J2 := own_i31 p4
  have V1 := own_dev R2 R3 I1 J1
  have V2 := own_dev R2 R3 (Jvm.OwnFl.negI I1) (by rw [Int.natAbs_neg]; exact J1)
  have V3 := own_dev R2 R3 I2 J2
  refine GoW.st (U := (s₁.setTop (mkF m 8 #[.val (.int p0), .val (.int p1), .val (.int p2), .val (.int p3), .val (.int p4), .val (.long kk), .second, .unset, .unset, .unset, .unset, .unset, .unset, .unset, .unset, .unset, .unset, .unset, .unset, .unset, .unset, .unset, .unset, .unset, .unset, .unset, .unset] [(.int p2)]))) (fun t_ k_ => XS.iloadN X0.here hx rfl (hb hby at_7) rfl k_) ?_
  refine GoW.st (U := (s₁.setTop (mkF m 10 #[.val (.int p0), .val (.int p1), .val (.int p2), .val (.int p3), .val (.int p4), .val (.long kk), .second, .unset, .unset, .unset, .unset, .unset, .unset, .unset, .unset, .unset, .unset, .unset, .unset, .unset, .unset, .unset, .unset, .unset, .unset, .unset, .unset] [(.int (65535 : Int32)), (.int p2)]))) (X0.ldcInt hx hown (mvT hZ (hw _ (List.mem_of_getElem? (i := 1) rfl))) (g := (mkF m 8 #[.val (.int p0), .val (.int p1), .val (.int p2), .val (.int p3), .val (.int p4), .val (.long kk), .second, .unset, .unset, .unset, .unset, .unset, .unset, .unset, .unset, .unset, .unset, .unset, .unset, .unset, .unset, .unset, .unset, .unset, .unset, .unset, .unset] [(.int p2)])) rfl (hb hby at_8)) ?_
  refine GoW.st (U := (s₁.setTop (mkF m 11 #[.val (.int p0), .val (.int p1), .val (.int p2), .val (.int p3), .val (.int p4), .val (.long kk), .second, .unset, .unset, .unset, .unset, .unset, .unset, .unset, .unset, .unset, .unset, .unset, .unset, .unset, .unset, .unset, .unset, .unset, .unset, .unset, .unset] [(.int (p2 &&& (65535 : Int32)))]))) (fun t_ k_ => XS.iand X0.here hx rfl (hb hby at_10) rfl k_) ?_
  refine GoW.st (U := (s₁.setTop (mkF m 12 #[.val (.int p0), .val (.int p1), .val (.int p2), .val (.int p3), .val (.int p4), .val (.long kk), .second, .unset, .unset, .unset, .unset, .unset, .unset, .unset, .unset, .unset, .unset, .unset, .unset, .unset, .unset, .unset, .unset, .unset, .unset, .unset, .unset] [(.double (FP.i2d (p2 &&& (65535 : Int32))))]))) (fun t_ k_ => XS.i2dS X0.here hx rfl (hb hby at_11) rfl rfl k_) ?_
  refine GoW.st (U := (s₁.setTop (mkF m 14 #[.val (.int p0), .val (.int p1), .val (.int p2), .val (.int p3), .val (.int p4), .val (.long kk), .second, .val (.double (FP.i2d (p2 &&& (65535 : Int32)))), .second, .unset, .unset, .unset, .unset, .unset, .unset, .unset, .unset, .unset, .unset, .unset, .unset, .unset, .unset, .unset, .unset, .unset, .unset] []))) (fun t_ k_ => XS.dstore X0.here hx rfl (hb hby at_12) rfl (l' := #[.val (.int p0), .val (.int p1), .val (.int p2), .val (.int p3), .val (.int p4), .val (.long kk), .second, .val (.double (FP.i2d (p2 &&& (65535 : Int32)))), .second, .unset, .unset, .unset, .unset, .unset, .unset, .unset, .unset, .unset, .unset, .unset, .unset, .unset, .unset, .unset, .unset, .unset, .unset]) rfl k_) ?_
  obtain ⟨Ti1, hi1, Xi1, ei1, Gi1, Ai1, Di1, -, sti1⟩ := newO X0 hx hZ hown (hw _ (List.mem_of_getElem? (i := 2) rfl)) (hw _ (List.mem_of_getElem? (i := 3) rfl)) (hw _ (List.mem_of_getElem? (i := 4) rfl)) e0 (g := (mkF m 14 #[.val (.int p0), .val (.int p1), .val (.int p2), .val (.int p3), .val (.int p4), .val (.long kk), .second, .val (.double (FP.i2d (p2 &&& (65535 : Int32)))), .second, .unset, .unset, .unset, .unset, .unset, .unset, .unset, .unset, .unset, .unset, .unset, .unset, .unset, .unset, .unset, .unset, .unset, .unset] [])) rfl (hb hby at_14) (by decide) (by decide)
  obtain ⟨bi1, gi1⟩ : ∃ z, z = h0.size := ⟨_, rfl⟩
  rw [← gi1] at Ai1 Di1 sti1
  have ge_bi1 : n0 ≤ bi1 := Nat.le_trans Z0 (Nat.le_of_eq gi1.symm)
  have sz_bi1 : h0.size ≤ bi1 := Nat.le_of_eq gi1.symm
  have sz0_bi1 : h0.size ≤ bi1 := Nat.le_trans (Keep.size_le (Keep.refl h0 [])) sz_bi1
  have Fi1_bi1_crossTrack : Fld Z hi1 bi1 "com/example/widemargin/widemargin/PredictionError" "crossTrack" "D" (.double 0) := Di1 (Or.inr (hw _ (List.mem_of_getElem? (i := 40) rfl))) (ty := .double) (by decide)
  have Fi1_bi1_alongTrackRate : Fld Z hi1 bi1 "com/example/widemargin/widemargin/PredictionError" "alongTrackRate" "D" (.double 0) := Di1 (Or.inr (hw _ (List.mem_of_getElem? (i := 42) rfl))) (ty := .double) (by decide)
  have Zi1 : n0 ≤ hi1.size := Nat.le_trans Z0 Gi1.1
  have hk := Nat.le_trans hk Gi1.1
  have Ki1 := Keep.ext (Keep.refl h0 []) Gi1
  refine GoW.st (U := (Ti1.setTop (mkF m 17 #[.val (.int p0), .val (.int p1), .val (.int p2), .val (.int p3), .val (.int p4), .val (.long kk), .second, .val (.double (FP.i2d (p2 &&& (65535 : Int32)))), .second, .unset, .unset, .unset, .unset, .unset, .unset, .unset, .unset, .unset, .unset, .unset, .unset, .unset, .unset, .unset, .unset, .unset, .unset] [(.ref bi1)]))) sti1 ?_
  refine GoW.st (U := (Ti1.setTop (mkF m 18 #[.val (.int p0), .val (.int p1), .val (.int p2), .val (.int p3), .val (.int p4), .val (.long kk), .second, .val (.double (FP.i2d (p2 &&& (65535 : Int32)))), .second, .unset, .unset, .unset, .unset, .unset, .unset, .unset, .unset, .unset, .unset, .unset, .unset, .unset, .unset, .unset, .unset, .unset, .unset] [(.ref bi1), (.ref bi1)]))) (fun t_ k_ => XS.dup Xi1.here hx rfl (hb hby at_17) rfl rfl k_) ?_
  refine GoW.st (U := (Ti1.setTop (mkF m 20 #[.val (.int p0), .val (.int p1), .val (.int p2), .val (.int p3), .val (.int p4), .val (.long kk), .second, .val (.double (FP.i2d (p2 &&& (65535 : Int32)))), .second, .unset, .unset, .unset, .unset, .unset, .unset, .unset, .unset, .unset, .unset, .unset, .unset, .unset, .unset, .unset, .unset, .unset, .unset] [(.double (FP.i2d (p2 &&& (65535 : Int32)))), (.ref bi1), (.ref bi1)]))) (fun t_ k_ => XS.dload Xi1.here hx rfl (hb hby at_18) rfl k_) ?_
  refine GoW.st (U := (Ti1.setTop (mkF m 23 #[.val (.int p0), .val (.int p1), .val (.int p2), .val (.int p3), .val (.int p4), .val (.long kk), .second, .val (.double (FP.i2d (p2 &&& (65535 : Int32)))), .second, .unset, .unset, .unset, .unset, .unset, .unset, .unset, .unset, .unset, .unset, .unset, .unset, .unset, .unset, .unset, .unset, .unset, .unset] [(.long (3600 : Int64)), (.double (FP.i2d (p2 &&& (65535 : Int32)))), (.ref bi1), (.ref bi1)]))) (Xi1.ldc2Long hx hown (mvT hZ (hw _ (List.mem_of_getElem? (i := 5) rfl))) (g := (mkF m 20 #[.val (.int p0), .val (.int p1), .val (.int p2), .val (.int p3), .val (.int p4), .val (.long kk), .second, .val (.double (FP.i2d (p2 &&& (65535 : Int32)))), .second, .unset, .unset, .unset, .unset, .unset, .unset, .unset, .unset, .unset, .unset, .unset, .unset, .unset, .unset, .unset, .unset, .unset, .unset] [(.double (FP.i2d (p2 &&& (65535 : Int32)))), (.ref bi1), (.ref bi1)])) rfl (hb hby at_20)) ?_
  refine GoW.st (U := (Ti1.setTop (mkF m 25 #[.val (.int p0), .val (.int p1), .val (.int p2), .val (.int p3), .val (.int p4), .val (.long kk), .second, .val (.double (FP.i2d (p2 &&& (65535 : Int32)))), .second, .unset, .unset, .unset, .unset, .unset, .unset, .unset, .unset, .unset, .unset, .unset, .unset, .unset, .unset, .unset, .unset, .unset, .unset] [(.long kk), (.long (3600 : Int64)), (.double (FP.i2d (p2 &&& (65535 : Int32)))), (.ref bi1), (.ref bi1)]))) (fun t_ k_ => XS.lload Xi1.here hx rfl (hb hby at_23) rfl k_) ?_
  refine GoW.st (U := (Ti1.setTop (mkF m 26 #[.val (.int p0), .val (.int p1), .val (.int p2), .val (.int p3), .val (.int p4), .val (.long kk), .second, .val (.double (FP.i2d (p2 &&& (65535 : Int32)))), .second, .unset, .unset, .unset, .unset, .unset, .unset, .unset, .unset, .unset, .unset, .unset, .unset, .unset, .unset, .unset, .unset, .unset, .unset] [(.long ((3600 : Int64) * kk)), (.double (FP.i2d (p2 &&& (65535 : Int32)))), (.ref bi1), (.ref bi1)]))) (fun t_ k_ => XS.lmul Xi1.here hx rfl (hb hby at_25) rfl k_) ?_
  refine GoW.st (U := (Ti1.setTop (mkF m 27 #[.val (.int p0), .val (.int p1), .val (.int p2), .val (.int p3), .val (.int p4), .val (.long kk), .second, .val (.double (FP.i2d (p2 &&& (65535 : Int32)))), .second, .unset, .unset, .unset, .unset, .unset, .unset, .unset, .unset, .unset, .unset, .unset, .unset, .unset, .unset, .unset, .unset, .unset, .unset] [(.double (FP.l2d ((3600 : Int64) * kk))), (.double (FP.i2d (p2 &&& (65535 : Int32)))), (.ref bi1), (.ref bi1)]))) (fun t_ k_ => XS.l2dS Xi1.here hx rfl (hb hby at_26) rfl rfl k_) ?_
  refine GoW.callIW Xi1 hS hk hx hZ hown rfl (hw _ (List.mem_of_getElem? (i := 6) rfl)) (hw _ (List.mem_of_getElem? (i := 7) rfl)) (hw _ (List.mem_of_getElem? (i := 4) rfl)) (hw _ (List.mem_of_getElem? (i := 8) rfl)) (by decide) (rm_eb l Z a0 hw [] bi1 (FP.i2d (p2 &&& (65535 : Int32))) (FP.l2d ((3600 : Int64) * kk)) (.double 0) (.double 0) hi1 n0 Zi1 Ai1 ge_bi1 Fi1_bi1_crossTrack Fi1_bi1_alongTrackRate ((own_i (own_m16 p2)).1) ((own_i (own_m16 p2)).2) ((own_rg B_k).1) ((own_rg B_k).2)) ei1 1 (by decide) (by decide) (g := (mkF m 27 #[.val (.int p0), .val (.int p1), .val (.int p2), .val (.int p3), .val (.int p4), .val (.long kk), .second, .val (.double (FP.i2d (p2 &&& (65535 : Int32)))), .second, .unset, .unset, .unset, .unset, .unset, .unset, .unset, .unset, .unset, .unset, .unset, .unset, .unset, .unset, .unset, .unset, .unset, .unset] [(.double (FP.l2d ((3600 : Int64) * kk))), (.double (FP.i2d (p2 &&& (65535 : Int32)))), (.ref bi1), (.ref bi1)])) rfl (by rw [hml]; rfl) bi1 [(.double (FP.i2d (p2 &&& (65535 : Int32)))), (.double (FP.l2d ((3600 : Int64) * kk)))] [(.ref bi1)] rfl (lenOf pd2 rfl) rfl (by show 2 * 0 + _ ≤ _; exact Nat.le_of_eq rfl) (hb hby at_27) (by decide) (by decide) ?_
  intro vi2 Ti2 Li2 hQi2 Xi2 hS hZ hown
  obtain ⟨rfl, Ni2, Ki2, Ei2_bi1, Fi2_bi1_crossTrack, Fi2_bi1_alongTrackRate⟩ := hQi2
  have Ni2 := Fr.app N0 Ni2
  have Zi2 : n0 ≤ Ti2.heap.size := Nat.le_trans Zi1 Ki2.1
  have hk : Ti2.heap.size ≤ Ti2.heap.size := Nat.le_refl _
  have Ki2 := Keep.trans Ki1 Ki2 (allS (Or.inr sz0_bi1) all0)
  show GoW p e below s _ _ (Ti2.setTop (mkF m 30 #[.val (.int p0), .val (.int p1), .val (.int p2), .val (.int p3), .val (.int p4), .val (.long kk), .second, .val (.double (FP.i2d (p2 &&& (65535 : Int32)))), .second, .unset, .unset, .unset, .unset, .unset, .unset, .unset, .unset, .unset, .unset, .unset, .unset, .unset, .unset, .unset, .unset, .unset, .unset] [(.ref bi1)]))
  refine GoW.st (U := (Ti2.setTop (mkF m 32 #[.val (.int p0), .val (.int p1), .val (.int p2), .val (.int p3), .val (.int p4), .val (.long kk), .second, .val (.double (FP.i2d (p2 &&& (65535 : Int32)))), .second, .val (.ref bi1), .unset, .unset, .unset, .unset, .unset, .unset, .unset, .unset, .unset, .unset, .unset, .unset, .unset, .unset, .unset, .unset, .unset] []))) (fun t_ k_ => XS.astore Xi2.here hx rfl (hb hby at_30) rfl rfl (l' := #[.val (.int p0), .val (.int p1), .val (.int p2), .val (.int p3), .val (.int p4), .val (.long kk), .second, .val (.double (FP.i2d (p2 &&& (65535 : Int32)))), .second, .val (.ref bi1), .unset, .unset, .unset, .unset, .unset, .unset, .unset, .unset, .unset, .unset, .unset, .unset, .unset, .unset, .unset, .unset, .unset]) rfl k_) ?_
  refine GoW.st (U := (Ti2.setTop (mkF m 34 #[.val (.int p0), .val (.int p1), .val (.int p2), .val (.int p3), .val (.int p4), .val (.long kk), .second, .val (.double (FP.i2d (p2 &&& (65535 : Int32)))), .second, .val (.ref bi1), .unset, .unset, .unset, .unset, .unset, .unset, .unset, .unset, .unset, .unset, .unset, .unset, .unset, .unset, .unset, .unset, .unset] [(.long kk)]))) (fun t_ k_ => XS.lload Xi2.here hx rfl (hb hby at_32) rfl k_) ?_
  refine GoW.st (U := (Ti2.setTop (mkF m 35 #[.val (.int p0), .val (.int p1), .val (.int p2), .val (.int p3), .val (.int p4), .val (.long kk), .second, .val (.double (FP.i2d (p2 &&& (65535 : Int32)))), .second, .val (.ref bi1), .unset, .unset, .unset, .unset, .unset, .unset, .unset, .unset, .unset, .unset, .unset, .unset, .unset, .unset, .unset, .unset, .unset] [(.int p1), (.long kk)]))) (fun t_ k_ => XS.iloadN Xi2.here hx rfl (hb hby at_34) rfl k_) ?_
  refine GoW.st (U := (Ti2.setTop (mkF m 36 #[.val (.int p0), .val (.int p1), .val (.int p2), .val (.int p3), .val (.int p4), .val (.long kk), .second, .val (.double (FP.i2d (p2 &&& (65535 : Int32)))), .second, .val (.ref bi1), .unset, .unset, .unset, .unset, .unset, .unset, .unset, .unset, .unset, .unset, .unset, .unset, .unset, .unset, .unset, .unset, .unset] [(.long (p1.toInt64)), (.long kk)]))) (fun t_ k_ => XS.i2l Xi2.here hx rfl (hb hby at_35) rfl k_) ?_
  refine GoW.st (U := (Ti2.setTop (mkF m 37 #[.val (.int p0), .val (.int p1), .val (.int p2), .val (.int p3), .val (.int p4), .val (.long kk), .second, .val (.double (FP.i2d (p2 &&& (65535 : Int32)))), .second, .val (.ref bi1), .unset, .unset, .unset, .unset, .unset, .unset, .unset, .unset, .unset, .unset, .unset, .unset, .unset, .unset, .unset, .unset, .unset] [(.long (kk * (p1.toInt64)))]))) (fun t_ k_ => XS.lmul Xi2.here hx rfl (hb hby at_36) rfl k_) ?_
  refine GoW.st (U := (Ti2.setTop (mkF m 38 #[.val (.int p0), .val (.int p1), .val (.int p2), .val (.int p3), .val (.int p4), .val (.long kk), .second, .val (.double (FP.i2d (p2 &&& (65535 : Int32)))), .second, .val (.ref bi1), .unset, .unset, .unset, .unset, .unset, .unset, .unset, .unset, .unset, .unset, .unset, .unset, .unset, .unset, .unset, .unset, .unset] [(.double (FP.l2d (kk * (p1.toInt64))))]))) (fun t_ k_ => XS.l2dS Xi2.here hx rfl (hb hby at_37) rfl rfl k_) ?_
  refine GoW.st (U := (Ti2.setTop (mkF m 40 #[.val (.int p0), .val (.int p1), .val (.int p2), .val (.int p3), .val (.int p4), .val (.long kk), .second, .val (.double (FP.i2d (p2 &&& (65535 : Int32)))), .second, .val (.ref bi1), .val (.double (FP.l2d (kk * (p1.toInt64)))), .second, .unset, .unset, .unset, .unset, .unset, .unset, .unset, .unset, .unset, .unset, .unset, .unset, .unset, .unset, .unset] []))) (fun t_ k_ => XS.dstore Xi2.here hx rfl (hb hby at_38) rfl (l' := #[.val (.int p0), .val (.int p1), .val (.int p2), .val (.int p3), .val (.int p4), .val (.long kk), .second, .val (.double (FP.i2d (p2 &&& (65535 : Int32)))), .second, .val (.ref bi1), .val (.double (FP.l2d (kk * (p1.toInt64)))), .second, .unset, .unset, .unset, .unset, .unset, .unset, .unset, .unset, .unset, .unset, .unset, .unset, .unset, .unset, .unset]) rfl k_) ?_
  refine GoW.st (U := (Ti2.setTop (mkF m 42 #[.val (.int p0), .val (.int p1), .val (.int p2), .val (.int p3), .val (.int p4), .val (.long kk), .second, .val (.double (FP.i2d (p2 &&& (65535 : Int32)))), .second, .val (.ref bi1), .val (.double (FP.l2d (kk * (p1.toInt64)))), .second, .unset, .unset, .unset, .unset, .unset, .unset, .unset, .unset, .unset, .unset, .unset, .unset, .unset, .unset, .unset] [(.ref bi1)]))) (fun t_ k_ => XS.aload Xi2.here hx rfl (hb hby at_40) rfl rfl k_) ?_
  refine GoW.st (U := (Ti2.setTop (mkF m 43 #[.val (.int p0), .val (.int p1), .val (.int p2), .val (.int p3), .val (.int p4), .val (.long kk), .second, .val (.double (FP.i2d (p2 &&& (65535 : Int32)))), .second, .val (.ref bi1), .val (.double (FP.l2d (kk * (p1.toInt64)))), .second, .unset, .unset, .unset, .unset, .unset, .unset, .unset, .unset, .unset, .unset, .unset, .unset, .unset, .unset, .unset] [(.int p1), (.ref bi1)]))) (fun t_ k_ => XS.iloadN Xi2.here hx rfl (hb hby at_42) rfl k_) ?_
  refine GoW.st (U := (Ti2.setTop (mkF m 44 #[.val (.int p0), .val (.int p1), .val (.int p2), .val (.int p3), .val (.int p4), .val (.long kk), .second, .val (.double (FP.i2d (p2 &&& (65535 : Int32)))), .second, .val (.ref bi1), .val (.double (FP.l2d (kk * (p1.toInt64)))), .second, .unset, .unset, .unset, .unset, .unset, .unset, .unset, .unset, .unset, .unset, .unset, .unset, .unset, .unset, .unset] [(.double (FP.i2d p1)), (.ref bi1)]))) (fun t_ k_ => XS.i2dS Xi2.here hx rfl (hb hby at_43) rfl rfl k_) ?_
  refine GoW.callV Xi2 hx hZ hown (hw _ (List.mem_of_getElem? (i := 43) rfl)) (hw _ (List.mem_of_getElem? (i := 44) rfl)) (hw _ (List.mem_of_getElem? (i := 46) rfl)) (hw _ (List.mem_of_getElem? (i := 45) rfl)) (hw _ (List.mem_of_getElem? (i := 4) rfl)) (hw _ (List.mem_of_getElem? (i := 47) rfl)) (by decide) (rm_atv l Z a0 hw [] bi1 (FP.i2d p1) (FP.l2d ((3600 : Int64) * kk)) Ti2.heap n0 Zi2 Fi2_bi1_alongTrackRate X1 X2 X3) (rfl : Ti2.heap = Ti2.heap) bi1 Ei2_bi1 0 (by decide) (by decide) (g := (mkF m 44 #[.val (.int p0), .val (.int p1), .val (.int p2), .val (.int p3), .val (.int p4), .val (.long kk), .second, .val (.double (FP.i2d (p2 &&& (65535 : Int32)))), .second, .val (.ref bi1), .val (.double (FP.l2d (kk * (p1.toInt64)))), .second, .unset, .unset, .unset, .unset, .unset, .unset, .unset, .unset, .unset, .unset, .unset, .unset, .unset, .unset, .unset] [(.double (FP.i2d p1)), (.ref bi1)])) rfl (by rw [hml]; rfl) [(.double (FP.i2d p1))] [] rfl (lenOf pd3 rfl) rfl (by show 2 * 0 + _ ≤ _; exact Nat.le_of_eq rfl) (hb hby at_44) (by decide) (by decide) ?_
  intro vi3 Ti3 Li3 hQi3 Xi3
  obtain ⟨rfl, Ni3, ei3⟩ := hQi3
  have Ni3 := Fr.app Ni2 Ni3
  show GoW p e below s _ _ (Ti3.setTop (mkF m 47 #[.val (.int p0), .val (.int p1), .val (.int p2), .val (.int p3), .val (.int p4), .val (.long kk), .second, .val (.double (FP.i2d (p2 &&& (65535 : Int32)))), .second, .val (.ref bi1), .val (.double (FP.l2d (kk * (p1.toInt64)))), .second, .unset, .unset, .unset, .unset, .unset, .unset, .unset, .unset, .unset, .unset, .unset, .unset, .unset, .unset, .unset] [(.double (FP.dmul (FP.dmul (FP.ddiv (FP.l2d ((3600 : Int64) * kk)) (4660134898793709568 : UInt64)) (FP.i2d p1)) (FP.dmul (FP.ddiv (FP.l2d ((3600 : Int64) * kk)) (4660134898793709568 : UInt64)) (FP.i2d p1))))]))
  refine GoW.st (U := (Ti3.setTop (mkF m 49 #[.val (.int p0), .val (.int p1), .val (.int p2), .val (.int p3), .val (.int p4), .val (.long kk), .second, .val (.double (FP.i2d (p2 &&& (65535 : Int32)))), .second, .val (.ref bi1), .val (.double (FP.l2d (kk * (p1.toInt64)))), .second, .unset, .unset, .unset, .unset, .unset, .unset, .unset, .unset, .unset, .unset, .unset, .unset, .unset, .unset, .unset] [(.double (FP.l2d (kk * (p1.toInt64)))), (.double (FP.dmul (FP.dmul (FP.ddiv (FP.l2d ((3600 : Int64) * kk)) (4660134898793709568 : UInt64)) (FP.i2d p1)) (FP.dmul (FP.ddiv (FP.l2d ((3600 : Int64) * kk)) (4660134898793709568 : UInt64)) (FP.i2d p1))))]))) (fun t_ k_ => XS.dload Xi3.here hx rfl (hb hby at_47) rfl k_) ?_
  refine GoW.st (U := (Ti3.setTop (mkF m 51 #[.val (.int p0), .val (.int p1), .val (.int p2), .val (.int p3), .val (.int p4), .val (.long kk), .second, .val (.double (FP.i2d (p2 &&& (65535 : Int32)))), .second, .val (.ref bi1), .val (.double (FP.l2d (kk * (p1.toInt64)))), .second, .unset, .unset, .unset, .unset, .unset, .unset, .unset, .unset, .unset, .unset, .unset, .unset, .unset, .unset, .unset] [(.double (FP.l2d (kk * (p1.toInt64)))), (.double (FP.l2d (kk * (p1.toInt64)))), (.double (FP.dmul (FP.dmul (FP.ddiv (FP.l2d ((3600 : Int64) * kk)) (4660134898793709568 : UInt64)) (FP.i2d p1)) (FP.dmul (FP.ddiv (FP.l2d ((3600 : Int64) * kk)) (4660134898793709568 : UInt64)) (FP.i2d p1))))]))) (fun t_ k_ => XS.dload Xi3.here hx rfl (hb hby at_49) rfl k_) ?_
  refine GoW.st (U := (Ti3.setTop (mkF m 52 #[.val (.int p0), .val (.int p1), .val (.int p2), .val (.int p3), .val (.int p4), .val (.long kk), .second, .val (.double (FP.i2d (p2 &&& (65535 : Int32)))), .second, .val (.ref bi1), .val (.double (FP.l2d (kk * (p1.toInt64)))), .second, .unset, .unset, .unset, .unset, .unset, .unset, .unset, .unset, .unset, .unset, .unset, .unset, .unset, .unset, .unset] [(.double (FP.dmul (FP.l2d (kk * (p1.toInt64))) (FP.l2d (kk * (p1.toInt64))))), (.double (FP.dmul (FP.dmul (FP.ddiv (FP.l2d ((3600 : Int64) * kk)) (4660134898793709568 : UInt64)) (FP.i2d p1)) (FP.dmul (FP.ddiv (FP.l2d ((3600 : Int64) * kk)) (4660134898793709568 : UInt64)) (FP.i2d p1))))]))) (fun t_ k_ => XS.dmulS Xi3.here hx rfl (hb hby at_51) rfl X4 rfl k_) ?_
  refine GoW.st (U := (Ti3.setTop (mkF m 53 #[.val (.int p0), .val (.int p1), .val (.int p2), .val (.int p3), .val (.int p4), .val (.long kk), .second, .val (.double (FP.i2d (p2 &&& (65535 : Int32)))), .second, .val (.ref bi1), .val (.double (FP.l2d (kk * (p1.toInt64)))), .second, .unset, .unset, .unset, .unset, .unset, .unset, .unset, .unset, .unset, .unset, .unset, .unset, .unset, .unset, .unset] [(.int (cmpValue (FP.dcmp (FP.dmul (FP.dmul (FP.ddiv (FP.l2d ((3600 : Int64) * kk)) (4660134898793709568 : UInt64)) (FP.i2d p1)) (FP.dmul (FP.ddiv (FP.l2d ((3600 : Int64) * kk)) (4660134898793709568 : UInt64)) (FP.i2d p1))) (FP.dmul (FP.l2d (kk * (p1.toInt64))) (FP.l2d (kk * (p1.toInt64))))) .l))]))) (fun t_ k_ => XS.dcmpS Xi3.here hx rfl (hb hby at_52) rfl rfl k_) ?_
  refine GoW.st (U := (Ti3.setTop (mkF m 56 #[.val (.int p0), .val (.int p1), .val (.int p2), .val (.int p3), .val (.int p4), .val (.long kk), .second, .val (.double (FP.i2d (p2 &&& (65535 : Int32)))), .second, .val (.ref bi1), .val (.double (FP.l2d (kk * (p1.toInt64)))), .second, .unset, .unset, .unset, .unset, .unset, .unset, .unset, .unset, .unset, .unset, .unset, .unset, .unset, .unset, .unset] []))) (fun t_ k_ => XS.ifNo Xi3.here hx rfl (hb hby at_53) rfl ((if0 _ _).trans (teq X5).2) k_) ?_
  refine GoW.st (U := (Ti3.setTop (mkF m 57 #[.val (.int p0), .val (.int p1), .val (.int p2), .val (.int p3), .val (.int p4), .val (.long kk), .second, .val (.double (FP.i2d (p2 &&& (65535 : Int32)))), .second, .val (.ref bi1), .val (.double (FP.l2d (kk * (p1.toInt64)))), .second, .unset, .unset, .unset, .unset, .unset, .unset, .unset, .unset, .unset, .unset, .unset, .unset, .unset, .unset, .unset] [(.int (1 : Int32))]))) (fun t_ k_ => XS.iconst Xi3.here hx rfl (hb hby at_56) k_) ?_
  refine GoW.st (U := (Ti3.setTop (mkF m 61 #[.val (.int p0), .val (.int p1), .val (.int p2), .val (.int p3), .val (.int p4), .val (.long kk), .second, .val (.double (FP.i2d (p2 &&& (65535 : Int32)))), .second, .val (.ref bi1), .val (.double (FP.l2d (kk * (p1.toInt64)))), .second, .unset, .unset, .unset, .unset, .unset, .unset, .unset, .unset, .unset, .unset, .unset, .unset, .unset, .unset, .unset] [(.int (1 : Int32))]))) (fun t_ k_ => XS.goto Xi3.here hx rfl (pc0 := 57) (pc' := 61) rfl (hb hby at_57) (by decide) (by decide) k_) ?_
  refine GoW.st (U := (Ti3.setTop (mkF m 63 #[.val (.int p0), .val (.int p1), .val (.int p2), .val (.int p3), .val (.int p4), .val (.long kk), .second, .val (.double (FP.i2d (p2 &&& (65535 : Int32)))), .second, .val (.ref bi1), .val (.double (FP.l2d (kk * (p1.toInt64)))), .second, .val (.int (1 : Int32)), .unset, .unset, .unset, .unset, .unset, .unset, .unset, .unset, .unset, .unset, .unset, .unset, .unset, .unset] []))) (fun t_ k_ => XS.istore Xi3.here hx rfl (hb hby at_61) rfl (l' := #[.val (.int p0), .val (.int p1), .val (.int p2), .val (.int p3), .val (.int p4), .val (.long kk), .second, .val (.double (FP.i2d (p2 &&& (65535 : Int32)))), .second, .val (.ref bi1), .val (.double (FP.l2d (kk * (p1.toInt64)))), .second, .val (.int (1 : Int32)), .unset, .unset, .unset, .unset, .unset, .unset, .unset, .unset, .unset, .unset, .unset, .unset, .unset, .unset]) rfl k_) ?_
  obtain ⟨Ti4, hi4, Xi4, ei4, Gi4, Ai4, Di4, -, sti4⟩ := newO Xi3 hx hZ hown (hw _ (List.mem_of_getElem? (i := 2) rfl)) (hw _ (List.mem_of_getElem? (i := 3) rfl)) (hw _ (List.mem_of_getElem? (i := 4) rfl)) ei3 (g := (mkF m 63 #[.val (.int p0), .val (.int p1), .val (.int p2), .val (.int p3), .val (.int p4), .val (.long kk), .second, .val (.double (FP.i2d (p2 &&& (65535 : Int32)))), .second, .val (.ref bi1), .val (.double (FP.l2d (kk * (p1.toInt64)))), .second, .val (.int (1 : Int32)), .unset, .unset, .unset, .unset, .unset, .unset, .unset, .unset, .unset, .unset, .unset, .unset, .unset, .unset] [])) rfl (hb hby at_63) (by decide) (by decide)
  obtain ⟨bi4, gi4⟩ : ∃ z, z = Ti2.heap.size := ⟨_, rfl⟩
  rw [← gi4] at Ai4 Di4 sti4
  have ge_bi4 : n0 ≤ bi4 := Nat.le_trans Zi2 (Nat.le_of_eq gi4.symm)
  have sz_bi4 : Ti2.heap.size ≤ bi4 := Nat.le_of_eq gi4.symm
  have sz0_bi4 : h0.size ≤ bi4 := Nat.le_trans (Keep.size_le Ki2) sz_bi4
  have ne_bi1_bi4 : bi1 ≠ bi4 := Nat.ne_of_lt (Nat.lt_of_lt_of_le (Exa.lt Ei2_bi1) sz_bi4)
  have Fi4_bi1_alongTrackRate := Fld.ext Gi4 Fi2_bi1_alongTrackRate
  have Ei4_bi1 := Exa.ext Gi4 Ei2_bi1
  have Fi4_bi4_crossTrack : Fld Z hi4 bi4 "com/example/widemargin/widemargin/PredictionError" "crossTrack" "D" (.double 0) := Di4 (Or.inr (hw _ (List.mem_of_getElem? (i := 40) rfl))) (ty := .double) (by decide)
  have Fi4_bi4_alongTrackRate : Fld Z hi4 bi4 "com/example/widemargin/widemargin/PredictionError" "alongTrackRate" "D" (.double 0) := Di4 (Or.inr (hw _ (List.mem_of_getElem? (i := 42) rfl))) (ty := .double) (by decide)
  have Zi4 : n0 ≤ hi4.size := Nat.le_trans Zi2 Gi4.1
  have hk := Nat.le_trans hk Gi4.1
  have Ki4 := Keep.ext Ki2 Gi4
  refine GoW.st (U := (Ti4.setTop (mkF m 66 #[.val (.int p0), .val (.int p1), .val (.int p2), .val (.int p3), .val (.int p4), .val (.long kk), .second, .val (.double (FP.i2d (p2 &&& (65535 : Int32)))), .second, .val (.ref bi1), .val (.double (FP.l2d (kk * (p1.toInt64)))), .second, .val (.int (1 : Int32)), .unset, .unset, .unset, .unset, .unset, .unset, .unset, .unset, .unset, .unset, .unset, .unset, .unset, .unset] [(.ref bi4)]))) sti4 ?_
  refine GoW.st (U := (Ti4.setTop (mkF m 67 #[.val (.int p0), .val (.int p1), .val (.int p2), .val (.int p3), .val (.int p4), .val (.long kk), .second, .val (.double (FP.i2d (p2 &&& (65535 : Int32)))), .second, .val (.ref bi1), .val (.double (FP.l2d (kk * (p1.toInt64)))), .second, .val (.int (1 : Int32)), .unset, .unset, .unset, .unset, .unset, .unset, .unset, .unset, .unset, .unset, .unset, .unset, .unset, .unset] [(.ref bi4), (.ref bi4)]))) (fun t_ k_ => XS.dup Xi4.here hx rfl (hb hby at_66) rfl rfl k_) ?_
  refine GoW.st (U := (Ti4.setTop (mkF m 69 #[.val (.int p0), .val (.int p1), .val (.int p2), .val (.int p3), .val (.int p4), .val (.long kk), .second, .val (.double (FP.i2d (p2 &&& (65535 : Int32)))), .second, .val (.ref bi1), .val (.double (FP.l2d (kk * (p1.toInt64)))), .second, .val (.int (1 : Int32)), .unset, .unset, .unset, .unset, .unset, .unset, .unset, .unset, .unset, .unset, .unset, .unset, .unset, .unset] [(.double (FP.i2d (p2 &&& (65535 : Int32)))), (.ref bi4), (.ref bi4)]))) (fun t_ k_ => XS.dload Xi4.here hx rfl (hb hby at_67) rfl k_) ?_
  refine GoW.st (U := (Ti4.setTop (mkF m 70 #[.val (.int p0), .val (.int p1), .val (.int p2), .val (.int p3), .val (.int p4), .val (.long kk), .second, .val (.double (FP.i2d (p2 &&& (65535 : Int32)))), .second, .val (.ref bi1), .val (.double (FP.l2d (kk * (p1.toInt64)))), .second, .val (.int (1 : Int32)), .unset, .unset, .unset, .unset, .unset, .unset, .unset, .unset, .unset, .unset, .unset, .unset, .unset, .unset] [(.int p3), (.double (FP.i2d (p2 &&& (65535 : Int32)))), (.ref bi4), (.ref bi4)]))) (fun t_ k_ => XS.iloadN Xi4.here hx rfl (hb hby at_69) rfl k_) ?_
  refine GoW.st (U := (Ti4.setTop (mkF m 72 #[.val (.int p0), .val (.int p1), .val (.int p2), .val (.int p3), .val (.int p4), .val (.long kk), .second, .val (.double (FP.i2d (p2 &&& (65535 : Int32)))), .second, .val (.ref bi1), .val (.double (FP.l2d (kk * (p1.toInt64)))), .second, .val (.int (1 : Int32)), .unset, .unset, .unset, .unset, .unset, .unset, .unset, .unset, .unset, .unset, .unset, .unset, .unset, .unset] [(.int (16777215 : Int32)), (.int p3), (.double (FP.i2d (p2 &&& (65535 : Int32)))), (.ref bi4), (.ref bi4)]))) (Xi4.ldcInt hx hown (mvT hZ (hw _ (List.mem_of_getElem? (i := 49) rfl))) (g := (mkF m 70 #[.val (.int p0), .val (.int p1), .val (.int p2), .val (.int p3), .val (.int p4), .val (.long kk), .second, .val (.double (FP.i2d (p2 &&& (65535 : Int32)))), .second, .val (.ref bi1), .val (.double (FP.l2d (kk * (p1.toInt64)))), .second, .val (.int (1 : Int32)), .unset, .unset, .unset, .unset, .unset, .unset, .unset, .unset, .unset, .unset, .unset, .unset, .unset, .unset] [(.int p3), (.double (FP.i2d (p2 &&& (65535 : Int32)))), (.ref bi4), (.ref bi4)])) rfl (hb hby at_70)) ?_
  refine GoW.st (U := (Ti4.setTop (mkF m 73 #[.val (.int p0), .val (.int p1), .val (.int p2), .val (.int p3), .val (.int p4), .val (.long kk), .second, .val (.double (FP.i2d (p2 &&& (65535 : Int32)))), .second, .val (.ref bi1), .val (.double (FP.l2d (kk * (p1.toInt64)))), .second, .val (.int (1 : Int32)), .unset, .unset, .unset, .unset, .unset, .unset, .unset, .unset, .unset, .unset, .unset, .unset, .unset, .unset] [(.int (p3 &&& (16777215 : Int32))), (.double (FP.i2d (p2 &&& (65535 : Int32)))), (.ref bi4), (.ref bi4)]))) (fun t_ k_ => XS.iand Xi4.here hx rfl (hb hby at_72) rfl k_) ?_
  refine GoW.st (U := (Ti4.setTop (mkF m 74 #[.val (.int p0), .val (.int p1), .val (.int p2), .val (.int p3), .val (.int p4), .val (.long kk), .second, .val (.double (FP.i2d (p2 &&& (65535 : Int32)))), .second, .val (.ref bi1), .val (.double (FP.l2d (kk * (p1.toInt64)))), .second, .val (.int (1 : Int32)), .unset, .unset, .unset, .unset, .unset, .unset, .unset, .unset, .unset, .unset, .unset, .unset, .unset, .unset] [(.double (FP.i2d (p3 &&& (16777215 : Int32)))), (.double (FP.i2d (p2 &&& (65535 : Int32)))), (.ref bi4), (.ref bi4)]))) (fun t_ k_ => XS.i2dS Xi4.here hx rfl (hb hby at_73) rfl rfl k_) ?_
  refine GoW.callIW Xi4 hS hk hx hZ hown rfl (hw _ (List.mem_of_getElem? (i := 6) rfl)) (hw _ (List.mem_of_getElem? (i := 7) rfl)) (hw _ (List.mem_of_getElem? (i := 4) rfl)) (hw _ (List.mem_of_getElem? (i := 8) rfl)) (by decide) (rm_eb l Z a0 hw [] bi4 (FP.i2d (p2 &&& (65535 : Int32))) (FP.i2d (p3 &&& (16777215 : Int32))) (.double 0) (.double 0) hi4 n0 Zi4 Ai4 ge_bi4 Fi4_bi4_crossTrack Fi4_bi4_alongTrackRate ((own_i (own_m16 p2)).1) ((own_i (own_m16 p2)).2) ((own_i (own_m24 p3).1).1) ((own_i (own_m24 p3).1).2)) ei4 1 (by decide) (by decide) (g := (mkF m 74 #[.val (.int p0), .val (.int p1), .val (.int p2), .val (.int p3), .val (.int p4), .val (.long kk), .second, .val (.double (FP.i2d (p2 &&& (65535 : Int32)))), .second, .val (.ref bi1), .val (.double (FP.l2d (kk * (p1.toInt64)))), .second, .val (.int (1 : Int32)), .unset, .unset, .unset, .unset, .unset, .unset, .unset, .unset, .unset, .unset, .unset, .unset, .unset, .unset] [(.double (FP.i2d (p3 &&& (16777215 : Int32)))), (.double (FP.i2d (p2 &&& (65535 : Int32)))), (.ref bi4), (.ref bi4)])) rfl (by rw [hml]; rfl) bi4 [(.double (FP.i2d (p2 &&& (65535 : Int32)))), (.double (FP.i2d (p3 &&& (16777215 : Int32))))] [(.ref bi4)] rfl (lenOf pd2 rfl) rfl (by show 2 * 0 + _ ≤ _; exact Nat.le_of_eq rfl) (hb hby at_74) (by decide) (by decide) ?_
  intro vi5 Ti5 Li5 hQi5 Xi5 hS hZ hown
  obtain ⟨rfl, Ni5, Ki5, Ei5_bi4, Fi5_bi4_crossTrack, Fi5_bi4_alongTrackRate⟩ := hQi5
  have Ni5 := Fr.app Ni3 Ni5
  have Zi5 : n0 ≤ Ti5.heap.size := Nat.le_trans Zi4 Ki5.1
  have hk : Ti5.heap.size ≤ Ti5.heap.size := Nat.le_refl _
  have Fi5_bi1_alongTrackRate := Fld.keep Fi4_bi1_alongTrackRate Ki5 (ninS ne_bi1_bi4 nin0)
  have Ei5_bi1 := Exa.keep Ei4_bi1 Ki5
  have Ki5 := Keep.trans Ki4 Ki5 (allS (Or.inr sz0_bi4) all0)
  show GoW p e below s _ _ (Ti5.setTop (mkF m 77 #[.val (.int p0), .val (.int p1), .val (.int p2), .val (.int p3), .val (.int p4), .val (.long kk), .second, .val (.double (FP.i2d (p2 &&& (65535 : Int32)))), .second, .val (.ref bi1), .val (.double (FP.l2d (kk * (p1.toInt64)))), .second, .val (.int (1 : Int32)), .unset, .unset, .unset, .unset, .unset, .unset, .unset, .unset, .unset, .unset, .unset, .unset, .unset, .unset] [(.ref bi4)]))
  refine GoW.st (U := (Ti5.setTop (mkF m 79 #[.val (.int p0), .val (.int p1), .val (.int p2), .val (.int p3), .val (.int p4), .val (.long kk), .second, .val (.double (FP.i2d (p2 &&& (65535 : Int32)))), .second, .val (.ref bi1), .val (.double (FP.l2d (kk * (p1.toInt64)))), .second, .val (.int (1 : Int32)), .val (.ref bi4), .unset, .unset, .unset, .unset, .unset, .unset, .unset, .unset, .unset, .unset, .unset, .unset, .unset] []))) (fun t_ k_ => XS.astore Xi5.here hx rfl (hb hby at_77) rfl rfl (l' := #[.val (.int p0), .val (.int p1), .val (.int p2), .val (.int p3), .val (.int p4), .val (.long kk), .second, .val (.double (FP.i2d (p2 &&& (65535 : Int32)))), .second, .val (.ref bi1), .val (.double (FP.l2d (kk * (p1.toInt64)))), .second, .val (.int (1 : Int32)), .val (.ref bi4), .unset, .unset, .unset, .unset, .unset, .unset, .unset, .unset, .unset, .unset, .unset, .unset, .unset]) rfl k_) ?_
  refine GoW.st (U := (Ti5.setTop (mkF m 81 #[.val (.int p0), .val (.int p1), .val (.int p2), .val (.int p3), .val (.int p4), .val (.long kk), .second, .val (.double (FP.i2d (p2 &&& (65535 : Int32)))), .second, .val (.ref bi1), .val (.double (FP.l2d (kk * (p1.toInt64)))), .second, .val (.int (1 : Int32)), .val (.ref bi4), .unset, .unset, .unset, .unset, .unset, .unset, .unset, .unset, .unset, .unset, .unset, .unset, .unset] [(.ref bi4)]))) (fun t_ k_ => XS.aload Xi5.here hx rfl (hb hby at_79) rfl rfl k_) ?_
  refine GoW.st (U := (Ti5.setTop (mkF m 82 #[.val (.int p0), .val (.int p1), .val (.int p2), .val (.int p3), .val (.int p4), .val (.long kk), .second, .val (.double (FP.i2d (p2 &&& (65535 : Int32)))), .second, .val (.ref bi1), .val (.double (FP.l2d (kk * (p1.toInt64)))), .second, .val (.int (1 : Int32)), .val (.ref bi4), .unset, .unset, .unset, .unset, .unset, .unset, .unset, .unset, .unset, .unset, .unset, .unset, .unset] [(.int p1), (.ref bi4)]))) (fun t_ k_ => XS.iloadN Xi5.here hx rfl (hb hby at_81) rfl k_) ?_
  refine GoW.st (U := (Ti5.setTop (mkF m 83 #[.val (.int p0), .val (.int p1), .val (.int p2), .val (.int p3), .val (.int p4), .val (.long kk), .second, .val (.double (FP.i2d (p2 &&& (65535 : Int32)))), .second, .val (.ref bi1), .val (.double (FP.l2d (kk * (p1.toInt64)))), .second, .val (.int (1 : Int32)), .val (.ref bi4), .unset, .unset, .unset, .unset, .unset, .unset, .unset, .unset, .unset, .unset, .unset, .unset, .unset] [(.double (FP.i2d p1)), (.ref bi4)]))) (fun t_ k_ => XS.i2dS Xi5.here hx rfl (hb hby at_82) rfl rfl k_) ?_
  refine GoW.callV Xi5 hx hZ hown (hw _ (List.mem_of_getElem? (i := 43) rfl)) (hw _ (List.mem_of_getElem? (i := 44) rfl)) (hw _ (List.mem_of_getElem? (i := 46) rfl)) (hw _ (List.mem_of_getElem? (i := 45) rfl)) (hw _ (List.mem_of_getElem? (i := 4) rfl)) (hw _ (List.mem_of_getElem? (i := 47) rfl)) (by decide) (rm_atv l Z a0 hw [] bi4 (FP.i2d p1) (FP.i2d (p3 &&& (16777215 : Int32))) Ti5.heap n0 Zi5 Fi5_bi4_alongTrackRate R1 V1.1 V1.2.2.2.2) (rfl : Ti5.heap = Ti5.heap) bi4 Ei5_bi4 0 (by decide) (by decide) (g := (mkF m 83 #[.val (.int p0), .val (.int p1), .val (.int p2), .val (.int p3), .val (.int p4), .val (.long kk), .second, .val (.double (FP.i2d (p2 &&& (65535 : Int32)))), .second, .val (.ref bi1), .val (.double (FP.l2d (kk * (p1.toInt64)))), .second, .val (.int (1 : Int32)), .val (.ref bi4), .unset, .unset, .unset, .unset, .unset, .unset, .unset, .unset, .unset, .unset, .unset, .unset, .unset] [(.double (FP.i2d p1)), (.ref bi4)])) rfl (by rw [hml]; rfl) [(.double (FP.i2d p1))] [] rfl (lenOf pd3 rfl) rfl (by show 2 * 0 + _ ≤ _; exact Nat.le_of_eq rfl) (hb hby at_83) (by decide) (by decide) ?_
  intro vi6 Ti6 Li6 hQi6 Xi6
  obtain ⟨rfl, Ni6, ei6⟩ := hQi6
  have Ni6 := Fr.app Ni5 Ni6
  show GoW p e below s _ _ (Ti6.setTop (mkF m 86 #[.val (.int p0), .val (.int p1), .val (.int p2), .val (.int p3), .val (.int p4), .val (.long kk), .second, .val (.double (FP.i2d (p2 &&& (65535 : Int32)))), .second, .val (.ref bi1), .val (.double (FP.l2d (kk * (p1.toInt64)))), .second, .val (.int (1 : Int32)), .val (.ref bi4), .unset, .unset, .unset, .unset, .unset, .unset, .unset, .unset, .unset, .unset, .unset, .unset, .unset] [(.double (FP.dmul (FP.dmul (FP.ddiv (FP.i2d (p3 &&& (16777215 : Int32))) (4660134898793709568 : UInt64)) (FP.i2d p1)) (FP.dmul (FP.ddiv (FP.i2d (p3 &&& (16777215 : Int32))) (4660134898793709568 : UInt64)) (FP.i2d p1))))]))
  refine GoW.st (U := (Ti6.setTop (mkF m 88 #[.val (.int p0), .val (.int p1), .val (.int p2), .val (.int p3), .val (.int p4), .val (.long kk), .second, .val (.double (FP.i2d (p2 &&& (65535 : Int32)))), .second, .val (.ref bi1), .val (.double (FP.l2d (kk * (p1.toInt64)))), .second, .val (.int (1 : Int32)), .val (.ref bi4), .val (.double (FP.dmul (FP.dmul (FP.ddiv (FP.i2d (p3 &&& (16777215 : Int32))) (4660134898793709568 : UInt64)) (FP.i2d p1)) (FP.dmul (FP.ddiv (FP.i2d (p3 &&& (16777215 : Int32))) (4660134898793709568 : UInt64)) (FP.i2d p1)))), .second, .unset, .unset, .unset, .unset, .unset, .unset, .unset, .unset, .unset, .unset, .unset] []))) (fun t_ k_ => XS.dstore Xi6.here hx rfl (hb hby at_86) rfl (l' := #[.val (.int p0), .val (.int p1), .val (.int p2), .val (.int p3), .val (.int p4), .val (.long kk), .second, .val (.double (FP.i2d (p2 &&& (65535 : Int32)))), .second, .val (.ref bi1), .val (.double (FP.l2d (kk * (p1.toInt64)))), .second, .val (.int (1 : Int32)), .val (.ref bi4), .val (.double (FP.dmul (FP.dmul (FP.ddiv (FP.i2d (p3 &&& (16777215 : Int32))) (4660134898793709568 : UInt64)) (FP.i2d p1)) (FP.dmul (FP.ddiv (FP.i2d (p3 &&& (16777215 : Int32))) (4660134898793709568 : UInt64)) (FP.i2d p1)))), .second, .unset, .unset, .unset, .unset, .unset, .unset, .unset, .unset, .unset, .unset, .unset]) rfl k_) ?_
  refine GoW.st (U := (Ti6.setTop (mkF m 90 #[.val (.int p0), .val (.int p1), .val (.int p2), .val (.int p3), .val (.int p4), .val (.long kk), .second, .val (.double (FP.i2d (p2 &&& (65535 : Int32)))), .second, .val (.ref bi1), .val (.double (FP.l2d (kk * (p1.toInt64)))), .second, .val (.int (1 : Int32)), .val (.ref bi4), .val (.double (FP.dmul (FP.dmul (FP.ddiv (FP.i2d (p3 &&& (16777215 : Int32))) (4660134898793709568 : UInt64)) (FP.i2d p1)) (FP.dmul (FP.ddiv (FP.i2d (p3 &&& (16777215 : Int32))) (4660134898793709568 : UInt64)) (FP.i2d p1)))), .second, .unset, .unset, .unset, .unset, .unset, .unset, .unset, .unset, .unset, .unset, .unset] [(.ref bi4)]))) (fun t_ k_ => XS.aload Xi6.here hx rfl (hb hby at_88) rfl rfl k_) ?_
  refine GoW.st (U := (Ti6.setTop (mkF m 91 #[.val (.int p0), .val (.int p1), .val (.int p2), .val (.int p3), .val (.int p4), .val (.long kk), .second, .val (.double (FP.i2d (p2 &&& (65535 : Int32)))), .second, .val (.ref bi1), .val (.double (FP.l2d (kk * (p1.toInt64)))), .second, .val (.int (1 : Int32)), .val (.ref bi4), .val (.double (FP.dmul (FP.dmul (FP.ddiv (FP.i2d (p3 &&& (16777215 : Int32))) (4660134898793709568 : UInt64)) (FP.i2d p1)) (FP.dmul (FP.ddiv (FP.i2d (p3 &&& (16777215 : Int32))) (4660134898793709568 : UInt64)) (FP.i2d p1)))), .second, .unset, .unset, .unset, .unset, .unset, .unset, .unset, .unset, .unset, .unset, .unset] [(.int p1), (.ref bi4)]))) (fun t_ k_ => XS.iloadN Xi6.here hx rfl (hb hby at_90) rfl k_) ?_
  refine GoW.st (U := (Ti6.setTop (mkF m 92 #[.val (.int p0), .val (.int p1), .val (.int p2), .val (.int p3), .val (.int p4), .val (.long kk), .second, .val (.double (FP.i2d (p2 &&& (65535 : Int32)))), .second, .val (.ref bi1), .val (.double (FP.l2d (kk * (p1.toInt64)))), .second, .val (.int (1 : Int32)), .val (.ref bi4), .val (.double (FP.dmul (FP.dmul (FP.ddiv (FP.i2d (p3 &&& (16777215 : Int32))) (4660134898793709568 : UInt64)) (FP.i2d p1)) (FP.dmul (FP.ddiv (FP.i2d (p3 &&& (16777215 : Int32))) (4660134898793709568 : UInt64)) (FP.i2d p1)))), .second, .unset, .unset, .unset, .unset, .unset, .unset, .unset, .unset, .unset, .unset, .unset] [(.double (FP.i2d p1)), (.ref bi4)]))) (fun t_ k_ => XS.i2dS Xi6.here hx rfl (hb hby at_91) rfl rfl k_) ?_
  refine GoW.st (U := (Ti6.setTop (mkF m 93 #[.val (.int p0), .val (.int p1), .val (.int p2), .val (.int p3), .val (.int p4), .val (.long kk), .second, .val (.double (FP.i2d (p2 &&& (65535 : Int32)))), .second, .val (.ref bi1), .val (.double (FP.l2d (kk * (p1.toInt64)))), .second, .val (.int (1 : Int32)), .val (.ref bi4), .val (.double (FP.dmul (FP.dmul (FP.ddiv (FP.i2d (p3 &&& (16777215 : Int32))) (4660134898793709568 : UInt64)) (FP.i2d p1)) (FP.dmul (FP.ddiv (FP.i2d (p3 &&& (16777215 : Int32))) (4660134898793709568 : UInt64)) (FP.i2d p1)))), .second, .unset, .unset, .unset, .unset, .unset, .unset, .unset, .unset, .unset, .unset, .unset] [(.double (FP.dneg (FP.i2d p1))), (.ref bi4)]))) (fun t_ k_ => XS.dnegS Xi6.here hx rfl (hb hby at_92) rfl rfl k_) ?_
  refine GoW.callV Xi6 hx hZ hown (hw _ (List.mem_of_getElem? (i := 43) rfl)) (hw _ (List.mem_of_getElem? (i := 44) rfl)) (hw _ (List.mem_of_getElem? (i := 46) rfl)) (hw _ (List.mem_of_getElem? (i := 45) rfl)) (hw _ (List.mem_of_getElem? (i := 4) rfl)) (hw _ (List.mem_of_getElem? (i := 47) rfl)) (by decide) (rm_atv l Z a0 hw [] bi4 (FP.dneg (FP.i2d p1)) (FP.i2d (p3 &&& (16777215 : Int32))) Ti5.heap n0 Zi5 Fi5_bi4_alongTrackRate R1 V2.1 V2.2.2.2.2) ei6 bi4 Ei5_bi4 0 (by decide) (by decide) (g := (mkF m 93 #[.val (.int p0), .val (.int p1), .val (.int p2), .val (.int p3), .val (.int p4), .val (.long kk), .second, .val (.double (FP.i2d (p2 &&& (65535 : Int32)))), .second, .val (.ref bi1), .val (.double (FP.l2d (kk * (p1.toInt64)))), .second, .val (.int (1 : Int32)), .val (.ref bi4), .val (.double (FP.dmul (FP.dmul (FP.ddiv (FP.i2d (p3 &&& (16777215 : Int32))) (4660134898793709568 : UInt64)) (FP.i2d p1)) (FP.dmul (FP.ddiv (FP.i2d (p3 &&& (16777215 : Int32))) (4660134898793709568 : UInt64)) (FP.i2d p1)))), .second, .unset, .unset, .unset, .unset, .unset, .unset, .unset, .unset, .unset, .unset, .unset] [(.double (FP.dneg (FP.i2d p1))), (.ref bi4)])) rfl (by rw [hml]; rfl) [(.double (FP.dneg (FP.i2d p1)))] [] rfl (lenOf pd3 rfl) rfl (by show 2 * 0 + _ ≤ _; exact Nat.le_of_eq rfl) (hb hby at_93) (by decide) (by decide) ?_
  intro vi7 Ti7 Li7 hQi7 Xi7
  obtain ⟨rfl, Ni7, ei7⟩ := hQi7
  have Ni7 := Fr.app Ni6 Ni7
  show GoW p e below s _ _ (Ti7.setTop (mkF m 96 #[.val (.int p0), .val (.int p1), .val (.int p2), .val (.int p3), .val (.int p4), .val (.long kk), .second, .val (.double (FP.i2d (p2 &&& (65535 : Int32)))), .second, .val (.ref bi1), .val (.double (FP.l2d (kk * (p1.toInt64)))), .second, .val (.int (1 : Int32)), .val (.ref bi4), .val (.double (FP.dmul (FP.dmul (FP.ddiv (FP.i2d (p3 &&& (16777215 : Int32))) (4660134898793709568 : UInt64)) (FP.i2d p1)) (FP.dmul (FP.ddiv (FP.i2d (p3 &&& (16777215 : Int32))) (4660134898793709568 : UInt64)) (FP.i2d p1)))), .second, .unset, .unset, .unset, .unset, .unset, .unset, .unset, .unset, .unset, .unset, .unset] [(.double (FP.dmul (FP.dmul (FP.ddiv (FP.i2d (p3 &&& (16777215 : Int32))) (4660134898793709568 : UInt64)) (FP.dneg (FP.i2d p1))) (FP.dmul (FP.ddiv (FP.i2d (p3 &&& (16777215 : Int32))) (4660134898793709568 : UInt64)) (FP.dneg (FP.i2d p1)))))]))
  refine GoW.st (U := (Ti7.setTop (mkF m 98 #[.val (.int p0), .val (.int p1), .val (.int p2), .val (.int p3), .val (.int p4), .val (.long kk), .second, .val (.double (FP.i2d (p2 &&& (65535 : Int32)))), .second, .val (.ref bi1), .val (.double (FP.l2d (kk * (p1.toInt64)))), .second, .val (.int (1 : Int32)), .val (.ref bi4), .val (.double (FP.dmul (FP.dmul (FP.ddiv (FP.i2d (p3 &&& (16777215 : Int32))) (4660134898793709568 : UInt64)) (FP.i2d p1)) (FP.dmul (FP.ddiv (FP.i2d (p3 &&& (16777215 : Int32))) (4660134898793709568 : UInt64)) (FP.i2d p1)))), .second, .val (.double (FP.dmul (FP.dmul (FP.ddiv (FP.i2d (p3 &&& (16777215 : Int32))) (4660134898793709568 : UInt64)) (FP.dneg (FP.i2d p1))) (FP.dmul (FP.ddiv (FP.i2d (p3 &&& (16777215 : Int32))) (4660134898793709568 : UInt64)) (FP.dneg (FP.i2d p1))))), .second, .unset, .unset, .unset, .unset, .unset, .unset, .unset, .unset, .unset] []))) (fun t_ k_ => XS.dstore Xi7.here hx rfl (hb hby at_96) rfl (l' := #[.val (.int p0), .val (.int p1), .val (.int p2), .val (.int p3), .val (.int p4), .val (.long kk), .second, .val (.double (FP.i2d (p2 &&& (65535 : Int32)))), .second, .val (.ref bi1), .val (.double (FP.l2d (kk * (p1.toInt64)))), .second, .val (.int (1 : Int32)), .val (.ref bi4), .val (.double (FP.dmul (FP.dmul (FP.ddiv (FP.i2d (p3 &&& (16777215 : Int32))) (4660134898793709568 : UInt64)) (FP.i2d p1)) (FP.dmul (FP.ddiv (FP.i2d (p3 &&& (16777215 : Int32))) (4660134898793709568 : UInt64)) (FP.i2d p1)))), .second, .val (.double (FP.dmul (FP.dmul (FP.ddiv (FP.i2d (p3 &&& (16777215 : Int32))) (4660134898793709568 : UInt64)) (FP.dneg (FP.i2d p1))) (FP.dmul (FP.ddiv (FP.i2d (p3 &&& (16777215 : Int32))) (4660134898793709568 : UInt64)) (FP.dneg (FP.i2d p1))))), .second, .unset, .unset, .unset, .unset, .unset, .unset, .unset, .unset, .unset]) rfl k_) ?_
  refine GoW.st (U := (Ti7.setTop (mkF m 100 #[.val (.int p0), .val (.int p1), .val (.int p2), .val (.int p3), .val (.int p4), .val (.long kk), .second, .val (.double (FP.i2d (p2 &&& (65535 : Int32)))), .second, .val (.ref bi1), .val (.double (FP.l2d (kk * (p1.toInt64)))), .second, .val (.int (1 : Int32)), .val (.ref bi4), .val (.double (FP.dmul (FP.dmul (FP.ddiv (FP.i2d (p3 &&& (16777215 : Int32))) (4660134898793709568 : UInt64)) (FP.i2d p1)) (FP.dmul (FP.ddiv (FP.i2d (p3 &&& (16777215 : Int32))) (4660134898793709568 : UInt64)) (FP.i2d p1)))), .second, .val (.double (FP.dmul (FP.dmul (FP.ddiv (FP.i2d (p3 &&& (16777215 : Int32))) (4660134898793709568 : UInt64)) (FP.dneg (FP.i2d p1))) (FP.dmul (FP.ddiv (FP.i2d (p3 &&& (16777215 : Int32))) (4660134898793709568 : UInt64)) (FP.dneg (FP.i2d p1))))), .second, .unset, .unset, .unset, .unset, .unset, .unset, .unset, .unset, .unset] [(.ref bi4)]))) (fun t_ k_ => XS.aload Xi7.here hx rfl (hb hby at_98) rfl rfl k_) ?_
  refine GoW.st (U := (Ti7.setTop (mkF m 102 #[.val (.int p0), .val (.int p1), .val (.int p2), .val (.int p3), .val (.int p4), .val (.long kk), .second, .val (.double (FP.i2d (p2 &&& (65535 : Int32)))), .second, .val (.ref bi1), .val (.double (FP.l2d (kk * (p1.toInt64)))), .second, .val (.int (1 : Int32)), .val (.ref bi4), .val (.double (FP.dmul (FP.dmul (FP.ddiv (FP.i2d (p3 &&& (16777215 : Int32))) (4660134898793709568 : UInt64)) (FP.i2d p1)) (FP.dmul (FP.ddiv (FP.i2d (p3 &&& (16777215 : Int32))) (4660134898793709568 : UInt64)) (FP.i2d p1)))), .second, .val (.double (FP.dmul (FP.dmul (FP.ddiv (FP.i2d (p3 &&& (16777215 : Int32))) (4660134898793709568 : UInt64)) (FP.dneg (FP.i2d p1))) (FP.dmul (FP.ddiv (FP.i2d (p3 &&& (16777215 : Int32))) (4660134898793709568 : UInt64)) (FP.dneg (FP.i2d p1))))), .second, .unset, .unset, .unset, .unset, .unset, .unset, .unset, .unset, .unset] [(.int p4), (.ref bi4)]))) (fun t_ k_ => XS.iload Xi7.here hx rfl (hb hby at_100) rfl k_) ?_
  refine GoW.st (U := (Ti7.setTop (mkF m 103 #[.val (.int p0), .val (.int p1), .val (.int p2), .val (.int p3), .val (.int p4), .val (.long kk), .second, .val (.double (FP.i2d (p2 &&& (65535 : Int32)))), .second, .val (.ref bi1), .val (.double (FP.l2d (kk * (p1.toInt64)))), .second, .val (.int (1 : Int32)), .val (.ref bi4), .val (.double (FP.dmul (FP.dmul (FP.ddiv (FP.i2d (p3 &&& (16777215 : Int32))) (4660134898793709568 : UInt64)) (FP.i2d p1)) (FP.dmul (FP.ddiv (FP.i2d (p3 &&& (16777215 : Int32))) (4660134898793709568 : UInt64)) (FP.i2d p1)))), .second, .val (.double (FP.dmul (FP.dmul (FP.ddiv (FP.i2d (p3 &&& (16777215 : Int32))) (4660134898793709568 : UInt64)) (FP.dneg (FP.i2d p1))) (FP.dmul (FP.ddiv (FP.i2d (p3 &&& (16777215 : Int32))) (4660134898793709568 : UInt64)) (FP.dneg (FP.i2d p1))))), .second, .unset, .unset, .unset, .unset, .unset, .unset, .unset, .unset, .unset] [(.double (FP.i2d p4)), (.ref bi4)]))) (fun t_ k_ => XS.i2dS Xi7.here hx rfl (hb hby at_102) rfl rfl k_) ?_
  refine GoW.callV Xi7 hx hZ hown (hw _ (List.mem_of_getElem? (i := 43) rfl)) (hw _ (List.mem_of_getElem? (i := 44) rfl)) (hw _ (List.mem_of_getElem? (i := 46) rfl)) (hw _ (List.mem_of_getElem? (i := 45) rfl)) (hw _ (List.mem_of_getElem? (i := 4) rfl)) (hw _ (List.mem_of_getElem? (i := 47) rfl)) (by decide) (rm_atv l Z a0 hw [] bi4 (FP.i2d p4) (FP.i2d (p3 &&& (16777215 : Int32))) Ti5.heap n0 Zi5 Fi5_bi4_alongTrackRate R1 V3.1 V3.2.2.2.2) ei7 bi4 Ei5_bi4 0 (by decide) (by decide) (g := (mkF m 103 #[.val (.int p0), .val (.int p1), .val (.int p2), .val (.int p3), .val (.int p4), .val (.long kk), .second, .val (.double (FP.i2d (p2 &&& (65535 : Int32)))), .second, .val (.ref bi1), .val (.double (FP.l2d (kk * (p1.toInt64)))), .second, .val (.int (1 : Int32)), .val (.ref bi4), .val (.double (FP.dmul (FP.dmul (FP.ddiv (FP.i2d (p3 &&& (16777215 : Int32))) (4660134898793709568 : UInt64)) (FP.i2d p1)) (FP.dmul (FP.ddiv (FP.i2d (p3 &&& (16777215 : Int32))) (4660134898793709568 : UInt64)) (FP.i2d p1)))), .second, .val (.double (FP.dmul (FP.dmul (FP.ddiv (FP.i2d (p3 &&& (16777215 : Int32))) (4660134898793709568 : UInt64)) (FP.dneg (FP.i2d p1))) (FP.dmul (FP.ddiv (FP.i2d (p3 &&& (16777215 : Int32))) (4660134898793709568 : UInt64)) (FP.dneg (FP.i2d p1))))), .second, .unset, .unset, .unset, .unset, .unset, .unset, .unset, .unset, .unset] [(.double (FP.i2d p4)), (.ref bi4)])) rfl (by rw [hml]; rfl) [(.double (FP.i2d p4))] [] rfl (lenOf pd3 rfl) rfl (by show 2 * 0 + _ ≤ _; exact Nat.le_of_eq rfl) (hb hby at_103) (by decide) (by decide) ?_
  intro vi8 Ti8 Li8 hQi8 Xi8
  obtain ⟨rfl, Ni8, ei8⟩ := hQi8
  have Ni8 := Fr.app Ni7 Ni8
  show GoW p e below s _ _ (Ti8.setTop (mkF m 106 #[.val (.int p0), .val (.int p1), .val (.int p2), .val (.int p3), .val (.int p4), .val (.long kk), .second, .val (.double (FP.i2d (p2 &&& (65535 : Int32)))), .second, .val (.ref bi1), .val (.double (FP.l2d (kk * (p1.toInt64)))), .second, .val (.int (1 : Int32)), .val (.ref bi4), .val (.double (FP.dmul (FP.dmul (FP.ddiv (FP.i2d (p3 &&& (16777215 : Int32))) (4660134898793709568 : UInt64)) (FP.i2d p1)) (FP.dmul (FP.ddiv (FP.i2d (p3 &&& (16777215 : Int32))) (4660134898793709568 : UInt64)) (FP.i2d p1)))), .second, .val (.double (FP.dmul (FP.dmul (FP.ddiv (FP.i2d (p3 &&& (16777215 : Int32))) (4660134898793709568 : UInt64)) (FP.dneg (FP.i2d p1))) (FP.dmul (FP.ddiv (FP.i2d (p3 &&& (16777215 : Int32))) (4660134898793709568 : UInt64)) (FP.dneg (FP.i2d p1))))), .second, .unset, .unset, .unset, .unset, .unset, .unset, .unset, .unset, .unset] [(.double (FP.dmul (FP.dmul (FP.ddiv (FP.i2d (p3 &&& (16777215 : Int32))) (4660134898793709568 : UInt64)) (FP.i2d p4)) (FP.dmul (FP.ddiv (FP.i2d (p3 &&& (16777215 : Int32))) (4660134898793709568 : UInt64)) (FP.i2d p4))))]))
  refine GoW.st (U := (Ti8.setTop (mkF m 108 #[.val (.int p0), .val (.int p1), .val (.int p2), .val (.int p3), .val (.int p4), .val (.long kk), .second, .val (.double (FP.i2d (p2 &&& (65535 : Int32)))), .second, .val (.ref bi1), .val (.double (FP.l2d (kk * (p1.toInt64)))), .second, .val (.int (1 : Int32)), .val (.ref bi4), .val (.double (FP.dmul (FP.dmul (FP.ddiv (FP.i2d (p3 &&& (16777215 : Int32))) (4660134898793709568 : UInt64)) (FP.i2d p1)) (FP.dmul (FP.ddiv (FP.i2d (p3 &&& (16777215 : Int32))) (4660134898793709568 : UInt64)) (FP.i2d p1)))), .second, .val (.double (FP.dmul (FP.dmul (FP.ddiv (FP.i2d (p3 &&& (16777215 : Int32))) (4660134898793709568 : UInt64)) (FP.dneg (FP.i2d p1))) (FP.dmul (FP.ddiv (FP.i2d (p3 &&& (16777215 : Int32))) (4660134898793709568 : UInt64)) (FP.dneg (FP.i2d p1))))), .second, .val (.double (FP.dmul (FP.dmul (FP.ddiv (FP.i2d (p3 &&& (16777215 : Int32))) (4660134898793709568 : UInt64)) (FP.i2d p4)) (FP.dmul (FP.ddiv (FP.i2d (p3 &&& (16777215 : Int32))) (4660134898793709568 : UInt64)) (FP.i2d p4)))), .second, .unset, .unset, .unset, .unset, .unset, .unset, .unset] []))) (fun t_ k_ => XS.dstore Xi8.here hx rfl (hb hby at_106) rfl (l' := #[.val (.int p0), .val (.int p1), .val (.int p2), .val (.int p3), .val (.int p4), .val (.long kk), .second, .val (.double (FP.i2d (p2 &&& (65535 : Int32)))), .second, .val (.ref bi1), .val (.double (FP.l2d (kk * (p1.toInt64)))), .second, .val (.int (1 : Int32)), .val (.ref bi4), .val (.double (FP.dmul (FP.dmul (FP.ddiv (FP.i2d (p3 &&& (16777215 : Int32))) (4660134898793709568 : UInt64)) (FP.i2d p1)) (FP.dmul (FP.ddiv (FP.i2d (p3 &&& (16777215 : Int32))) (4660134898793709568 : UInt64)) (FP.i2d p1)))), .second, .val (.double (FP.dmul (FP.dmul (FP.ddiv (FP.i2d (p3 &&& (16777215 : Int32))) (4660134898793709568 : UInt64)) (FP.dneg (FP.i2d p1))) (FP.dmul (FP.ddiv (FP.i2d (p3 &&& (16777215 : Int32))) (4660134898793709568 : UInt64)) (FP.dneg (FP.i2d p1))))), .second, .val (.double (FP.dmul (FP.dmul (FP.ddiv (FP.i2d (p3 &&& (16777215 : Int32))) (4660134898793709568 : UInt64)) (FP.i2d p4)) (FP.dmul (FP.ddiv (FP.i2d (p3 &&& (16777215 : Int32))) (4660134898793709568 : UInt64)) (FP.i2d p4)))), .second, .unset, .unset, .unset, .unset, .unset, .unset, .unset]) rfl k_) ?_
  refine GoW.st (U := (Ti8.setTop (mkF m 110 #[.val (.int p0), .val (.int p1), .val (.int p2), .val (.int p3), .val (.int p4), .val (.long kk), .second, .val (.double (FP.i2d (p2 &&& (65535 : Int32)))), .second, .val (.ref bi1), .val (.double (FP.l2d (kk * (p1.toInt64)))), .second, .val (.int (1 : Int32)), .val (.ref bi4), .val (.double (FP.dmul (FP.dmul (FP.ddiv (FP.i2d (p3 &&& (16777215 : Int32))) (4660134898793709568 : UInt64)) (FP.i2d p1)) (FP.dmul (FP.ddiv (FP.i2d (p3 &&& (16777215 : Int32))) (4660134898793709568 : UInt64)) (FP.i2d p1)))), .second, .val (.double (FP.dmul (FP.dmul (FP.ddiv (FP.i2d (p3 &&& (16777215 : Int32))) (4660134898793709568 : UInt64)) (FP.dneg (FP.i2d p1))) (FP.dmul (FP.ddiv (FP.i2d (p3 &&& (16777215 : Int32))) (4660134898793709568 : UInt64)) (FP.dneg (FP.i2d p1))))), .second, .val (.double (FP.dmul (FP.dmul (FP.ddiv (FP.i2d (p3 &&& (16777215 : Int32))) (4660134898793709568 : UInt64)) (FP.i2d p4)) (FP.dmul (FP.ddiv (FP.i2d (p3 &&& (16777215 : Int32))) (4660134898793709568 : UInt64)) (FP.i2d p4)))), .second, .unset, .unset, .unset, .unset, .unset, .unset, .unset] [(.double (FP.dmul (FP.dmul (FP.ddiv (FP.i2d (p3 &&& (16777215 : Int32))) (4660134898793709568 : UInt64)) (FP.i2d p1)) (FP.dmul (FP.ddiv (FP.i2d (p3 &&& (16777215 : Int32))) (4660134898793709568 : UInt64)) (FP.i2d p1))))]))) (fun t_ k_ => XS.dload Xi8.here hx rfl (hb hby at_108) rfl k_) ?_
  refine GoW.st (U := (Ti8.setTop (mkF m 112 #[.val (.int p0), .val (.int p1), .val (.int p2), .val (.int p3), .val (.int p4), .val (.long kk), .second, .val (.double (FP.i2d (p2 &&& (65535 : Int32)))), .second, .val (.ref bi1), .val (.double (FP.l2d (kk * (p1.toInt64)))), .second, .val (.int (1 : Int32)), .val (.ref bi4), .val (.double (FP.dmul (FP.dmul (FP.ddiv (FP.i2d (p3 &&& (16777215 : Int32))) (4660134898793709568 : UInt64)) (FP.i2d p1)) (FP.dmul (FP.ddiv (FP.i2d (p3 &&& (16777215 : Int32))) (4660134898793709568 : UInt64)) (FP.i2d p1)))), .second, .val (.double (FP.dmul (FP.dmul (FP.ddiv (FP.i2d (p3 &&& (16777215 : Int32))) (4660134898793709568 : UInt64)) (FP.dneg (FP.i2d p1))) (FP.dmul (FP.ddiv (FP.i2d (p3 &&& (16777215 : Int32))) (4660134898793709568 : UInt64)) (FP.dneg (FP.i2d p1))))), .second, .val (.double (FP.dmul (FP.dmul (FP.ddiv (FP.i2d (p3 &&& (16777215 : Int32))) (4660134898793709568 : UInt64)) (FP.i2d p4)) (FP.dmul (FP.ddiv (FP.i2d (p3 &&& (16777215 : Int32))) (4660134898793709568 : UInt64)) (FP.i2d p4)))), .second, .unset, .unset, .unset, .unset, .unset, .unset, .unset] [(.double (FP.dmul (FP.dmul (FP.ddiv (FP.i2d (p3 &&& (16777215 : Int32))) (4660134898793709568 : UInt64)) (FP.dneg (FP.i2d p1))) (FP.dmul (FP.ddiv (FP.i2d (p3 &&& (16777215 : Int32))) (4660134898793709568 : UInt64)) (FP.dneg (FP.i2d p1))))), (.double (FP.dmul (FP.dmul (FP.ddiv (FP.i2d (p3 &&& (16777215 : Int32))) (4660134898793709568 : UInt64)) (FP.i2d p1)) (FP.dmul (FP.ddiv (FP.i2d (p3 &&& (16777215 : Int32))) (4660134898793709568 : UInt64)) (FP.i2d p1))))]))) (fun t_ k_ => XS.dload Xi8.here hx rfl (hb hby at_110) rfl k_) ?_
  refine GoW.st (U := (Ti8.setTop (mkF m 113 #[.val (.int p0), .val (.int p1), .val (.int p2), .val (.int p3), .val (.int p4), .val (.long kk), .second, .val (.double (FP.i2d (p2 &&& (65535 : Int32)))), .second, .val (.ref bi1), .val (.double (FP.l2d (kk * (p1.toInt64)))), .second, .val (.int (1 : Int32)), .val (.ref bi4), .val (.double (FP.dmul (FP.dmul (FP.ddiv (FP.i2d (p3 &&& (16777215 : Int32))) (4660134898793709568 : UInt64)) (FP.i2d p1)) (FP.dmul (FP.ddiv (FP.i2d (p3 &&& (16777215 : Int32))) (4660134898793709568 : UInt64)) (FP.i2d p1)))), .second, .val (.double (FP.dmul (FP.dmul (FP.ddiv (FP.i2d (p3 &&& (16777215 : Int32))) (4660134898793709568 : UInt64)) (FP.dneg (FP.i2d p1))) (FP.dmul (FP.ddiv (FP.i2d (p3 &&& (16777215 : Int32))) (4660134898793709568 : UInt64)) (FP.dneg (FP.i2d p1))))), .second, .val (.double (FP.dmul (FP.dmul (FP.ddiv (FP.i2d (p3 &&& (16777215 : Int32))) (4660134898793709568 : UInt64)) (FP.i2d p4)) (FP.dmul (FP.ddiv (FP.i2d (p3 &&& (16777215 : Int32))) (4660134898793709568 : UInt64)) (FP.i2d p4)))), .second, .unset, .unset, .unset, .unset, .unset, .unset, .unset] [(.int (cmpValue (FP.dcmp (FP.dmul (FP.dmul (FP.ddiv (FP.i2d (p3 &&& (16777215 : Int32))) (4660134898793709568 : UInt64)) (FP.i2d p1)) (FP.dmul (FP.ddiv (FP.i2d (p3 &&& (16777215 : Int32))) (4660134898793709568 : UInt64)) (FP.i2d p1))) (FP.dmul (FP.dmul (FP.ddiv (FP.i2d (p3 &&& (16777215 : Int32))) (4660134898793709568 : UInt64)) (FP.dneg (FP.i2d p1))) (FP.dmul (FP.ddiv (FP.i2d (p3 &&& (16777215 : Int32))) (4660134898793709568 : UInt64)) (FP.dneg (FP.i2d p1))))) .l))]))) (fun t_ k_ => XS.dcmpS Xi8.here hx rfl (hb hby at_112) rfl rfl k_) ?_
  refine GoW.st (U := (Ti8.setTop (mkF m 116 #[.val (.int p0), .val (.int p1), .val (.int p2), .val (.int p3), .val (.int p4), .val (.long kk), .second, .val (.double (FP.i2d (p2 &&& (65535 : Int32)))), .second, .val (.ref bi1), .val (.double (FP.l2d (kk * (p1.toInt64)))), .second, .val (.int (1 : Int32)), .val (.ref bi4), .val (.double (FP.dmul (FP.dmul (FP.ddiv (FP.i2d (p3 &&& (16777215 : Int32))) (4660134898793709568 : UInt64)) (FP.i2d p1)) (FP.dmul (FP.ddiv (FP.i2d (p3 &&& (16777215 : Int32))) (4660134898793709568 : UInt64)) (FP.i2d p1)))), .second, .val (.double (FP.dmul (FP.dmul (FP.ddiv (FP.i2d (p3 &&& (16777215 : Int32))) (4660134898793709568 : UInt64)) (FP.dneg (FP.i2d p1))) (FP.dmul (FP.ddiv (FP.i2d (p3 &&& (16777215 : Int32))) (4660134898793709568 : UInt64)) (FP.dneg (FP.i2d p1))))), .second, .val (.double (FP.dmul (FP.dmul (FP.ddiv (FP.i2d (p3 &&& (16777215 : Int32))) (4660134898793709568 : UInt64)) (FP.i2d p4)) (FP.dmul (FP.ddiv (FP.i2d (p3 &&& (16777215 : Int32))) (4660134898793709568 : UInt64)) (FP.i2d p4)))), .second, .unset, .unset, .unset, .unset, .unset, .unset, .unset] []))) (fun t_ k_ => XS.ifNo Xi8.here hx rfl (hb hby at_113) rfl ((if0 _ _).trans (teq (own_sym R2 R3 I1 J1)).2) k_) ?_
  refine GoW.st (U := (Ti8.setTop (mkF m 117 #[.val (.int p0), .val (.int p1), .val (.int p2), .val (.int p3), .val (.int p4), .val (.long kk), .second, .val (.double (FP.i2d (p2 &&& (65535 : Int32)))), .second, .val (.ref bi1), .val (.double (FP.l2d (kk * (p1.toInt64)))), .second, .val (.int (1 : Int32)), .val (.ref bi4), .val (.double (FP.dmul (FP.dmul (FP.ddiv (FP.i2d (p3 &&& (16777215 : Int32))) (4660134898793709568 : UInt64)) (FP.i2d p1)) (FP.dmul (FP.ddiv (FP.i2d (p3 &&& (16777215 : Int32))) (4660134898793709568 : UInt64)) (FP.i2d p1)))), .second, .val (.double (FP.dmul (FP.dmul (FP.ddiv (FP.i2d (p3 &&& (16777215 : Int32))) (4660134898793709568 : UInt64)) (FP.dneg (FP.i2d p1))) (FP.dmul (FP.ddiv (FP.i2d (p3 &&& (16777215 : Int32))) (4660134898793709568 : UInt64)) (FP.dneg (FP.i2d p1))))), .second, .val (.double (FP.dmul (FP.dmul (FP.ddiv (FP.i2d (p3 &&& (16777215 : Int32))) (4660134898793709568 : UInt64)) (FP.i2d p4)) (FP.dmul (FP.ddiv (FP.i2d (p3 &&& (16777215 : Int32))) (4660134898793709568 : UInt64)) (FP.i2d p4)))), .second, .unset, .unset, .unset, .unset, .unset, .unset, .unset] [(.int (1 : Int32))]))) (fun t_ k_ => XS.iconst Xi8.here hx rfl (hb hby at_116) k_) ?_
  refine GoW.st (U := (Ti8.setTop (mkF m 121 #[.val (.int p0), .val (.int p1), .val (.int p2), .val (.int p3), .val (.int p4), .val (.long kk), .second, .val (.double (FP.i2d (p2 &&& (65535 : Int32)))), .second, .val (.ref bi1), .val (.double (FP.l2d (kk * (p1.toInt64)))), .second, .val (.int (1 : Int32)), .val (.ref bi4), .val (.double (FP.dmul (FP.dmul (FP.ddiv (FP.i2d (p3 &&& (16777215 : Int32))) (4660134898793709568 : UInt64)) (FP.i2d p1)) (FP.dmul (FP.ddiv (FP.i2d (p3 &&& (16777215 : Int32))) (4660134898793709568 : UInt64)) (FP.i2d p1)))), .second, .val (.double (FP.dmul (FP.dmul (FP.ddiv (FP.i2d (p3 &&& (16777215 : Int32))) (4660134898793709568 : UInt64)) (FP.dneg (FP.i2d p1))) (FP.dmul (FP.ddiv (FP.i2d (p3 &&& (16777215 : Int32))) (4660134898793709568 : UInt64)) (FP.dneg (FP.i2d p1))))), .second, .val (.double (FP.dmul (FP.dmul (FP.ddiv (FP.i2d (p3 &&& (16777215 : Int32))) (4660134898793709568 : UInt64)) (FP.i2d p4)) (FP.dmul (FP.ddiv (FP.i2d (p3 &&& (16777215 : Int32))) (4660134898793709568 : UInt64)) (FP.i2d p4)))), .second, .unset, .unset, .unset, .unset, .unset, .unset, .unset] [(.int (1 : Int32))]))) (fun t_ k_ => XS.goto Xi8.here hx rfl (pc0 := 117) (pc' := 121) rfl (hb hby at_117) (by decide) (by decide) k_) ?_
  refine GoW.st (U := (Ti8.setTop (mkF m 123 #[.val (.int p0), .val (.int p1), .val (.int p2), .val (.int p3), .val (.int p4), .val (.long kk), .second, .val (.double (FP.i2d (p2 &&& (65535 : Int32)))), .second, .val (.ref bi1), .val (.double (FP.l2d (kk * (p1.toInt64)))), .second, .val (.int (1 : Int32)), .val (.ref bi4), .val (.double (FP.dmul (FP.dmul (FP.ddiv (FP.i2d (p3 &&& (16777215 : Int32))) (4660134898793709568 : UInt64)) (FP.i2d p1)) (FP.dmul (FP.ddiv (FP.i2d (p3 &&& (16777215 : Int32))) (4660134898793709568 : UInt64)) (FP.i2d p1)))), .second, .val (.double (FP.dmul (FP.dmul (FP.ddiv (FP.i2d (p3 &&& (16777215 : Int32))) (4660134898793709568 : UInt64)) (FP.dneg (FP.i2d p1))) (FP.dmul (FP.ddiv (FP.i2d (p3 &&& (16777215 : Int32))) (4660134898793709568 : UInt64)) (FP.dneg (FP.i2d p1))))), .second, .val (.double (FP.dmul (FP.dmul (FP.ddiv (FP.i2d (p3 &&& (16777215 : Int32))) (4660134898793709568 : UInt64)) (FP.i2d p4)) (FP.dmul (FP.ddiv (FP.i2d (p3 &&& (16777215 : Int32))) (4660134898793709568 : UInt64)) (FP.i2d p4)))), .second, .val (.int (1 : Int32)), .unset, .unset, .unset, .unset, .unset, .unset] []))) (fun t_ k_ => XS.istore Xi8.here hx rfl (hb hby at_121) rfl (l' := #[.val (.int p0), .val (.int p1), .val (.int p2), .val (.int p3), .val (.int p4), .val (.long kk), .second, .val (.double (FP.i2d (p2 &&& (65535 : Int32)))), .second, .val (.ref bi1), .val (.double (FP.l2d (kk * (p1.toInt64)))), .second, .val (.int (1 : Int32)), .val (.ref bi4), .val (.double (FP.dmul (FP.dmul (FP.ddiv (FP.i2d (p3 &&& (16777215 : Int32))) (4660134898793709568 : UInt64)) (FP.i2d p1)) (FP.dmul (FP.ddiv (FP.i2d (p3 &&& (16777215 : Int32))) (4660134898793709568 : UInt64)) (FP.i2d p1)))), .second, .val (.double (FP.dmul (FP.dmul (FP.ddiv (FP.i2d (p3 &&& (16777215 : Int32))) (4660134898793709568 : UInt64)) (FP.dneg (FP.i2d p1))) (FP.dmul (FP.ddiv (FP.i2d (p3 &&& (16777215 : Int32))) (4660134898793709568 : UInt64)) (FP.dneg (FP.i2d p1))))), .second, .val (.double (FP.dmul (FP.dmul (FP.ddiv (FP.i2d (p3 &&& (16777215 : Int32))) (4660134898793709568 : UInt64)) (FP.i2d p4)) (FP.dmul (FP.ddiv (FP.i2d (p3 &&& (16777215 : Int32))) (4660134898793709568 : UInt64)) (FP.i2d p4)))), .second, .val (.int (1 : Int32)), .unset, .unset, .unset, .unset, .unset, .unset]) rfl k_) ?_
  refine GoW.st (U := (Ti8.setTop (mkF m 125 #[.val (.int p0), .val (.int p1), .val (.int p2), .val (.int p3), .val (.int p4), .val (.long kk), .second, .val (.double (FP.i2d (p2 &&& (65535 : Int32)))), .second, .val (.ref bi1), .val (.double (FP.l2d (kk * (p1.toInt64)))), .second, .val (.int (1 : Int32)), .val (.ref bi4), .val (.double (FP.dmul (FP.dmul (FP.ddiv (FP.i2d (p3 &&& (16777215 : Int32))) (4660134898793709568 : UInt64)) (FP.i2d p1)) (FP.dmul (FP.ddiv (FP.i2d (p3 &&& (16777215 : Int32))) (4660134898793709568 : UInt64)) (FP.i2d p1)))), .second, .val (.double (FP.dmul (FP.dmul (FP.ddiv (FP.i2d (p3 &&& (16777215 : Int32))) (4660134898793709568 : UInt64)) (FP.dneg (FP.i2d p1))) (FP.dmul (FP.ddiv (FP.i2d (p3 &&& (16777215 : Int32))) (4660134898793709568 : UInt64)) (FP.dneg (FP.i2d p1))))), .second, .val (.double (FP.dmul (FP.dmul (FP.ddiv (FP.i2d (p3 &&& (16777215 : Int32))) (4660134898793709568 : UInt64)) (FP.i2d p4)) (FP.dmul (FP.ddiv (FP.i2d (p3 &&& (16777215 : Int32))) (4660134898793709568 : UInt64)) (FP.i2d p4)))), .second, .val (.int (1 : Int32)), .unset, .unset, .unset, .unset, .unset, .unset] [(.double (FP.dmul (FP.dmul (FP.ddiv (FP.i2d (p3 &&& (16777215 : Int32))) (4660134898793709568 : UInt64)) (FP.i2d p1)) (FP.dmul (FP.ddiv (FP.i2d (p3 &&& (16777215 : Int32))) (4660134898793709568 : UInt64)) (FP.i2d p1))))]))) (fun t_ k_ => XS.dload Xi8.here hx rfl (hb hby at_123) rfl k_) ?_
  refine GoW.st (U := (Ti8.setTop (mkF m 126 #[.val (.int p0), .val (.int p1), .val (.int p2), .val (.int p3), .val (.int p4), .val (.long kk), .second, .val (.double (FP.i2d (p2 &&& (65535 : Int32)))), .second, .val (.ref bi1), .val (.double (FP.l2d (kk * (p1.toInt64)))), .second, .val (.int (1 : Int32)), .val (.ref bi4), .val (.double (FP.dmul (FP.dmul (FP.ddiv (FP.i2d (p3 &&& (16777215 : Int32))) (4660134898793709568 : UInt64)) (FP.i2d p1)) (FP.dmul (FP.ddiv (FP.i2d (p3 &&& (16777215 : Int32))) (4660134898793709568 : UInt64)) (FP.i2d p1)))), .second, .val (.double (FP.dmul (FP.dmul (FP.ddiv (FP.i2d (p3 &&& (16777215 : Int32))) (4660134898793709568 : UInt64)) (FP.dneg (FP.i2d p1))) (FP.dmul (FP.ddiv (FP.i2d (p3 &&& (16777215 : Int32))) (4660134898793709568 : UInt64)) (FP.dneg (FP.i2d p1))))), .second, .val (.double (FP.dmul (FP.dmul (FP.ddiv (FP.i2d (p3 &&& (16777215 : Int32))) (4660134898793709568 : UInt64)) (FP.i2d p4)) (FP.dmul (FP.ddiv (FP.i2d (p3 &&& (16777215 : Int32))) (4660134898793709568 : UInt64)) (FP.i2d p4)))), .second, .val (.int (1 : Int32)), .unset, .unset, .unset, .unset, .unset, .unset] [(.double (0 : UInt64)), (.double (FP.dmul (FP.dmul (FP.ddiv (FP.i2d (p3 &&& (16777215 : Int32))) (4660134898793709568 : UInt64)) (FP.i2d p1)) (FP.dmul (FP.ddiv (FP.i2d (p3 &&& (16777215 : Int32))) (4660134898793709568 : UInt64)) (FP.i2d p1))))]))) (fun t_ k_ => XS.dconst0 Xi8.here hx rfl (hb hby at_125) rfl k_) ?_
  refine GoW.st (U := (Ti8.setTop (mkF m 127 #[.val (.int p0), .val (.int p1), .val (.int p2), .val (.int p3), .val (.int p4), .val (.long kk), .second, .val (.double (FP.i2d (p2 &&& (65535 : Int32)))), .second, .val (.ref bi1), .val (.double (FP.l2d (kk * (p1.toInt64)))), .second, .val (.int (1 : Int32)), .val (.ref bi4), .val (.double (FP.dmul (FP.dmul (FP.ddiv (FP.i2d (p3 &&& (16777215 : Int32))) (4660134898793709568 : UInt64)) (FP.i2d p1)) (FP.dmul (FP.ddiv (FP.i2d (p3 &&& (16777215 : Int32))) (4660134898793709568 : UInt64)) (FP.i2d p1)))), .second, .val (.double (FP.dmul (FP.dmul (FP.ddiv (FP.i2d (p3 &&& (16777215 : Int32))) (4660134898793709568 : UInt64)) (FP.dneg (FP.i2d p1))) (FP.dmul (FP.ddiv (FP.i2d (p3 &&& (16777215 : Int32))) (4660134898793709568 : UInt64)) (FP.dneg (FP.i2d p1))))), .second, .val (.double (FP.dmul (FP.dmul (FP.ddiv (FP.i2d (p3 &&& (16777215 : Int32))) (4660134898793709568 : UInt64)) (FP.i2d p4)) (FP.dmul (FP.ddiv (FP.i2d (p3 &&& (16777215 : Int32))) (4660134898793709568 : UInt64)) (FP.i2d p4)))), .second, .val (.int (1 : Int32)), .unset, .unset, .unset, .unset, .unset, .unset] [(.int (cmpValue (FP.dcmp (FP.dmul (FP.dmul (FP.ddiv (FP.i2d (p3 &&& (16777215 : Int32))) (4660134898793709568 : UInt64)) (FP.i2d p1)) (FP.dmul (FP.ddiv (FP.i2d (p3 &&& (16777215 : Int32))) (4660134898793709568 : UInt64)) (FP.i2d p1))) (0 : UInt64)) .l))]))) (fun t_ k_ => XS.dcmpS Xi8.here hx rfl (hb hby at_126) rfl rfl k_) ?_
  refine GoW.st (U := (Ti8.setTop (mkF m 130 #[.val (.int p0), .val (.int p1), .val (.int p2), .val (.int p3), .val (.int p4), .val (.long kk), .second, .val (.double (FP.i2d (p2 &&& (65535 : Int32)))), .second, .val (.ref bi1), .val (.double (FP.l2d (kk * (p1.toInt64)))), .second, .val (.int (1 : Int32)), .val (.ref bi4), .val (.double (FP.dmul (FP.dmul (FP.ddiv (FP.i2d (p3 &&& (16777215 : Int32))) (4660134898793709568 : UInt64)) (FP.i2d p1)) (FP.dmul (FP.ddiv (FP.i2d (p3 &&& (16777215 : Int32))) (4660134898793709568 : UInt64)) (FP.i2d p1)))), .second, .val (.double (FP.dmul (FP.dmul (FP.ddiv (FP.i2d (p3 &&& (16777215 : Int32))) (4660134898793709568 : UInt64)) (FP.dneg (FP.i2d p1))) (FP.dmul (FP.ddiv (FP.i2d (p3 &&& (16777215 : Int32))) (4660134898793709568 : UInt64)) (FP.dneg (FP.i2d p1))))), .second, .val (.double (FP.dmul (FP.dmul (FP.ddiv (FP.i2d (p3 &&& (16777215 : Int32))) (4660134898793709568 : UInt64)) (FP.i2d p4)) (FP.dmul (FP.ddiv (FP.i2d (p3 &&& (16777215 : Int32))) (4660134898793709568 : UInt64)) (FP.i2d p4)))), .second, .val (.int (1 : Int32)), .unset, .unset, .unset, .unset, .unset, .unset] []))) (fun t_ k_ => XS.ifNo Xi8.here hx rfl (hb hby at_127) rfl ((if0 _ _).trans (flt (own_nonneg R2 R3 I1 J1)).1) k_) ?_
  refine GoW.st (U := (Ti8.setTop (mkF m 131 #[.val (.int p0), .val (.int p1), .val (.int p2), .val (.int p3), .val (.int p4), .val (.long kk), .second, .val (.double (FP.i2d (p2 &&& (65535 : Int32)))), .second, .val (.ref bi1), .val (.double (FP.l2d (kk * (p1.toInt64)))), .second, .val (.int (1 : Int32)), .val (.ref bi4), .val (.double (FP.dmul (FP.dmul (FP.ddiv (FP.i2d (p3 &&& (16777215 : Int32))) (4660134898793709568 : UInt64)) (FP.i2d p1)) (FP.dmul (FP.ddiv (FP.i2d (p3 &&& (16777215 : Int32))) (4660134898793709568 : UInt64)) (FP.i2d p1)))), .second, .val (.double (FP.dmul (FP.dmul (FP.ddiv (FP.i2d (p3 &&& (16777215 : Int32))) (4660134898793709568 : UInt64)) (FP.dneg (FP.i2d p1))) (FP.dmul (FP.ddiv (FP.i2d (p3 &&& (16777215 : Int32))) (4660134898793709568 : UInt64)) (FP.dneg (FP.i2d p1))))), .second, .val (.double (FP.dmul (FP.dmul (FP.ddiv (FP.i2d (p3 &&& (16777215 : Int32))) (4660134898793709568 : UInt64)) (FP.i2d p4)) (FP.dmul (FP.ddiv (FP.i2d (p3 &&& (16777215 : Int32))) (4660134898793709568 : UInt64)) (FP.i2d p4)))), .second, .val (.int (1 : Int32)), .unset, .unset, .unset, .unset, .unset, .unset] [(.int (1 : Int32))]))) (fun t_ k_ => XS.iconst Xi8.here hx rfl (hb hby at_130) k_) ?_
  refine GoW.st (U := (Ti8.setTop (mkF m 135 #[.val (.int p0), .val (.int p1), .val (.int p2), .val (.int p3), .val (.int p4), .val (.long kk), .second, .val (.double (FP.i2d (p2 &&& (65535 : Int32)))), .second, .val (.ref bi1), .val (.double (FP.l2d (kk * (p1.toInt64)))), .second, .val (.int (1 : Int32)), .val (.ref bi4), .val (.double (FP.dmul (FP.dmul (FP.ddiv (FP.i2d (p3 &&& (16777215 : Int32))) (4660134898793709568 : UInt64)) (FP.i2d p1)) (FP.dmul (FP.ddiv (FP.i2d (p3 &&& (16777215 : Int32))) (4660134898793709568 : UInt64)) (FP.i2d p1)))), .second, .val (.double (FP.dmul (FP.dmul (FP.ddiv (FP.i2d (p3 &&& (16777215 : Int32))) (4660134898793709568 : UInt64)) (FP.dneg (FP.i2d p1))) (FP.dmul (FP.ddiv (FP.i2d (p3 &&& (16777215 : Int32))) (4660134898793709568 : UInt64)) (FP.dneg (FP.i2d p1))))), .second, .val (.double (FP.dmul (FP.dmul (FP.ddiv (FP.i2d (p3 &&& (16777215 : Int32))) (4660134898793709568 : UInt64)) (FP.i2d p4)) (FP.dmul (FP.ddiv (FP.i2d (p3 &&& (16777215 : Int32))) (4660134898793709568 : UInt64)) (FP.i2d p4)))), .second, .val (.int (1 : Int32)), .unset, .unset, .unset, .unset, .unset, .unset] [(.int (1 : Int32))]))) (fun t_ k_ => XS.goto Xi8.here hx rfl (pc0 := 131) (pc' := 135) rfl (hb hby at_131) (by decide) (by decide) k_) ?_
  refine GoW.st (U := (Ti8.setTop (mkF m 137 #[.val (.int p0), .val (.int p1), .val (.int p2), .val (.int p3), .val (.int p4), .val (.long kk), .second, .val (.double (FP.i2d (p2 &&& (65535 : Int32)))), .second, .val (.ref bi1), .val (.double (FP.l2d (kk * (p1.toInt64)))), .second, .val (.int (1 : Int32)), .val (.ref bi4), .val (.double (FP.dmul (FP.dmul (FP.ddiv (FP.i2d (p3 &&& (16777215 : Int32))) (4660134898793709568 : UInt64)) (FP.i2d p1)) (FP.dmul (FP.ddiv (FP.i2d (p3 &&& (16777215 : Int32))) (4660134898793709568 : UInt64)) (FP.i2d p1)))), .second, .val (.double (FP.dmul (FP.dmul (FP.ddiv (FP.i2d (p3 &&& (16777215 : Int32))) (4660134898793709568 : UInt64)) (FP.dneg (FP.i2d p1))) (FP.dmul (FP.ddiv (FP.i2d (p3 &&& (16777215 : Int32))) (4660134898793709568 : UInt64)) (FP.dneg (FP.i2d p1))))), .second, .val (.double (FP.dmul (FP.dmul (FP.ddiv (FP.i2d (p3 &&& (16777215 : Int32))) (4660134898793709568 : UInt64)) (FP.i2d p4)) (FP.dmul (FP.ddiv (FP.i2d (p3 &&& (16777215 : Int32))) (4660134898793709568 : UInt64)) (FP.i2d p4)))), .second, .val (.int (1 : Int32)), .val (.int (1 : Int32)), .unset, .unset, .unset, .unset, .unset] []))) (fun t_ k_ => XS.istore Xi8.here hx rfl (hb hby at_135) rfl (l' := #[.val (.int p0), .val (.int p1), .val (.int p2), .val (.int p3), .val (.int p4), .val (.long kk), .second, .val (.double (FP.i2d (p2 &&& (65535 : Int32)))), .second, .val (.ref bi1), .val (.double (FP.l2d (kk * (p1.toInt64)))), .second, .val (.int (1 : Int32)), .val (.ref bi4), .val (.double (FP.dmul (FP.dmul (FP.ddiv (FP.i2d (p3 &&& (16777215 : Int32))) (4660134898793709568 : UInt64)) (FP.i2d p1)) (FP.dmul (FP.ddiv (FP.i2d (p3 &&& (16777215 : Int32))) (4660134898793709568 : UInt64)) (FP.i2d p1)))), .second, .val (.double (FP.dmul (FP.dmul (FP.ddiv (FP.i2d (p3 &&& (16777215 : Int32))) (4660134898793709568 : UInt64)) (FP.dneg (FP.i2d p1))) (FP.dmul (FP.ddiv (FP.i2d (p3 &&& (16777215 : Int32))) (4660134898793709568 : UInt64)) (FP.dneg (FP.i2d p1))))), .second, .val (.double (FP.dmul (FP.dmul (FP.ddiv (FP.i2d (p3 &&& (16777215 : Int32))) (4660134898793709568 : UInt64)) (FP.i2d p4)) (FP.dmul (FP.ddiv (FP.i2d (p3 &&& (16777215 : Int32))) (4660134898793709568 : UInt64)) (FP.i2d p4)))), .second, .val (.int (1 : Int32)), .val (.int (1 : Int32)), .unset, .unset, .unset, .unset, .unset]) rfl k_) ?_
  refine GoW.st (U := (Ti8.setTop (mkF m 138 #[.val (.int p0), .val (.int p1), .val (.int p2), .val (.int p3), .val (.int p4), .val (.long kk), .second, .val (.double (FP.i2d (p2 &&& (65535 : Int32)))), .second, .val (.ref bi1), .val (.double (FP.l2d (kk * (p1.toInt64)))), .second, .val (.int (1 : Int32)), .val (.ref bi4), .val (.double (FP.dmul (FP.dmul (FP.ddiv (FP.i2d (p3 &&& (16777215 : Int32))) (4660134898793709568 : UInt64)) (FP.i2d p1)) (FP.dmul (FP.ddiv (FP.i2d (p3 &&& (16777215 : Int32))) (4660134898793709568 : UInt64)) (FP.i2d p1)))), .second, .val (.double (FP.dmul (FP.dmul (FP.ddiv (FP.i2d (p3 &&& (16777215 : Int32))) (4660134898793709568 : UInt64)) (FP.dneg (FP.i2d p1))) (FP.dmul (FP.ddiv (FP.i2d (p3 &&& (16777215 : Int32))) (4660134898793709568 : UInt64)) (FP.dneg (FP.i2d p1))))), .second, .val (.double (FP.dmul (FP.dmul (FP.ddiv (FP.i2d (p3 &&& (16777215 : Int32))) (4660134898793709568 : UInt64)) (FP.i2d p4)) (FP.dmul (FP.ddiv (FP.i2d (p3 &&& (16777215 : Int32))) (4660134898793709568 : UInt64)) (FP.i2d p4)))), .second, .val (.int (1 : Int32)), .val (.int (1 : Int32)), .unset, .unset, .unset, .unset, .unset] [(.int p1)]))) (fun t_ k_ => XS.iloadN Xi8.here hx rfl (hb hby at_137) rfl k_) ?_
  refine GoW.st (U := (Ti8.setTop (mkF m 139 #[.val (.int p0), .val (.int p1), .val (.int p2), .val (.int p3), .val (.int p4), .val (.long kk), .second, .val (.double (FP.i2d (p2 &&& (65535 : Int32)))), .second, .val (.ref bi1), .val (.double (FP.l2d (kk * (p1.toInt64)))), .second, .val (.int (1 : Int32)), .val (.ref bi4), .val (.double (FP.dmul (FP.dmul (FP.ddiv (FP.i2d (p3 &&& (16777215 : Int32))) (4660134898793709568 : UInt64)) (FP.i2d p1)) (FP.dmul (FP.ddiv (FP.i2d (p3 &&& (16777215 : Int32))) (4660134898793709568 : UInt64)) (FP.i2d p1)))), .second, .val (.double (FP.dmul (FP.dmul (FP.ddiv (FP.i2d (p3 &&& (16777215 : Int32))) (4660134898793709568 : UInt64)) (FP.dneg (FP.i2d p1))) (FP.dmul (FP.ddiv (FP.i2d (p3 &&& (16777215 : Int32))) (4660134898793709568 : UInt64)) (FP.dneg (FP.i2d p1))))), .second, .val (.double (FP.dmul (FP.dmul (FP.ddiv (FP.i2d (p3 &&& (16777215 : Int32))) (4660134898793709568 : UInt64)) (FP.i2d p4)) (FP.dmul (FP.ddiv (FP.i2d (p3 &&& (16777215 : Int32))) (4660134898793709568 : UInt64)) (FP.i2d p4)))), .second, .val (.int (1 : Int32)), .val (.int (1 : Int32)), .unset, .unset, .unset, .unset, .unset] [(.long (p1.toInt64))]))) (fun t_ k_ => XS.i2l Xi8.here hx rfl (hb hby at_138) rfl k_) ?_
  refine GoW.callS Xi8 hx hZ hown (hw _ (List.mem_of_getElem? (i := 50) rfl)) (hw _ (List.mem_of_getElem? (i := 51) rfl)) (hw _ (List.mem_of_getElem? (i := 35) rfl)) (hw _ (List.mem_of_getElem? (i := 52) rfl)) (by decide) (rm_abs l Z a0 hw [] (p1.toInt64) Ti5.heap n0 Zi5 ) ei8 0 (by decide) (by decide) (g := (mkF m 139 #[.val (.int p0), .val (.int p1), .val (.int p2), .val (.int p3), .val (.int p4), .val (.long kk), .second, .val (.double (FP.i2d (p2 &&& (65535 : Int32)))), .second, .val (.ref bi1), .val (.double (FP.l2d (kk * (p1.toInt64)))), .second, .val (.int (1 : Int32)), .val (.ref bi4), .val (.double (FP.dmul (FP.dmul (FP.ddiv (FP.i2d (p3 &&& (16777215 : Int32))) (4660134898793709568 : UInt64)) (FP.i2d p1)) (FP.dmul (FP.ddiv (FP.i2d (p3 &&& (16777215 : Int32))) (4660134898793709568 : UInt64)) (FP.i2d p1)))), .second, .val (.double (FP.dmul (FP.dmul (FP.ddiv (FP.i2d (p3 &&& (16777215 : Int32))) (4660134898793709568 : UInt64)) (FP.dneg (FP.i2d p1))) (FP.dmul (FP.ddiv (FP.i2d (p3 &&& (16777215 : Int32))) (4660134898793709568 : UInt64)) (FP.dneg (FP.i2d p1))))), .second, .val (.double (FP.dmul (FP.dmul (FP.ddiv (FP.i2d (p3 &&& (16777215 : Int32))) (4660134898793709568 : UInt64)) (FP.i2d p4)) (FP.dmul (FP.ddiv (FP.i2d (p3 &&& (16777215 : Int32))) (4660134898793709568 : UInt64)) (FP.i2d p4)))), .second, .val (.int (1 : Int32)), .val (.int (1 : Int32)), .unset, .unset, .unset, .unset, .unset] [(.long (p1.toInt64))])) rfl (by rw [hml]; rfl) [(.long (p1.toInt64))] [] rfl (lenOf pd4 rfl) rfl (by show 2 * 0 + _ ≤ _; exact Nat.le_of_eq rfl) (hb hby at_139) (by decide) (by decide) ?_
  intro vi9 Ti9 Li9 hQi9 Xi9
  obtain ⟨rfl, Ni9, ei9⟩ := hQi9
  have Ni9 := Fr.app Ni8 Ni9
  show GoW p e below s _ _ (Ti9.setTop (mkF m 142 #[.val (.int p0), .val (.int p1), .val (.int p2), .val (.int p3), .val (.int p4), .val (.long kk), .second, .val (.double (FP.i2d (p2 &&& (65535 : Int32)))), .second, .val (.ref bi1), .val (.double (FP.l2d (kk * (p1.toInt64)))), .second, .val (.int (1 : Int32)), .val (.ref bi4), .val (.double (FP.dmul (FP.dmul (FP.ddiv (FP.i2d (p3 &&& (16777215 : Int32))) (4660134898793709568 : UInt64)) (FP.i2d p1)) (FP.dmul (FP.ddiv (FP.i2d (p3 &&& (16777215 : Int32))) (4660134898793709568 : UInt64)) (FP.i2d p1)))), .second, .val (.double (FP.dmul (FP.dmul (FP.ddiv (FP.i2d (p3 &&& (16777215 : Int32))) (4660134898793709568 : UInt64)) (FP.dneg (FP.i2d p1))) (FP.dmul (FP.ddiv (FP.i2d (p3 &&& (16777215 : Int32))) (4660134898793709568 : UInt64)) (FP.dneg (FP.i2d p1))))), .second, .val (.double (FP.dmul (FP.dmul (FP.ddiv (FP.i2d (p3 &&& (16777215 : Int32))) (4660134898793709568 : UInt64)) (FP.i2d p4)) (FP.dmul (FP.ddiv (FP.i2d (p3 &&& (16777215 : Int32))) (4660134898793709568 : UInt64)) (FP.i2d p4)))), .second, .val (.int (1 : Int32)), .val (.int (1 : Int32)), .unset, .unset, .unset, .unset, .unset] [(.long (if lcmpW (p1.toInt64) (0 : Int64) < (0 : Int32) then -(p1.toInt64) else (p1.toInt64)))]))
  generalize q_ab : (if lcmpW (p1.toInt64) (0 : Int64) < (0 : Int32) then -(p1.toInt64) else (p1.toInt64)) = ab
  refine GoW.st (U := (Ti9.setTop (mkF m 144 #[.val (.int p0), .val (.int p1), .val (.int p2), .val (.int p3), .val (.int p4), .val (.long kk), .second, .val (.double (FP.i2d (p2 &&& (65535 : Int32)))), .second, .val (.ref bi1), .val (.double (FP.l2d (kk * (p1.toInt64)))), .second, .val (.int (1 : Int32)), .val (.ref bi4), .val (.double (FP.dmul (FP.dmul (FP.ddiv (FP.i2d (p3 &&& (16777215 : Int32))) (4660134898793709568 : UInt64)) (FP.i2d p1)) (FP.dmul (FP.ddiv (FP.i2d (p3 &&& (16777215 : Int32))) (4660134898793709568 : UInt64)) (FP.i2d p1)))), .second, .val (.double (FP.dmul (FP.dmul (FP.ddiv (FP.i2d (p3 &&& (16777215 : Int32))) (4660134898793709568 : UInt64)) (FP.dneg (FP.i2d p1))) (FP.dmul (FP.ddiv (FP.i2d (p3 &&& (16777215 : Int32))) (4660134898793709568 : UInt64)) (FP.dneg (FP.i2d p1))))), .second, .val (.double (FP.dmul (FP.dmul (FP.ddiv (FP.i2d (p3 &&& (16777215 : Int32))) (4660134898793709568 : UInt64)) (FP.i2d p4)) (FP.dmul (FP.ddiv (FP.i2d (p3 &&& (16777215 : Int32))) (4660134898793709568 : UInt64)) (FP.i2d p4)))), .second, .val (.int (1 : Int32)), .val (.int (1 : Int32)), .val (.long ab), .second, .unset, .unset, .unset] []))) (fun t_ k_ => XS.lstore Xi9.here hx rfl (hb hby at_142) rfl (l' := #[.val (.int p0), .val (.int p1), .val (.int p2), .val (.int p3), .val (.int p4), .val (.long kk), .second, .val (.double (FP.i2d (p2 &&& (65535 : Int32)))), .second, .val (.ref bi1), .val (.double (FP.l2d (kk * (p1.toInt64)))), .second, .val (.int (1 : Int32)), .val (.ref bi4), .val (.double (FP.dmul (FP.dmul (FP.ddiv (FP.i2d (p3 &&& (16777215 : Int32))) (4660134898793709568 : UInt64)) (FP.i2d p1)) (FP.dmul (FP.ddiv (FP.i2d (p3 &&& (16777215 : Int32))) (4660134898793709568 : UInt64)) (FP.i2d p1)))), .second, .val (.double (FP.dmul (FP.dmul (FP.ddiv (FP.i2d (p3 &&& (16777215 : Int32))) (4660134898793709568 : UInt64)) (FP.dneg (FP.i2d p1))) (FP.dmul (FP.ddiv (FP.i2d (p3 &&& (16777215 : Int32))) (4660134898793709568 : UInt64)) (FP.dneg (FP.i2d p1))))), .second, .val (.double (FP.dmul (FP.dmul (FP.ddiv (FP.i2d (p3 &&& (16777215 : Int32))) (4660134898793709568 : UInt64)) (FP.i2d p4)) (FP.dmul (FP.ddiv (FP.i2d (p3 &&& (16777215 : Int32))) (4660134898793709568 : UInt64)) (FP.i2d p4)))), .second, .val (.int (1 : Int32)), .val (.int (1 : Int32)), .val (.long ab), .second, .unset, .unset, .unset]) rfl k_) ?_
  refine GoW.st (U := (Ti9.setTop (mkF m 146 #[.val (.int p0), .val (.int p1), .val (.int p2), .val (.int p3), .val (.int p4), .val (.long kk), .second, .val (.double (FP.i2d (p2 &&& (65535 : Int32)))), .second, .val (.ref bi1), .val (.double (FP.l2d (kk * (p1.toInt64)))), .second, .val (.int (1 : Int32)), .val (.ref bi4), .val (.double (FP.dmul (FP.dmul (FP.ddiv (FP.i2d (p3 &&& (16777215 : Int32))) (4660134898793709568 : UInt64)) (FP.i2d p1)) (FP.dmul (FP.ddiv (FP.i2d (p3 &&& (16777215 : Int32))) (4660134898793709568 : UInt64)) (FP.i2d p1)))), .second, .val (.double (FP.dmul (FP.dmul (FP.ddiv (FP.i2d (p3 &&& (16777215 : Int32))) (4660134898793709568 : UInt64)) (FP.dneg (FP.i2d p1))) (FP.dmul (FP.ddiv (FP.i2d (p3 &&& (16777215 : Int32))) (4660134898793709568 : UInt64)) (FP.dneg (FP.i2d p1))))), .second, .val (.double (FP.dmul (FP.dmul (FP.ddiv (FP.i2d (p3 &&& (16777215 : Int32))) (4660134898793709568 : UInt64)) (FP.i2d p4)) (FP.dmul (FP.ddiv (FP.i2d (p3 &&& (16777215 : Int32))) (4660134898793709568 : UInt64)) (FP.i2d p4)))), .second, .val (.int (1 : Int32)), .val (.int (1 : Int32)), .val (.long ab), .second, .unset, .unset, .unset] [(.int p4)]))) (fun t_ k_ => XS.iload Xi9.here hx rfl (hb hby at_144) rfl k_) ?_
  refine GoW.st (U := (Ti9.setTop (mkF m 147 #[.val (.int p0), .val (.int p1), .val (.int p2), .val (.int p3), .val (.int p4), .val (.long kk), .second, .val (.double (FP.i2d (p2 &&& (65535 : Int32)))), .second, .val (.ref bi1), .val (.double (FP.l2d (kk * (p1.toInt64)))), .second, .val (.int (1 : Int32)), .val (.ref bi4), .val (.double (FP.dmul (FP.dmul (FP.ddiv (FP.i2d (p3 &&& (16777215 : Int32))) (4660134898793709568 : UInt64)) (FP.i2d p1)) (FP.dmul (FP.ddiv (FP.i2d (p3 &&& (16777215 : Int32))) (4660134898793709568 : UInt64)) (FP.i2d p1)))), .second, .val (.double (FP.dmul (FP.dmul (FP.ddiv (FP.i2d (p3 &&& (16777215 : Int32))) (4660134898793709568 : UInt64)) (FP.dneg (FP.i2d p1))) (FP.dmul (FP.ddiv (FP.i2d (p3 &&& (16777215 : Int32))) (4660134898793709568 : UInt64)) (FP.dneg (FP.i2d p1))))), .second, .val (.double (FP.dmul (FP.dmul (FP.ddiv (FP.i2d (p3 &&& (16777215 : Int32))) (4660134898793709568 : UInt64)) (FP.i2d p4)) (FP.dmul (FP.ddiv (FP.i2d (p3 &&& (16777215 : Int32))) (4660134898793709568 : UInt64)) (FP.i2d p4)))), .second, .val (.int (1 : Int32)), .val (.int (1 : Int32)), .val (.long ab), .second, .unset, .unset, .unset] [(.long (p4.toInt64))]))) (fun t_ k_ => XS.i2l Xi9.here hx rfl (hb hby at_146) rfl k_) ?_
  refine GoW.callS Xi9 hx hZ hown (hw _ (List.mem_of_getElem? (i := 50) rfl)) (hw _ (List.mem_of_getElem? (i := 51) rfl)) (hw _ (List.mem_of_getElem? (i := 35) rfl)) (hw _ (List.mem_of_getElem? (i := 52) rfl)) (by decide) (rm_abs l Z a0 hw [] (p4.toInt64) Ti5.heap n0 Zi5 ) ei9 0 (by decide) (by decide) (g := (mkF m 147 #[.val (.int p0), .val (.int p1), .val (.int p2), .val (.int p3), .val (.int p4), .val (.long kk), .second, .val (.double (FP.i2d (p2 &&& (65535 : Int32)))), .second, .val (.ref bi1), .val (.double (FP.l2d (kk * (p1.toInt64)))), .second, .val (.int (1 : Int32)), .val (.ref bi4), .val (.double (FP.dmul (FP.dmul (FP.ddiv (FP.i2d (p3 &&& (16777215 : Int32))) (4660134898793709568 : UInt64)) (FP.i2d p1)) (FP.dmul (FP.ddiv (FP.i2d (p3 &&& (16777215 : Int32))) (4660134898793709568 : UInt64)) (FP.i2d p1)))), .second, .val (.double (FP.dmul (FP.dmul (FP.ddiv (FP.i2d (p3 &&& (16777215 : Int32))) (4660134898793709568 : UInt64)) (FP.dneg (FP.i2d p1))) (FP.dmul (FP.ddiv (FP.i2d (p3 &&& (16777215 : Int32))) (4660134898793709568 : UInt64)) (FP.dneg (FP.i2d p1))))), .second, .val (.double (FP.dmul (FP.dmul (FP.ddiv (FP.i2d (p3 &&& (16777215 : Int32))) (4660134898793709568 : UInt64)) (FP.i2d p4)) (FP.dmul (FP.ddiv (FP.i2d (p3 &&& (16777215 : Int32))) (4660134898793709568 : UInt64)) (FP.i2d p4)))), .second, .val (.int (1 : Int32)), .val (.int (1 : Int32)), .val (.long ab), .second, .unset, .unset, .unset] [(.long (p4.toInt64))])) rfl (by rw [hml]; rfl) [(.long (p4.toInt64))] [] rfl (lenOf pd4 rfl) rfl (by show 2 * 0 + _ ≤ _; exact Nat.le_of_eq rfl) (hb hby at_147) (by decide) (by decide) ?_
  intro vi10 Ti10 Li10 hQi10 Xi10
  obtain ⟨rfl, Ni10, ei10⟩ := hQi10
  have Ni10 := Fr.app Ni9 Ni10
  show GoW p e below s _ _ (Ti10.setTop (mkF m 150 #[.val (.int p0), .val (.int p1), .val (.int p2), .val (.int p3), .val (.int p4), .val (.long kk), .second, .val (.double (FP.i2d (p2 &&& (65535 : Int32)))), .second, .val (.ref bi1), .val (.double (FP.l2d (kk * (p1.toInt64)))), .second, .val (.int (1 : Int32)), .val (.ref bi4), .val (.double (FP.dmul (FP.dmul (FP.ddiv (FP.i2d (p3 &&& (16777215 : Int32))) (4660134898793709568 : UInt64)) (FP.i2d p1)) (FP.dmul (FP.ddiv (FP.i2d (p3 &&& (16777215 : Int32))) (4660134898793709568 : UInt64)) (FP.i2d p1)))), .second, .val (.double (FP.dmul (FP.dmul (FP.ddiv (FP.i2d (p3 &&& (16777215 : Int32))) (4660134898793709568 : UInt64)) (FP.dneg (FP.i2d p1))) (FP.dmul (FP.ddiv (FP.i2d (p3 &&& (16777215 : Int32))) (4660134898793709568 : UInt64)) (FP.dneg (FP.i2d p1))))), .second, .val (.double (FP.dmul (FP.dmul (FP.ddiv (FP.i2d (p3 &&& (16777215 : Int32))) (4660134898793709568 : UInt64)) (FP.i2d p4)) (FP.dmul (FP.ddiv (FP.i2d (p3 &&& (16777215 : Int32))) (4660134898793709568 : UInt64)) (FP.i2d p4)))), .second, .val (.int (1 : Int32)), .val (.int (1 : Int32)), .val (.long ab), .second, .unset, .unset, .unset] [(.long (if lcmpW (p4.toInt64) (0 : Int64) < (0 : Int32) then -(p4.toInt64) else (p4.toInt64)))]))
  generalize q_ae : (if lcmpW (p4.toInt64) (0 : Int64) < (0 : Int32) then -(p4.toInt64) else (p4.toInt64)) = ae
  refine GoW.st (U := (Ti10.setTop (mkF m 152 #[.val (.int p0), .val (.int p1), .val (.int p2), .val (.int p3), .val (.int p4), .val (.long kk), .second, .val (.double (FP.i2d (p2 &&& (65535 : Int32)))), .second, .val (.ref bi1), .val (.double (FP.l2d (kk * (p1.toInt64)))), .second, .val (.int (1 : Int32)), .val (.ref bi4), .val (.double (FP.dmul (FP.dmul (FP.ddiv (FP.i2d (p3 &&& (16777215 : Int32))) (4660134898793709568 : UInt64)) (FP.i2d p1)) (FP.dmul (FP.ddiv (FP.i2d (p3 &&& (16777215 : Int32))) (4660134898793709568 : UInt64)) (FP.i2d p1)))), .second, .val (.double (FP.dmul (FP.dmul (FP.ddiv (FP.i2d (p3 &&& (16777215 : Int32))) (4660134898793709568 : UInt64)) (FP.dneg (FP.i2d p1))) (FP.dmul (FP.ddiv (FP.i2d (p3 &&& (16777215 : Int32))) (4660134898793709568 : UInt64)) (FP.dneg (FP.i2d p1))))), .second, .val (.double (FP.dmul (FP.dmul (FP.ddiv (FP.i2d (p3 &&& (16777215 : Int32))) (4660134898793709568 : UInt64)) (FP.i2d p4)) (FP.dmul (FP.ddiv (FP.i2d (p3 &&& (16777215 : Int32))) (4660134898793709568 : UInt64)) (FP.i2d p4)))), .second, .val (.int (1 : Int32)), .val (.int (1 : Int32)), .val (.long ab), .second, .val (.long ae), .second, .unset] []))) (fun t_ k_ => XS.lstore Xi10.here hx rfl (hb hby at_150) rfl (l' := #[.val (.int p0), .val (.int p1), .val (.int p2), .val (.int p3), .val (.int p4), .val (.long kk), .second, .val (.double (FP.i2d (p2 &&& (65535 : Int32)))), .second, .val (.ref bi1), .val (.double (FP.l2d (kk * (p1.toInt64)))), .second, .val (.int (1 : Int32)), .val (.ref bi4), .val (.double (FP.dmul (FP.dmul (FP.ddiv (FP.i2d (p3 &&& (16777215 : Int32))) (4660134898793709568 : UInt64)) (FP.i2d p1)) (FP.dmul (FP.ddiv (FP.i2d (p3 &&& (16777215 : Int32))) (4660134898793709568 : UInt64)) (FP.i2d p1)))), .second, .val (.double (FP.dmul (FP.dmul (FP.ddiv (FP.i2d (p3 &&& (16777215 : Int32))) (4660134898793709568 : UInt64)) (FP.dneg (FP.i2d p1))) (FP.dmul (FP.ddiv (FP.i2d (p3 &&& (16777215 : Int32))) (4660134898793709568 : UInt64)) (FP.dneg (FP.i2d p1))))), .second, .val (.double (FP.dmul (FP.dmul (FP.ddiv (FP.i2d (p3 &&& (16777215 : Int32))) (4660134898793709568 : UInt64)) (FP.i2d p4)) (FP.dmul (FP.ddiv (FP.i2d (p3 &&& (16777215 : Int32))) (4660134898793709568 : UInt64)) (FP.i2d p4)))), .second, .val (.int (1 : Int32)), .val (.int (1 : Int32)), .val (.long ab), .second, .val (.long ae), .second, .unset]) rfl k_) ?_
  have B_o := own_fin (own_abs q_ab) (own_abs q_ae)
  have J189 : GoW p e below s room_1 (Q_law Z p0 p1 p2 p3 p4 h0 n0) (Ti10.setTop (mkF m 189 #[.val (.int p0), .val (.int p1), .val (.int p2), .val (.int p3), .val (.int p4), .val (.long kk), .second, .val (.double (FP.i2d (p2 &&& (65535 : Int32)))), .second, .val (.ref bi1), .val (.double (FP.l2d (kk * (p1.toInt64)))), .second, .val (.int (1 : Int32)), .val (.ref bi4), .val (.double (FP.dmul (FP.dmul (FP.ddiv (FP.i2d (p3 &&& (16777215 : Int32))) (4660134898793709568 : UInt64)) (FP.i2d p1)) (FP.dmul (FP.ddiv (FP.i2d (p3 &&& (16777215 : Int32))) (4660134898793709568 : UInt64)) (FP.i2d p1)))), .second, .val (.double (FP.dmul (FP.dmul (FP.ddiv (FP.i2d (p3 &&& (16777215 : Int32))) (4660134898793709568 : UInt64)) (FP.dneg (FP.i2d p1))) (FP.dmul (FP.ddiv (FP.i2d (p3 &&& (16777215 : Int32))) (4660134898793709568 : UInt64)) (FP.dneg (FP.i2d p1))))), .second, .val (.double (FP.dmul (FP.dmul (FP.ddiv (FP.i2d (p3 &&& (16777215 : Int32))) (4660134898793709568 : UInt64)) (FP.i2d p4)) (FP.dmul (FP.ddiv (FP.i2d (p3 &&& (16777215 : Int32))) (4660134898793709568 : UInt64)) (FP.i2d p4)))), .second, .val (.int (1 : Int32)), .val (.int (1 : Int32)), .val (.long ab), .second, .val (.long ae), .second, .unset] [(.int (1 : Int32))])) := by
    refine GoW.st (U := (Ti10.setTop (mkF m 191 #[.val (.int p0), .val (.int p1), .val (.int p2), .val (.int p3), .val (.int p4), .val (.long kk), .second, .val (.double (FP.i2d (p2 &&& (65535 : Int32)))), .second, .val (.ref bi1), .val (.double (FP.l2d (kk * (p1.toInt64)))), .second, .val (.int (1 : Int32)), .val (.ref bi4), .val (.double (FP.dmul (FP.dmul (FP.ddiv (FP.i2d (p3 &&& (16777215 : Int32))) (4660134898793709568 : UInt64)) (FP.i2d p1)) (FP.dmul (FP.ddiv (FP.i2d (p3 &&& (16777215 : Int32))) (4660134898793709568 : UInt64)) (FP.i2d p1)))), .second, .val (.double (FP.dmul (FP.dmul (FP.ddiv (FP.i2d (p3 &&& (16777215 : Int32))) (4660134898793709568 : UInt64)) (FP.dneg (FP.i2d p1))) (FP.dmul (FP.ddiv (FP.i2d (p3 &&& (16777215 : Int32))) (4660134898793709568 : UInt64)) (FP.dneg (FP.i2d p1))))), .second, .val (.double (FP.dmul (FP.dmul (FP.ddiv (FP.i2d (p3 &&& (16777215 : Int32))) (4660134898793709568 : UInt64)) (FP.i2d p4)) (FP.dmul (FP.ddiv (FP.i2d (p3 &&& (16777215 : Int32))) (4660134898793709568 : UInt64)) (FP.i2d p4)))), .second, .val (.int (1 : Int32)), .val (.int (1 : Int32)), .val (.long ab), .second, .val (.long ae), .second, .val (.int (1 : Int32))] []))) (fun t_ k_ => XS.istore Xi10.here hx rfl (hb hby at_189) rfl (l' := #[.val (.int p0), .val (.int p1), .val (.int p2), .val (.int p3), .val (.int p4), .val (.long kk), .second, .val (.double (FP.i2d (p2 &&& (65535 : Int32)))), .second, .val (.ref bi1), .val (.double (FP.l2d (kk * (p1.toInt64)))), .second, .val (.int (1 : Int32)), .val (.ref bi4), .val (.double (FP.dmul (FP.dmul (FP.ddiv (FP.i2d (p3 &&& (16777215 : Int32))) (4660134898793709568 : UInt64)) (FP.i2d p1)) (FP.dmul (FP.ddiv (FP.i2d (p3 &&& (16777215 : Int32))) (4660134898793709568 : UInt64)) (FP.i2d p1)))), .second, .val (.double (FP.dmul (FP.dmul (FP.ddiv (FP.i2d (p3 &&& (16777215 : Int32))) (4660134898793709568 : UInt64)) (FP.dneg (FP.i2d p1))) (FP.dmul (FP.ddiv (FP.i2d (p3 &&& (16777215 : Int32))) (4660134898793709568 : UInt64)) (FP.dneg (FP.i2d p1))))), .second, .val (.double (FP.dmul (FP.dmul (FP.ddiv (FP.i2d (p3 &&& (16777215 : Int32))) (4660134898793709568 : UInt64)) (FP.i2d p4)) (FP.dmul (FP.ddiv (FP.i2d (p3 &&& (16777215 : Int32))) (4660134898793709568 : UInt64)) (FP.i2d p4)))), .second, .val (.int (1 : Int32)), .val (.int (1 : Int32)), .val (.long ab), .second, .val (.long ae), .second, .val (.int (1 : Int32))]) rfl k_) ?_
    refine GoW.st (U := (Ti10.setTop (mkF m 193 #[.val (.int p0), .val (.int p1), .val (.int p2), .val (.int p3), .val (.int p4), .val (.long kk), .second, .val (.double (FP.i2d (p2 &&& (65535 : Int32)))), .second, .val (.ref bi1), .val (.double (FP.l2d (kk * (p1.toInt64)))), .second, .val (.int (1 : Int32)), .val (.ref bi4), .val (.double (FP.dmul (FP.dmul (FP.ddiv (FP.i2d (p3 &&& (16777215 : Int32))) (4660134898793709568 : UInt64)) (FP.i2d p1)) (FP.dmul (FP.ddiv (FP.i2d (p3 &&& (16777215 : Int32))) (4660134898793709568 : UInt64)) (FP.i2d p1)))), .second, .val (.double (FP.dmul (FP.dmul (FP.ddiv (FP.i2d (p3 &&& (16777215 : Int32))) (4660134898793709568 : UInt64)) (FP.dneg (FP.i2d p1))) (FP.dmul (FP.ddiv (FP.i2d (p3 &&& (16777215 : Int32))) (4660134898793709568 : UInt64)) (FP.dneg (FP.i2d p1))))), .second, .val (.double (FP.dmul (FP.dmul (FP.ddiv (FP.i2d (p3 &&& (16777215 : Int32))) (4660134898793709568 : UInt64)) (FP.i2d p4)) (FP.dmul (FP.ddiv (FP.i2d (p3 &&& (16777215 : Int32))) (4660134898793709568 : UInt64)) (FP.i2d p4)))), .second, .val (.int (1 : Int32)), .val (.int (1 : Int32)), .val (.long ab), .second, .val (.long ae), .second, .val (.int (1 : Int32))] [(.int (1 : Int32))]))) (fun t_ k_ => XS.iload Xi10.here hx rfl (hb hby at_191) rfl k_) ?_
    refine GoW.st (U := (Ti10.setTop (mkF m 196 #[.val (.int p0), .val (.int p1), .val (.int p2), .val (.int p3), .val (.int p4), .val (.long kk), .second, .val (.double (FP.i2d (p2 &&& (65535 : Int32)))), .second, .val (.ref bi1), .val (.double (FP.l2d (kk * (p1.toInt64)))), .second, .val (.int (1 : Int32)), .val (.ref bi4), .val (.double (FP.dmul (FP.dmul (FP.ddiv (FP.i2d (p3 &&& (16777215 : Int32))) (4660134898793709568 : UInt64)) (FP.i2d p1)) (FP.dmul (FP.ddiv (FP.i2d (p3 &&& (16777215 : Int32))) (4660134898793709568 : UInt64)) (FP.i2d p1)))), .second, .val (.double (FP.dmul (FP.dmul (FP.ddiv (FP.i2d (p3 &&& (16777215 : Int32))) (4660134898793709568 : UInt64)) (FP.dneg (FP.i2d p1))) (FP.dmul (FP.ddiv (FP.i2d (p3 &&& (16777215 : Int32))) (4660134898793709568 : UInt64)) (FP.dneg (FP.i2d p1))))), .second, .val (.double (FP.dmul (FP.dmul (FP.ddiv (FP.i2d (p3 &&& (16777215 : Int32))) (4660134898793709568 : UInt64)) (FP.i2d p4)) (FP.dmul (FP.ddiv (FP.i2d (p3 &&& (16777215 : Int32))) (4660134898793709568 : UInt64)) (FP.i2d p4)))), .second, .val (.int (1 : Int32)), .val (.int (1 : Int32)), .val (.long ab), .second, .val (.long ae), .second, .val (.int (1 : Int32))] []))) (fun t_ k_ => XS.ifNo Xi10.here hx rfl (hb hby at_193) rfl ((if0 _ _).trans (feq (by decide)).1) k_) ?_
    refine GoW.st (U := (Ti10.setTop (mkF m 198 #[.val (.int p0), .val (.int p1), .val (.int p2), .val (.int p3), .val (.int p4), .val (.long kk), .second, .val (.double (FP.i2d (p2 &&& (65535 : Int32)))), .second, .val (.ref bi1), .val (.double (FP.l2d (kk * (p1.toInt64)))), .second, .val (.int (1 : Int32)), .val (.ref bi4), .val (.double (FP.dmul (FP.dmul (FP.ddiv (FP.i2d (p3 &&& (16777215 : Int32))) (4660134898793709568 : UInt64)) (FP.i2d p1)) (FP.dmul (FP.ddiv (FP.i2d (p3 &&& (16777215 : Int32))) (4660134898793709568 : UInt64)) (FP.i2d p1)))), .second, .val (.double (FP.dmul (FP.dmul (FP.ddiv (FP.i2d (p3 &&& (16777215 : Int32))) (4660134898793709568 : UInt64)) (FP.dneg (FP.i2d p1))) (FP.dmul (FP.ddiv (FP.i2d (p3 &&& (16777215 : Int32))) (4660134898793709568 : UInt64)) (FP.dneg (FP.i2d p1))))), .second, .val (.double (FP.dmul (FP.dmul (FP.ddiv (FP.i2d (p3 &&& (16777215 : Int32))) (4660134898793709568 : UInt64)) (FP.i2d p4)) (FP.dmul (FP.ddiv (FP.i2d (p3 &&& (16777215 : Int32))) (4660134898793709568 : UInt64)) (FP.i2d p4)))), .second, .val (.int (1 : Int32)), .val (.int (1 : Int32)), .val (.long ab), .second, .val (.long ae), .second, .val (.int (1 : Int32))] [(.int (1 : Int32))]))) (fun t_ k_ => XS.iload Xi10.here hx rfl (hb hby at_196) rfl k_) ?_
    refine GoW.st (U := (Ti10.setTop (mkF m 201 #[.val (.int p0), .val (.int p1), .val (.int p2), .val (.int p3), .val (.int p4), .val (.long kk), .second, .val (.double (FP.i2d (p2 &&& (65535 : Int32)))), .second, .val (.ref bi1), .val (.double (FP.l2d (kk * (p1.toInt64)))), .second, .val (.int (1 : Int32)), .val (.ref bi4), .val (.double (FP.dmul (FP.dmul (FP.ddiv (FP.i2d (p3 &&& (16777215 : Int32))) (4660134898793709568 : UInt64)) (FP.i2d p1)) (FP.dmul (FP.ddiv (FP.i2d (p3 &&& (16777215 : Int32))) (4660134898793709568 : UInt64)) (FP.i2d p1)))), .second, .val (.double (FP.dmul (FP.dmul (FP.ddiv (FP.i2d (p3 &&& (16777215 : Int32))) (4660134898793709568 : UInt64)) (FP.dneg (FP.i2d p1))) (FP.dmul (FP.ddiv (FP.i2d (p3 &&& (16777215 : Int32))) (4660134898793709568 : UInt64)) (FP.dneg (FP.i2d p1))))), .second, .val (.double (FP.dmul (FP.dmul (FP.ddiv (FP.i2d (p3 &&& (16777215 : Int32))) (4660134898793709568 : UInt64)) (FP.i2d p4)) (FP.dmul (FP.ddiv (FP.i2d (p3 &&& (16777215 : Int32))) (4660134898793709568 : UInt64)) (FP.i2d p4)))), .second, .val (.int (1 : Int32)), .val (.int (1 : Int32)), .val (.long ab), .second, .val (.long ae), .second, .val (.int (1 : Int32))] []))) (fun t_ k_ => XS.ifNo Xi10.here hx rfl (hb hby at_198) rfl ((if0 _ _).trans (feq (by decide)).1) k_) ?_
    refine GoW.st (U := (Ti10.setTop (mkF m 203 #[.val (.int p0), .val (.int p1), .val (.int p2), .val (.int p3), .val (.int p4), .val (.long kk), .second, .val (.double (FP.i2d (p2 &&& (65535 : Int32)))), .second, .val (.ref bi1), .val (.double (FP.l2d (kk * (p1.toInt64)))), .second, .val (.int (1 : Int32)), .val (.ref bi4), .val (.double (FP.dmul (FP.dmul (FP.ddiv (FP.i2d (p3 &&& (16777215 : Int32))) (4660134898793709568 : UInt64)) (FP.i2d p1)) (FP.dmul (FP.ddiv (FP.i2d (p3 &&& (16777215 : Int32))) (4660134898793709568 : UInt64)) (FP.i2d p1)))), .second, .val (.double (FP.dmul (FP.dmul (FP.ddiv (FP.i2d (p3 &&& (16777215 : Int32))) (4660134898793709568 : UInt64)) (FP.dneg (FP.i2d p1))) (FP.dmul (FP.ddiv (FP.i2d (p3 &&& (16777215 : Int32))) (4660134898793709568 : UInt64)) (FP.dneg (FP.i2d p1))))), .second, .val (.double (FP.dmul (FP.dmul (FP.ddiv (FP.i2d (p3 &&& (16777215 : Int32))) (4660134898793709568 : UInt64)) (FP.i2d p4)) (FP.dmul (FP.ddiv (FP.i2d (p3 &&& (16777215 : Int32))) (4660134898793709568 : UInt64)) (FP.i2d p4)))), .second, .val (.int (1 : Int32)), .val (.int (1 : Int32)), .val (.long ab), .second, .val (.long ae), .second, .val (.int (1 : Int32))] [(.int (1 : Int32))]))) (fun t_ k_ => XS.iload Xi10.here hx rfl (hb hby at_201) rfl k_) ?_
    refine GoW.st (U := (Ti10.setTop (mkF m 206 #[.val (.int p0), .val (.int p1), .val (.int p2), .val (.int p3), .val (.int p4), .val (.long kk), .second, .val (.double (FP.i2d (p2 &&& (65535 : Int32)))), .second, .val (.ref bi1), .val (.double (FP.l2d (kk * (p1.toInt64)))), .second, .val (.int (1 : Int32)), .val (.ref bi4), .val (.double (FP.dmul (FP.dmul (FP.ddiv (FP.i2d (p3 &&& (16777215 : Int32))) (4660134898793709568 : UInt64)) (FP.i2d p1)) (FP.dmul (FP.ddiv (FP.i2d (p3 &&& (16777215 : Int32))) (4660134898793709568 : UInt64)) (FP.i2d p1)))), .second, .val (.double (FP.dmul (FP.dmul (FP.ddiv (FP.i2d (p3 &&& (16777215 : Int32))) (4660134898793709568 : UInt64)) (FP.dneg (FP.i2d p1))) (FP.dmul (FP.ddiv (FP.i2d (p3 &&& (16777215 : Int32))) (4660134898793709568 : UInt64)) (FP.dneg (FP.i2d p1))))), .second, .val (.double (FP.dmul (FP.dmul (FP.ddiv (FP.i2d (p3 &&& (16777215 : Int32))) (4660134898793709568 : UInt64)) (FP.i2d p4)) (FP.dmul (FP.ddiv (FP.i2d (p3 &&& (16777215 : Int32))) (4660134898793709568 : UInt64)) (FP.i2d p4)))), .second, .val (.int (1 : Int32)), .val (.int (1 : Int32)), .val (.long ab), .second, .val (.long ae), .second, .val (.int (1 : Int32))] []))) (fun t_ k_ => XS.ifNo Xi10.here hx rfl (hb hby at_203) rfl ((if0 _ _).trans (feq (by decide)).1) k_) ?_
    refine GoW.st (U := (Ti10.setTop (mkF m 208 #[.val (.int p0), .val (.int p1), .val (.int p2), .val (.int p3), .val (.int p4), .val (.long kk), .second, .val (.double (FP.i2d (p2 &&& (65535 : Int32)))), .second, .val (.ref bi1), .val (.double (FP.l2d (kk * (p1.toInt64)))), .second, .val (.int (1 : Int32)), .val (.ref bi4), .val (.double (FP.dmul (FP.dmul (FP.ddiv (FP.i2d (p3 &&& (16777215 : Int32))) (4660134898793709568 : UInt64)) (FP.i2d p1)) (FP.dmul (FP.ddiv (FP.i2d (p3 &&& (16777215 : Int32))) (4660134898793709568 : UInt64)) (FP.i2d p1)))), .second, .val (.double (FP.dmul (FP.dmul (FP.ddiv (FP.i2d (p3 &&& (16777215 : Int32))) (4660134898793709568 : UInt64)) (FP.dneg (FP.i2d p1))) (FP.dmul (FP.ddiv (FP.i2d (p3 &&& (16777215 : Int32))) (4660134898793709568 : UInt64)) (FP.dneg (FP.i2d p1))))), .second, .val (.double (FP.dmul (FP.dmul (FP.ddiv (FP.i2d (p3 &&& (16777215 : Int32))) (4660134898793709568 : UInt64)) (FP.i2d p4)) (FP.dmul (FP.ddiv (FP.i2d (p3 &&& (16777215 : Int32))) (4660134898793709568 : UInt64)) (FP.i2d p4)))), .second, .val (.int (1 : Int32)), .val (.int (1 : Int32)), .val (.long ab), .second, .val (.long ae), .second, .val (.int (1 : Int32))] [(.int (1 : Int32))]))) (fun t_ k_ => XS.iload Xi10.here hx rfl (hb hby at_206) rfl k_) ?_
    refine GoW.st (U := (Ti10.setTop (mkF m 211 #[.val (.int p0), .val (.int p1), .val (.int p2), .val (.int p3), .val (.int p4), .val (.long kk), .second, .val (.double (FP.i2d (p2 &&& (65535 : Int32)))), .second, .val (.ref bi1), .val (.double (FP.l2d (kk * (p1.toInt64)))), .second, .val (.int (1 : Int32)), .val (.ref bi4), .val (.double (FP.dmul (FP.dmul (FP.ddiv (FP.i2d (p3 &&& (16777215 : Int32))) (4660134898793709568 : UInt64)) (FP.i2d p1)) (FP.dmul (FP.ddiv (FP.i2d (p3 &&& (16777215 : Int32))) (4660134898793709568 : UInt64)) (FP.i2d p1)))), .second, .val (.double (FP.dmul (FP.dmul (FP.ddiv (FP.i2d (p3 &&& (16777215 : Int32))) (4660134898793709568 : UInt64)) (FP.dneg (FP.i2d p1))) (FP.dmul (FP.ddiv (FP.i2d (p3 &&& (16777215 : Int32))) (4660134898793709568 : UInt64)) (FP.dneg (FP.i2d p1))))), .second, .val (.double (FP.dmul (FP.dmul (FP.ddiv (FP.i2d (p3 &&& (16777215 : Int32))) (4660134898793709568 : UInt64)) (FP.i2d p4)) (FP.dmul (FP.ddiv (FP.i2d (p3 &&& (16777215 : Int32))) (4660134898793709568 : UInt64)) (FP.i2d p4)))), .second, .val (.int (1 : Int32)), .val (.int (1 : Int32)), .val (.long ab), .second, .val (.long ae), .second, .val (.int (1 : Int32))] []))) (fun t_ k_ => XS.ifNo Xi10.here hx rfl (hb hby at_208) rfl ((if0 _ _).trans (feq (by decide)).1) k_) ?_
    refine GoW.st (U := (Ti10.setTop (mkF m 212 #[.val (.int p0), .val (.int p1), .val (.int p2), .val (.int p3), .val (.int p4), .val (.long kk), .second, .val (.double (FP.i2d (p2 &&& (65535 : Int32)))), .second, .val (.ref bi1), .val (.double (FP.l2d (kk * (p1.toInt64)))), .second, .val (.int (1 : Int32)), .val (.ref bi4), .val (.double (FP.dmul (FP.dmul (FP.ddiv (FP.i2d (p3 &&& (16777215 : Int32))) (4660134898793709568 : UInt64)) (FP.i2d p1)) (FP.dmul (FP.ddiv (FP.i2d (p3 &&& (16777215 : Int32))) (4660134898793709568 : UInt64)) (FP.i2d p1)))), .second, .val (.double (FP.dmul (FP.dmul (FP.ddiv (FP.i2d (p3 &&& (16777215 : Int32))) (4660134898793709568 : UInt64)) (FP.dneg (FP.i2d p1))) (FP.dmul (FP.ddiv (FP.i2d (p3 &&& (16777215 : Int32))) (4660134898793709568 : UInt64)) (FP.dneg (FP.i2d p1))))), .second, .val (.double (FP.dmul (FP.dmul (FP.ddiv (FP.i2d (p3 &&& (16777215 : Int32))) (4660134898793709568 : UInt64)) (FP.i2d p4)) (FP.dmul (FP.ddiv (FP.i2d (p3 &&& (16777215 : Int32))) (4660134898793709568 : UInt64)) (FP.i2d p4)))), .second, .val (.int (1 : Int32)), .val (.int (1 : Int32)), .val (.long ab), .second, .val (.long ae), .second, .val (.int (1 : Int32))] [(.int (1 : Int32))]))) (fun t_ k_ => XS.iconst Xi10.here hx rfl (hb hby at_211) k_) ?_
    refine GoW.st (U := (Ti10.setTop (mkF m 216 #[.val (.int p0), .val (.int p1), .val (.int p2), .val (.int p3), .val (.int p4), .val (.long kk), .second, .val (.double (FP.i2d (p2 &&& (65535 : Int32)))), .second, .val (.ref bi1), .val (.double (FP.l2d (kk * (p1.toInt64)))), .second, .val (.int (1 : Int32)), .val (.ref bi4), .val (.double (FP.dmul (FP.dmul (FP.ddiv (FP.i2d (p3 &&& (16777215 : Int32))) (4660134898793709568 : UInt64)) (FP.i2d p1)) (FP.dmul (FP.ddiv (FP.i2d (p3 &&& (16777215 : Int32))) (4660134898793709568 : UInt64)) (FP.i2d p1)))), .second, .val (.double (FP.dmul (FP.dmul (FP.ddiv (FP.i2d (p3 &&& (16777215 : Int32))) (4660134898793709568 : UInt64)) (FP.dneg (FP.i2d p1))) (FP.dmul (FP.ddiv (FP.i2d (p3 &&& (16777215 : Int32))) (4660134898793709568 : UInt64)) (FP.dneg (FP.i2d p1))))), .second, .val (.double (FP.dmul (FP.dmul (FP.ddiv (FP.i2d (p3 &&& (16777215 : Int32))) (4660134898793709568 : UInt64)) (FP.i2d p4)) (FP.dmul (FP.ddiv (FP.i2d (p3 &&& (16777215 : Int32))) (4660134898793709568 : UInt64)) (FP.i2d p4)))), .second, .val (.int (1 : Int32)), .val (.int (1 : Int32)), .val (.long ab), .second, .val (.long ae), .second, .val (.int (1 : Int32))] [(.int (1 : Int32))]))) (fun t_ k_ => XS.goto Xi10.here hx rfl (pc0 := 212) (pc' := 216) rfl (hb hby at_212) (by decide) (by decide) k_) ?_
    refine GoW.retZ Xi10 hS (by rw [ei10]; exact hk) hx hlk hret (hb hby at_216) (by decide) (by decide) ?_
    exact ⟨rfl, Ni10⟩
  refine GoW.st (U := (Ti10.setTop (mkF m 154 #[.val (.int p0), .val (.int p1), .val (.int p2), .val (.int p3), .val (.int p4), .val (.long kk), .second, .val (.double (FP.i2d (p2 &&& (65535 : Int32)))), .second, .val (.ref bi1), .val (.double (FP.l2d (kk * (p1.toInt64)))), .second, .val (.int (1 : Int32)), .val (.ref bi4), .val (.double (FP.dmul (FP.dmul (FP.ddiv (FP.i2d (p3 &&& (16777215 : Int32))) (4660134898793709568 : UInt64)) (FP.i2d p1)) (FP.dmul (FP.ddiv (FP.i2d (p3 &&& (16777215 : Int32))) (4660134898793709568 : UInt64)) (FP.i2d p1)))), .second, .val (.double (FP.dmul (FP.dmul (FP.ddiv (FP.i2d (p3 &&& (16777215 : Int32))) (4660134898793709568 : UInt64)) (FP.dneg (FP.i2d p1))) (FP.dmul (FP.ddiv (FP.i2d (p3 &&& (16777215 : Int32))) (4660134898793709568 : UInt64)) (FP.dneg (FP.i2d p1))))), .second, .val (.double (FP.dmul (FP.dmul (FP.ddiv (FP.i2d (p3 &&& (16777215 : Int32))) (4660134898793709568 : UInt64)) (FP.i2d p4)) (FP.dmul (FP.ddiv (FP.i2d (p3 &&& (16777215 : Int32))) (4660134898793709568 : UInt64)) (FP.i2d p4)))), .second, .val (.int (1 : Int32)), .val (.int (1 : Int32)), .val (.long ab), .second, .val (.long ae), .second, .unset] [(.long ab)]))) (fun t_ k_ => XS.lload Xi10.here hx rfl (hb hby at_152) rfl k_) ?_
  refine GoW.st (U := (Ti10.setTop (mkF m 156 #[.val (.int p0), .val (.int p1), .val (.int p2), .val (.int p3), .val (.int p4), .val (.long kk), .second, .val (.double (FP.i2d (p2 &&& (65535 : Int32)))), .second, .val (.ref bi1), .val (.double (FP.l2d (kk * (p1.toInt64)))), .second, .val (.int (1 : Int32)), .val (.ref bi4), .val (.double (FP.dmul (FP.dmul (FP.ddiv (FP.i2d (p3 &&& (16777215 : Int32))) (4660134898793709568 : UInt64)) (FP.i2d p1)) (FP.dmul (FP.ddiv (FP.i2d (p3 &&& (16777215 : Int32))) (4660134898793709568 : UInt64)) (FP.i2d p1)))), .second, .val (.double (FP.dmul (FP.dmul (FP.ddiv (FP.i2d (p3 &&& (16777215 : Int32))) (4660134898793709568 : UInt64)) (FP.dneg (FP.i2d p1))) (FP.dmul (FP.ddiv (FP.i2d (p3 &&& (16777215 : Int32))) (4660134898793709568 : UInt64)) (FP.dneg (FP.i2d p1))))), .second, .val (.double (FP.dmul (FP.dmul (FP.ddiv (FP.i2d (p3 &&& (16777215 : Int32))) (4660134898793709568 : UInt64)) (FP.i2d p4)) (FP.dmul (FP.ddiv (FP.i2d (p3 &&& (16777215 : Int32))) (4660134898793709568 : UInt64)) (FP.i2d p4)))), .second, .val (.int (1 : Int32)), .val (.int (1 : Int32)), .val (.long ab), .second, .val (.long ae), .second, .unset] [(.long ae), (.long ab)]))) (fun t_ k_ => XS.lload Xi10.here hx rfl (hb hby at_154) rfl k_) ?_
  refine GoW.st (U := (Ti10.setTop (mkF m 157 #[.val (.int p0), .val (.int p1), .val (.int p2), .val (.int p3), .val (.int p4), .val (.long kk), .second, .val (.double (FP.i2d (p2 &&& (65535 : Int32)))), .second, .val (.ref bi1), .val (.double (FP.l2d (kk * (p1.toInt64)))), .second, .val (.int (1 : Int32)), .val (.ref bi4), .val (.double (FP.dmul (FP.dmul (FP.ddiv (FP.i2d (p3 &&& (16777215 : Int32))) (4660134898793709568 : UInt64)) (FP.i2d p1)) (FP.dmul (FP.ddiv (FP.i2d (p3 &&& (16777215 : Int32))) (4660134898793709568 : UInt64)) (FP.i2d p1)))), .second, .val (.double (FP.dmul (FP.dmul (FP.ddiv (FP.i2d (p3 &&& (16777215 : Int32))) (4660134898793709568 : UInt64)) (FP.dneg (FP.i2d p1))) (FP.dmul (FP.ddiv (FP.i2d (p3 &&& (16777215 : Int32))) (4660134898793709568 : UInt64)) (FP.dneg (FP.i2d p1))))), .second, .val (.double (FP.dmul (FP.dmul (FP.ddiv (FP.i2d (p3 &&& (16777215 : Int32))) (4660134898793709568 : UInt64)) (FP.i2d p4)) (FP.dmul (FP.ddiv (FP.i2d (p3 &&& (16777215 : Int32))) (4660134898793709568 : UInt64)) (FP.i2d p4)))), .second, .val (.int (1 : Int32)), .val (.int (1 : Int32)), .val (.long ab), .second, .val (.long ae), .second, .unset] [(.int (lcmpW ab ae))]))) (fun t_ k_ => XS.lcmp Xi10.here hx rfl (hb hby at_156) rfl k_) ?_
  by_cases h157 : (0 : Int32) < (lcmpW ab ae)
  · refine GoW.st (U := (Ti10.setTop (mkF m 176 #[.val (.int p0), .val (.int p1), .val (.int p2), .val (.int p3), .val (.int p4), .val (.long kk), .second, .val (.double (FP.i2d (p2 &&& (65535 : Int32)))), .second, .val (.ref bi1), .val (.double (FP.l2d (kk * (p1.toInt64)))), .second, .val (.int (1 : Int32)), .val (.ref bi4), .val (.double (FP.dmul (FP.dmul (FP.ddiv (FP.i2d (p3 &&& (16777215 : Int32))) (4660134898793709568 : UInt64)) (FP.i2d p1)) (FP.dmul (FP.ddiv (FP.i2d (p3 &&& (16777215 : Int32))) (4660134898793709568 : UInt64)) (FP.i2d p1)))), .second, .val (.double (FP.dmul (FP.dmul (FP.ddiv (FP.i2d (p3 &&& (16777215 : Int32))) (4660134898793709568 : UInt64)) (FP.dneg (FP.i2d p1))) (FP.dmul (FP.ddiv (FP.i2d (p3 &&& (16777215 : Int32))) (4660134898793709568 : UInt64)) (FP.dneg (FP.i2d p1))))), .second, .val (.double (FP.dmul (FP.dmul (FP.ddiv (FP.i2d (p3 &&& (16777215 : Int32))) (4660134898793709568 : UInt64)) (FP.i2d p4)) (FP.dmul (FP.ddiv (FP.i2d (p3 &&& (16777215 : Int32))) (4660134898793709568 : UInt64)) (FP.i2d p4)))), .second, .val (.int (1 : Int32)), .val (.int (1 : Int32)), .val (.long ab), .second, .val (.long ae), .second, .unset] []))) (fun t_ k_ => XS.ifYes Xi10.here hx rfl (pc0 := 157) (pc' := 176) rfl (hb hby at_157) rfl ((if0 _ _).trans (tlt h157).2.2.1) (by decide) (by decide) k_) ?_
    refine GoW.st (U := (Ti10.setTop (mkF m 178 #[.val (.int p0), .val (.int p1), .val (.int p2), .val (.int p3), .val (.int p4), .val (.long kk), .second, .val (.double (FP.i2d (p2 &&& (65535 : Int32)))), .second, .val (.ref bi1), .val (.double (FP.l2d (kk * (p1.toInt64)))), .second, .val (.int (1 : Int32)), .val (.ref bi4), .val (.double (FP.dmul (FP.dmul (FP.ddiv (FP.i2d (p3 &&& (16777215 : Int32))) (4660134898793709568 : UInt64)) (FP.i2d p1)) (FP.dmul (FP.ddiv (FP.i2d (p3 &&& (16777215 : Int32))) (4660134898793709568 : UInt64)) (FP.i2d p1)))), .second, .val (.double (FP.dmul (FP.dmul (FP.ddiv (FP.i2d (p3 &&& (16777215 : Int32))) (4660134898793709568 : UInt64)) (FP.dneg (FP.i2d p1))) (FP.dmul (FP.ddiv (FP.i2d (p3 &&& (16777215 : Int32))) (4660134898793709568 : UInt64)) (FP.dneg (FP.i2d p1))))), .second, .val (.double (FP.dmul (FP.dmul (FP.ddiv (FP.i2d (p3 &&& (16777215 : Int32))) (4660134898793709568 : UInt64)) (FP.i2d p4)) (FP.dmul (FP.ddiv (FP.i2d (p3 &&& (16777215 : Int32))) (4660134898793709568 : UInt64)) (FP.i2d p4)))), .second, .val (.int (1 : Int32)), .val (.int (1 : Int32)), .val (.long ab), .second, .val (.long ae), .second, .unset] [(.double (FP.dmul (FP.dmul (FP.ddiv (FP.i2d (p3 &&& (16777215 : Int32))) (4660134898793709568 : UInt64)) (FP.i2d p4)) (FP.dmul (FP.ddiv (FP.i2d (p3 &&& (16777215 : Int32))) (4660134898793709568 : UInt64)) (FP.i2d p4))))]))) (fun t_ k_ => XS.dload Xi10.here hx rfl (hb hby at_176) rfl k_) ?_
    refine GoW.st (U := (Ti10.setTop (mkF m 180 #[.val (.int p0), .val (.int p1), .val (.int p2), .val (.int p3), .val (.int p4), .val (.long kk), .second, .val (.double (FP.i2d (p2 &&& (65535 : Int32)))), .second, .val (.ref bi1), .val (.double (FP.l2d (kk * (p1.toInt64)))), .second, .val (.int (1 : Int32)), .val (.ref bi4), .val (.double (FP.dmul (FP.dmul (FP.ddiv (FP.i2d (p3 &&& (16777215 : Int32))) (4660134898793709568 : UInt64)) (FP.i2d p1)) (FP.dmul (FP.ddiv (FP.i2d (p3 &&& (16777215 : Int32))) (4660134898793709568 : UInt64)) (FP.i2d p1)))), .second, .val (.double (FP.dmul (FP.dmul (FP.ddiv (FP.i2d (p3 &&& (16777215 : Int32))) (4660134898793709568 : UInt64)) (FP.dneg (FP.i2d p1))) (FP.dmul (FP.ddiv (FP.i2d (p3 &&& (16777215 : Int32))) (4660134898793709568 : UInt64)) (FP.dneg (FP.i2d p1))))), .second, .val (.double (FP.dmul (FP.dmul (FP.ddiv (FP.i2d (p3 &&& (16777215 : Int32))) (4660134898793709568 : UInt64)) (FP.i2d p4)) (FP.dmul (FP.ddiv (FP.i2d (p3 &&& (16777215 : Int32))) (4660134898793709568 : UInt64)) (FP.i2d p4)))), .second, .val (.int (1 : Int32)), .val (.int (1 : Int32)), .val (.long ab), .second, .val (.long ae), .second, .unset] [(.double (FP.dmul (FP.dmul (FP.ddiv (FP.i2d (p3 &&& (16777215 : Int32))) (4660134898793709568 : UInt64)) (FP.i2d p1)) (FP.dmul (FP.ddiv (FP.i2d (p3 &&& (16777215 : Int32))) (4660134898793709568 : UInt64)) (FP.i2d p1)))), (.double (FP.dmul (FP.dmul (FP.ddiv (FP.i2d (p3 &&& (16777215 : Int32))) (4660134898793709568 : UInt64)) (FP.i2d p4)) (FP.dmul (FP.ddiv (FP.i2d (p3 &&& (16777215 : Int32))) (4660134898793709568 : UInt64)) (FP.i2d p4))))]))) (fun t_ k_ => XS.dload Xi10.here hx rfl (hb hby at_178) rfl k_) ?_
    refine GoW.st (U := (Ti10.setTop (mkF m 181 #[.val (.int p0), .val (.int p1), .val (.int p2), .val (.int p3), .val (.int p4), .val (.long kk), .second, .val (.double (FP.i2d (p2 &&& (65535 : Int32)))), .second, .val (.ref bi1), .val (.double (FP.l2d (kk * (p1.toInt64)))), .second, .val (.int (1 : Int32)), .val (.ref bi4), .val (.double (FP.dmul (FP.dmul (FP.ddiv (FP.i2d (p3 &&& (16777215 : Int32))) (4660134898793709568 : UInt64)) (FP.i2d p1)) (FP.dmul (FP.ddiv (FP.i2d (p3 &&& (16777215 : Int32))) (4660134898793709568 : UInt64)) (FP.i2d p1)))), .second, .val (.double (FP.dmul (FP.dmul (FP.ddiv (FP.i2d (p3 &&& (16777215 : Int32))) (4660134898793709568 : UInt64)) (FP.dneg (FP.i2d p1))) (FP.dmul (FP.ddiv (FP.i2d (p3 &&& (16777215 : Int32))) (4660134898793709568 : UInt64)) (FP.dneg (FP.i2d p1))))), .second, .val (.double (FP.dmul (FP.dmul (FP.ddiv (FP.i2d (p3 &&& (16777215 : Int32))) (4660134898793709568 : UInt64)) (FP.i2d p4)) (FP.dmul (FP.ddiv (FP.i2d (p3 &&& (16777215 : Int32))) (4660134898793709568 : UInt64)) (FP.i2d p4)))), .second, .val (.int (1 : Int32)), .val (.int (1 : Int32)), .val (.long ab), .second, .val (.long ae), .second, .unset] [(.int (cmpValue (FP.dcmp (FP.dmul (FP.dmul (FP.ddiv (FP.i2d (p3 &&& (16777215 : Int32))) (4660134898793709568 : UInt64)) (FP.i2d p4)) (FP.dmul (FP.ddiv (FP.i2d (p3 &&& (16777215 : Int32))) (4660134898793709568 : UInt64)) (FP.i2d p4))) (FP.dmul (FP.dmul (FP.ddiv (FP.i2d (p3 &&& (16777215 : Int32))) (4660134898793709568 : UInt64)) (FP.i2d p1)) (FP.dmul (FP.ddiv (FP.i2d (p3 &&& (16777215 : Int32))) (4660134898793709568 : UInt64)) (FP.i2d p1)))) .g))]))) (fun t_ k_ => XS.dcmpS Xi10.here hx rfl (hb hby at_180) rfl rfl k_) ?_
    refine GoW.st (U := (Ti10.setTop (mkF m 184 #[.val (.int p0), .val (.int p1), .val (.int p2), .val (.int p3), .val (.int p4), .val (.long kk), .second, .val (.double (FP.i2d (p2 &&& (65535 : Int32)))), .second, .val (.ref bi1), .val (.double (FP.l2d (kk * (p1.toInt64)))), .second, .val (.int (1 : Int32)), .val (.ref bi4), .val (.double (FP.dmul (FP.dmul (FP.ddiv (FP.i2d (p3 &&& (16777215 : Int32))) (4660134898793709568 : UInt64)) (FP.i2d p1)) (FP.dmul (FP.ddiv (FP.i2d (p3 &&& (16777215 : Int32))) (4660134898793709568 : UInt64)) (FP.i2d p1)))), .second, .val (.double (FP.dmul (FP.dmul (FP.ddiv (FP.i2d (p3 &&& (16777215 : Int32))) (4660134898793709568 : UInt64)) (FP.dneg (FP.i2d p1))) (FP.dmul (FP.ddiv (FP.i2d (p3 &&& (16777215 : Int32))) (4660134898793709568 : UInt64)) (FP.dneg (FP.i2d p1))))), .second, .val (.double (FP.dmul (FP.dmul (FP.ddiv (FP.i2d (p3 &&& (16777215 : Int32))) (4660134898793709568 : UInt64)) (FP.i2d p4)) (FP.dmul (FP.ddiv (FP.i2d (p3 &&& (16777215 : Int32))) (4660134898793709568 : UInt64)) (FP.i2d p4)))), .second, .val (.int (1 : Int32)), .val (.int (1 : Int32)), .val (.long ab), .second, .val (.long ae), .second, .unset] []))) (fun t_ k_ => XS.ifNo Xi10.here hx rfl (hb hby at_181) rfl ((if0 _ _).trans (flt (own_mono R2 R3 I2 J2 I1 J1 (B_o.1 h157))).2.2.1) k_) ?_
    refine GoW.st (U := (Ti10.setTop (mkF m 185 #[.val (.int p0), .val (.int p1), .val (.int p2), .val (.int p3), .val (.int p4), .val (.long kk), .second, .val (.double (FP.i2d (p2 &&& (65535 : Int32)))), .second, .val (.ref bi1), .val (.double (FP.l2d (kk * (p1.toInt64)))), .second, .val (.int (1 : Int32)), .val (.ref bi4), .val (.double (FP.dmul (FP.dmul (FP.ddiv (FP.i2d (p3 &&& (16777215 : Int32))) (4660134898793709568 : UInt64)) (FP.i2d p1)) (FP.dmul (FP.ddiv (FP.i2d (p3 &&& (16777215 : Int32))) (4660134898793709568 : UInt64)) (FP.i2d p1)))), .second, .val (.double (FP.dmul (FP.dmul (FP.ddiv (FP.i2d (p3 &&& (16777215 : Int32))) (4660134898793709568 : UInt64)) (FP.dneg (FP.i2d p1))) (FP.dmul (FP.ddiv (FP.i2d (p3 &&& (16777215 : Int32))) (4660134898793709568 : UInt64)) (FP.dneg (FP.i2d p1))))), .second, .val (.double (FP.dmul (FP.dmul (FP.ddiv (FP.i2d (p3 &&& (16777215 : Int32))) (4660134898793709568 : UInt64)) (FP.i2d p4)) (FP.dmul (FP.ddiv (FP.i2d (p3 &&& (16777215 : Int32))) (4660134898793709568 : UInt64)) (FP.i2d p4)))), .second, .val (.int (1 : Int32)), .val (.int (1 : Int32)), .val (.long ab), .second, .val (.long ae), .second, .unset] [(.int (1 : Int32))]))) (fun t_ k_ => XS.iconst Xi10.here hx rfl (hb hby at_184) k_) ?_
    refine GoW.st (U := (Ti10.setTop (mkF m 189 #[.val (.int p0), .val (.int p1), .val (.int p2), .val (.int p3), .val (.int p4), .val (.long kk), .second, .val (.double (FP.i2d (p2 &&& (65535 : Int32)))), .second, .val (.ref bi1), .val (.double (FP.l2d (kk * (p1.toInt64)))), .second, .val (.int (1 : Int32)), .val (.ref bi4), .val (.double (FP.dmul (FP.dmul (FP.ddiv (FP.i2d (p3 &&& (16777215 : Int32))) (4660134898793709568 : UInt64)) (FP.i2d p1)) (FP.dmul (FP.ddiv (FP.i2d (p3 &&& (16777215 : Int32))) (4660134898793709568 : UInt64)) (FP.i2d p1)))), .second, .val (.double (FP.dmul (FP.dmul (FP.ddiv (FP.i2d (p3 &&& (16777215 : Int32))) (4660134898793709568 : UInt64)) (FP.dneg (FP.i2d p1))) (FP.dmul (FP.ddiv (FP.i2d (p3 &&& (16777215 : Int32))) (4660134898793709568 : UInt64)) (FP.dneg (FP.i2d p1))))), .second, .val (.double (FP.dmul (FP.dmul (FP.ddiv (FP.i2d (p3 &&& (16777215 : Int32))) (4660134898793709568 : UInt64)) (FP.i2d p4)) (FP.dmul (FP.ddiv (FP.i2d (p3 &&& (16777215 : Int32))) (4660134898793709568 : UInt64)) (FP.i2d p4)))), .second, .val (.int (1 : Int32)), .val (.int (1 : Int32)), .val (.long ab), .second, .val (.long ae), .second, .unset] [(.int (1 : Int32))]))) (fun t_ k_ => XS.goto Xi10.here hx rfl (pc0 := 185) (pc' := 189) rfl (hb hby at_185) (by decide) (by decide) k_) ?_
    exact J189  
  · refine GoW.st (U := (Ti10.setTop (mkF m 160 #[.val (.int p0), .val (.int p1), .val (.int p2), .val (.int p3), .val (.int p4), .val (.long kk), .second, .val (.double (FP.i2d (p2 &&& (65535 : Int32)))), .second, .val (.ref bi1), .val (.double (FP.l2d (kk * (p1.toInt64)))), .second, .val (.int (1 : Int32)), .val (.ref bi4), .val (.double (FP.dmul (FP.dmul (FP.ddiv (FP.i2d (p3 &&& (16777215 : Int32))) (4660134898793709568 : UInt64)) (FP.i2d p1)) (FP.dmul (FP.ddiv (FP.i2d (p3 &&& (16777215 : Int32))) (4660134898793709568 : UInt64)) (FP.i2d p1)))), .second, .val (.double (FP.dmul (FP.dmul (FP.ddiv (FP.i2d (p3 &&& (16777215 : Int32))) (4660134898793709568 : UInt64)) (FP.dneg (FP.i2d p1))) (FP.dmul (FP.ddiv (FP.i2d (p3 &&& (16777215 : Int32))) (4660134898793709568 : UInt64)) (FP.dneg (FP.i2d p1))))), .second, .val (.double (FP.dmul (FP.dmul (FP.ddiv (FP.i2d (p3 &&& (16777215 : Int32))) (4660134898793709568 : UInt64)) (FP.i2d p4)) (FP.dmul (FP.ddiv (FP.i2d (p3 &&& (16777215 : Int32))) (4660134898793709568 : UInt64)) (FP.i2d p4)))), .second, .val (.int (1 : Int32)), .val (.int (1 : Int32)), .val (.long ab), .second, .val (.long ae), .second, .unset] []))) (fun t_ k_ => XS.ifNo Xi10.here hx rfl (hb hby at_157) rfl ((if0 _ _).trans (flt h157).2.2.1) k_) ?_
    refine GoW.st (U := (Ti10.setTop (mkF m 162 #[.val (.int p0), .val (.int p1), .val (.int p2), .val (.int p3), .val (.int p4), .val (.long kk), .second, .val (.double (FP.i2d (p2 &&& (65535 : Int32)))), .second, .val (.ref bi1), .val (.double (FP.l2d (kk * (p1.toInt64)))), .second, .val (.int (1 : Int32)), .val (.ref bi4), .val (.double (FP.dmul (FP.dmul (FP.ddiv (FP.i2d (p3 &&& (16777215 : Int32))) (4660134898793709568 : UInt64)) (FP.i2d p1)) (FP.dmul (FP.ddiv (FP.i2d (p3 &&& (16777215 : Int32))) (4660134898793709568 : UInt64)) (FP.i2d p1)))), .second, .val (.double (FP.dmul (FP.dmul (FP.ddiv (FP.i2d (p3 &&& (16777215 : Int32))) (4660134898793709568 : UInt64)) (FP.dneg (FP.i2d p1))) (FP.dmul (FP.ddiv (FP.i2d (p3 &&& (16777215 : Int32))) (4660134898793709568 : UInt64)) (FP.dneg (FP.i2d p1))))), .second, .val (.double (FP.dmul (FP.dmul (FP.ddiv (FP.i2d (p3 &&& (16777215 : Int32))) (4660134898793709568 : UInt64)) (FP.i2d p4)) (FP.dmul (FP.ddiv (FP.i2d (p3 &&& (16777215 : Int32))) (4660134898793709568 : UInt64)) (FP.i2d p4)))), .second, .val (.int (1 : Int32)), .val (.int (1 : Int32)), .val (.long ab), .second, .val (.long ae), .second, .unset] [(.double (FP.dmul (FP.dmul (FP.ddiv (FP.i2d (p3 &&& (16777215 : Int32))) (4660134898793709568 : UInt64)) (FP.i2d p1)) (FP.dmul (FP.ddiv (FP.i2d (p3 &&& (16777215 : Int32))) (4660134898793709568 : UInt64)) (FP.i2d p1))))]))) (fun t_ k_ => XS.dload Xi10.here hx rfl (hb hby at_160) rfl k_) ?_
    refine GoW.st (U := (Ti10.setTop (mkF m 164 #[.val (.int p0), .val (.int p1), .val (.int p2), .val (.int p3), .val (.int p4), .val (.long kk), .second, .val (.double (FP.i2d (p2 &&& (65535 : Int32)))), .second, .val (.ref bi1), .val (.double (FP.l2d (kk * (p1.toInt64)))), .second, .val (.int (1 : Int32)), .val (.ref bi4), .val (.double (FP.dmul (FP.dmul (FP.ddiv (FP.i2d (p3 &&& (16777215 : Int32))) (4660134898793709568 : UInt64)) (FP.i2d p1)) (FP.dmul (FP.ddiv (FP.i2d (p3 &&& (16777215 : Int32))) (4660134898793709568 : UInt64)) (FP.i2d p1)))), .second, .val (.double (FP.dmul (FP.dmul (FP.ddiv (FP.i2d (p3 &&& (16777215 : Int32))) (4660134898793709568 : UInt64)) (FP.dneg (FP.i2d p1))) (FP.dmul (FP.ddiv (FP.i2d (p3 &&& (16777215 : Int32))) (4660134898793709568 : UInt64)) (FP.dneg (FP.i2d p1))))), .second, .val (.double (FP.dmul (FP.dmul (FP.ddiv (FP.i2d (p3 &&& (16777215 : Int32))) (4660134898793709568 : UInt64)) (FP.i2d p4)) (FP.dmul (FP.ddiv (FP.i2d (p3 &&& (16777215 : Int32))) (4660134898793709568 : UInt64)) (FP.i2d p4)))), .second, .val (.int (1 : Int32)), .val (.int (1 : Int32)), .val (.long ab), .second, .val (.long ae), .second, .unset] [(.double (FP.dmul (FP.dmul (FP.ddiv (FP.i2d (p3 &&& (16777215 : Int32))) (4660134898793709568 : UInt64)) (FP.i2d p4)) (FP.dmul (FP.ddiv (FP.i2d (p3 &&& (16777215 : Int32))) (4660134898793709568 : UInt64)) (FP.i2d p4)))), (.double (FP.dmul (FP.dmul (FP.ddiv (FP.i2d (p3 &&& (16777215 : Int32))) (4660134898793709568 : UInt64)) (FP.i2d p1)) (FP.dmul (FP.ddiv (FP.i2d (p3 &&& (16777215 : Int32))) (4660134898793709568 : UInt64)) (FP.i2d p1))))]))) (fun t_ k_ => XS.dload Xi10.here hx rfl (hb hby at_162) rfl k_) ?_
    refine GoW.st (U := (Ti10.setTop (mkF m 165 #[.val (.int p0), .val (.int p1), .val (.int p2), .val (.int p3), .val (.int p4), .val (.long kk), .second, .val (.double (FP.i2d (p2 &&& (65535 : Int32)))), .second, .val (.ref bi1), .val (.double (FP.l2d (kk * (p1.toInt64)))), .second, .val (.int (1 : Int32)), .val (.ref bi4), .val (.double (FP.dmul (FP.dmul (FP.ddiv (FP.i2d (p3 &&& (16777215 : Int32))) (4660134898793709568 : UInt64)) (FP.i2d p1)) (FP.dmul (FP.ddiv (FP.i2d (p3 &&& (16777215 : Int32))) (4660134898793709568 : UInt64)) (FP.i2d p1)))), .second, .val (.double (FP.dmul (FP.dmul (FP.ddiv (FP.i2d (p3 &&& (16777215 : Int32))) (4660134898793709568 : UInt64)) (FP.dneg (FP.i2d p1))) (FP.dmul (FP.ddiv (FP.i2d (p3 &&& (16777215 : Int32))) (4660134898793709568 : UInt64)) (FP.dneg (FP.i2d p1))))), .second, .val (.double (FP.dmul (FP.dmul (FP.ddiv (FP.i2d (p3 &&& (16777215 : Int32))) (4660134898793709568 : UInt64)) (FP.i2d p4)) (FP.dmul (FP.ddiv (FP.i2d (p3 &&& (16777215 : Int32))) (4660134898793709568 : UInt64)) (FP.i2d p4)))), .second, .val (.int (1 : Int32)), .val (.int (1 : Int32)), .val (.long ab), .second, .val (.long ae), .second, .unset] [(.int (cmpValue (FP.dcmp (FP.dmul (FP.dmul (FP.ddiv (FP.i2d (p3 &&& (16777215 : Int32))) (4660134898793709568 : UInt64)) (FP.i2d p1)) (FP.dmul (FP.ddiv (FP.i2d (p3 &&& (16777215 : Int32))) (4660134898793709568 : UInt64)) (FP.i2d p1))) (FP.dmul (FP.dmul (FP.ddiv (FP.i2d (p3 &&& (16777215 : Int32))) (4660134898793709568 : UInt64)) (FP.i2d p4)) (FP.dmul (FP.ddiv (FP.i2d (p3 &&& (16777215 : Int32))) (4660134898793709568 : UInt64)) (FP.i2d p4)))) .g))]))) (fun t_ k_ => XS.dcmpS Xi10.here hx rfl (hb hby at_164) rfl rfl k_) ?_
    refine GoW.st (U := (Ti10.setTop (mkF m 168 #[.val (.int p0), .val (.int p1), .val (.int p2), .val (.int p3), .val (.int p4), .val (.long kk), .second, .val (.double (FP.i2d (p2 &&& (65535 : Int32)))), .second, .val (.ref bi1), .val (.double (FP.l2d (kk * (p1.toInt64)))), .second, .val (.int (1 : Int32)), .val (.ref bi4), .val (.double (FP.dmul (FP.dmul (FP.ddiv (FP.i2d (p3 &&& (16777215 : Int32))) (4660134898793709568 : UInt64)) (FP.i2d p1)) (FP.dmul (FP.ddiv (FP.i2d (p3 &&& (16777215 : Int32))) (4660134898793709568 : UInt64)) (FP.i2d p1)))), .second, .val (.double (FP.dmul (FP.dmul (FP.ddiv (FP.i2d (p3 &&& (16777215 : Int32))) (4660134898793709568 : UInt64)) (FP.dneg (FP.i2d p1))) (FP.dmul (FP.ddiv (FP.i2d (p3 &&& (16777215 : Int32))) (4660134898793709568 : UInt64)) (FP.dneg (FP.i2d p1))))), .second, .val (.double (FP.dmul (FP.dmul (FP.ddiv (FP.i2d (p3 &&& (16777215 : Int32))) (4660134898793709568 : UInt64)) (FP.i2d p4)) (FP.dmul (FP.ddiv (FP.i2d (p3 &&& (16777215 : Int32))) (4660134898793709568 : UInt64)) (FP.i2d p4)))), .second, .val (.int (1 : Int32)), .val (.int (1 : Int32)), .val (.long ab), .second, .val (.long ae), .second, .unset] []))) (fun t_ k_ => XS.ifNo Xi10.here hx rfl (hb hby at_165) rfl ((if0 _ _).trans (flt (own_mono R2 R3 I1 J1 I2 J2 (B_o.2 h157))).2.2.1) k_) ?_
    refine GoW.st (U := (Ti10.setTop (mkF m 169 #[.val (.int p0), .val (.int p1), .val (.int p2), .val (.int p3), .val (.int p4), .val (.long kk), .second, .val (.double (FP.i2d (p2 &&& (65535 : Int32)))), .second, .val (.ref bi1), .val (.double (FP.l2d (kk * (p1.toInt64)))), .second, .val (.int (1 : Int32)), .val (.ref bi4), .val (.double (FP.dmul (FP.dmul (FP.ddiv (FP.i2d (p3 &&& (16777215 : Int32))) (4660134898793709568 : UInt64)) (FP.i2d p1)) (FP.dmul (FP.ddiv (FP.i2d (p3 &&& (16777215 : Int32))) (4660134898793709568 : UInt64)) (FP.i2d p1)))), .second, .val (.double (FP.dmul (FP.dmul (FP.ddiv (FP.i2d (p3 &&& (16777215 : Int32))) (4660134898793709568 : UInt64)) (FP.dneg (FP.i2d p1))) (FP.dmul (FP.ddiv (FP.i2d (p3 &&& (16777215 : Int32))) (4660134898793709568 : UInt64)) (FP.dneg (FP.i2d p1))))), .second, .val (.double (FP.dmul (FP.dmul (FP.ddiv (FP.i2d (p3 &&& (16777215 : Int32))) (4660134898793709568 : UInt64)) (FP.i2d p4)) (FP.dmul (FP.ddiv (FP.i2d (p3 &&& (16777215 : Int32))) (4660134898793709568 : UInt64)) (FP.i2d p4)))), .second, .val (.int (1 : Int32)), .val (.int (1 : Int32)), .val (.long ab), .second, .val (.long ae), .second, .unset] [(.int (1 : Int32))]))) (fun t_ k_ => XS.iconst Xi10.here hx rfl (hb hby at_168) k_) ?_
    refine GoW.st (U := (Ti10.setTop (mkF m 189 #[.val (.int p0), .val (.int p1), .val (.int p2), .val (.int p3), .val (.int p4), .val (.long kk), .second, .val (.double (FP.i2d (p2 &&& (65535 : Int32)))), .second, .val (.ref bi1), .val (.double (FP.l2d (kk * (p1.toInt64)))), .second, .val (.int (1 : Int32)), .val (.ref bi4), .val (.double (FP.dmul (FP.dmul (FP.ddiv (FP.i2d (p3 &&& (16777215 : Int32))) (4660134898793709568 : UInt64)) (FP.i2d p1)) (FP.dmul (FP.ddiv (FP.i2d (p3 &&& (16777215 : Int32))) (4660134898793709568 : UInt64)) (FP.i2d p1)))), .second, .val (.double (FP.dmul (FP.dmul (FP.ddiv (FP.i2d (p3 &&& (16777215 : Int32))) (4660134898793709568 : UInt64)) (FP.dneg (FP.i2d p1))) (FP.dmul (FP.ddiv (FP.i2d (p3 &&& (16777215 : Int32))) (4660134898793709568 : UInt64)) (FP.dneg (FP.i2d p1))))), .second, .val (.double (FP.dmul (FP.dmul (FP.ddiv (FP.i2d (p3 &&& (16777215 : Int32))) (4660134898793709568 : UInt64)) (FP.i2d p4)) (FP.dmul (FP.ddiv (FP.i2d (p3 &&& (16777215 : Int32))) (4660134898793709568 : UInt64)) (FP.i2d p4)))), .second, .val (.int (1 : Int32)), .val (.int (1 : Int32)), .val (.long ab), .second, .val (.long ae), .second, .unset] [(.int (1 : Int32))]))) (fun t_ k_ => XS.goto Xi10.here hx rfl (pc0 := 169) (pc' := 189) rfl (hb hby at_169) (by decide) (by decide) k_) ?_
    exact J189  
set_option maxRecDepth 65536 in
set_option maxHeartbeats 40000000 in
theorem comes_1 {Post : Tables → Env → Array Value → State → Outcome → State → Prop} (hpost : ∀ tb e args s v u, (limb_1_1.after args s (.returned v) u = true ∧ limb_1_2.after args s (.returned v) u = true ∧ True) → ReturnedEndW s (.returned v) u (Jvm.fieldLocs frame_1_writes args s ++ Jvm.arrayLocs frame_1_arrays args s ++ Jvm.staticLocs frame_1_statics s) 16 2176 → Post tb e args s (.returned v) u) :
    ArmFor flags0 classFile x code maxLocals ret World_1 tables_1 room_1 Calls_1 rest_1 Pre_1 Post := by
  intro l hfl _ _ p e ha hc hk s m args below hf hA hF happ hP
  obtain ⟨hcalls, hrest, hpre⟩ := hP
  obtain ⟨-, -, -, hnamed, -, -, -, hat⟩ := (Spec.applies_iff hf).mp happ
  obtain ⟨hg, hn⟩ := and_e (Cond.before_iff.mp (show (Jvm.Cond.and given_1 narrow_1).before args s = true from hpre))
  obtain ⟨hcnt, k0⟩ := and_e hg
  obtain ⟨j0, k1⟩ := and_e k0
  obtain ⟨j1, k2⟩ := and_e k1
  obtain ⟨j2, k3⟩ := and_e k2
  obtain ⟨j3, k4⟩ := and_e k3
  have j4 := k4
  obtain ⟨w0, w1, w2, w3, w4, rfl⟩ : ∃ w0 w1 w2 w3 w4 : Value, args = #[w0, w1, w2, w3, w4] := by
    have hs : args.size = 5 := by simpa [Cond.value, given_1] using hcnt
    obtain ⟨L⟩ := args
    match L, hs with
    | [w0, w1, w2, w3, w4], _ => exact ⟨w0, w1, w2, w3, w4, rfl⟩
  have hw := fun d (hd : d ∈ tables_1) => atoms_spec (ws := Jvm.Cond.code x code maxLocals ret :: tables_1) hat d (List.mem_cons_of_mem _ hd)
  have hfit : Fit s := fun {y c} hc i hi => by
    obtain ⟨ha, rfl⟩ := Array.getElem?_eq_some_iff.mp hc
    have q := List.all_eq_true.mp ((Array.all_eq_true_iff_forall_mem.mp hF) _ (Array.getElem_mem ha)) i (List.mem_range.mpr hi)
    simpa [Array.getElem?_eq_getElem hi] using q
  obtain ⟨i0, e0⟩ := is_v j0
  obtain rfl : w0 = (.int i0) := Option.some.inj e0
  obtain ⟨i1, e1⟩ := is_v j1
  obtain rfl : w1 = (.int i1) := Option.some.inj e1
  obtain ⟨i2, e2⟩ := is_v j2
  obtain rfl : w2 = (.int i2) := Option.some.inj e2
  obtain ⟨i3, e3⟩ := is_v j3
  obtain rfl : w3 = (.int i3) := Option.some.inj e3
  obtain ⟨i4, e4⟩ := is_v j4
  obtain rfl : w4 = (.int i4) := Option.some.inj e4
  obtain ⟨n, o, h1, h2, h3, _, L, rfl, ⟨rfl, N⟩, hq⟩ := rm_law l s _ hw tables_1 i0 i1 i2 i3 i4  s.heap s.heap.size (Nat.le_refl _)  p e ha hc hk s m _ below hf ((Spec.applies_iff_loose hf).mp happ).1 ⟨rfl, State.Warmed39.refl s, rfl⟩ trivial
  refine ⟨n, _, h1, h2, h3, hpost _ _ _ _ _ _ ⟨Cond.after_iff.mpr rfl, Cond.after_iff.mpr (eq_i res_at (Term.int_eval (1)) rfl), trivial⟩ ⟨hq.1, hq.2.1, hq.2.2.1, (hq.2.2.2.sift fun y hy => Or.inr (N y hy)).mono (by decide) (by decide)⟩⟩
theorem main_1_1 : Claimed_1_1 := comes_1 fun _ _ _ _ _ _ h hF => ⟨h.1, hF⟩
theorem main_1_2 : Claimed_1_2 := comes_1 fun _ _ _ _ _ _ h hF => ⟨h.2.1, hF⟩
end Jvm.Pilot.@@N@@
namespace Jvm.Pilot.@@N@@
open Jvm Jvm.ClassFile Sem Op Lib Jvm.Free Jvm.Stand Jvm.Pilot.@@N@@.Jvm.D
/-! MADE BY PROGRAM (witnessworld.py) out of the Statement's table words and the real class files: 19 classes; the members and pool entries that the words name. The judged class is class 1, her method 1. -/
namespace start1
open Jvm.ClassFile
def u (s : String) : CpInfo := .utf8 (stringToUtf16 s)
/-- a pool by its gaps: so many unusable entries, then the entry; so many at the end -/
def gap : Nat → List CpInfo → List CpInfo
  | 0, r => r
  | n + 1, r => .unusable :: gap n r
def poolList (es : List (Nat × CpInfo)) (last : Nat) : List CpInfo := es.foldr (fun e r => gap e.1 (e.2 :: r)) (gap last [])
def pool (es : List (Nat × CpInfo)) (last : Nat) : Array CpInfo := ⟨poolList es last⟩
def fileOf (pool : Array CpInfo) (this : Nat) (attrs : Array Attribute := #[]) (ms : Array MethodInfo := #[]) (fl : Nat := 33) (sup : Nat := 0) (ifs : Array Nat := #[]) (fds : Array FieldInfo := #[]) : ClassFile where
  minorVersion := 0
  majorVersion := 65
  constantPool := pool
  accessFlags := fl
  thisClass := this
  superClass := sup
  interfaces := ifs
  fields := fds
  methods := ms
  attributes := attrs
def plain (name : String) (sup : Option ClassId) : Class where
  name := name
  kind := .ordinary
  loader := none
  accessFlags := 33
  super := sup
  interfaces := #[]
  cf := none
  fields := #[]
  methods := #[]
  instanceTypes := #[]
  staticTypes := #[]
  resolved := #[]
  callSites := []
  init := .initialized
  statics := none
  mirror := none

def pool0 : Array CpInfo := pool [(5, u "<init>"), (0, u "()V"), (1, .class_ 10), (1, u "java/lang/Object")] 113

def k0c0 : Code := { maxStack := 0, maxLocals := 1, code := object_method_1_code, exceptionTable := #[], attributes := #[] }
def k0m0 : Method := { name := "<init>", desc := "()V", sig := { parameters := [], returnType := none }, accessFlags := 1, code := some k0c0 }
/-- java/lang/Object -/
def k0 : Class := { plain "java/lang/Object" none with
  accessFlags := 33
  interfaces := #[]
  cf := some (fileOf pool0 8 #[] #[{ accessFlags := 1, nameIndex := 5, descriptorIndex := 6, attributes := #[] }] 33 0 #[] #[])
  fields := #[]
  methods := #[k0m0]
  instanceTypes := #[]
  staticTypes := #[]
  resolved := Array.replicate 124 none
  statics := none }

def pool1 : Array CpInfo := pool [(2, .class_ 4), (1, u "java/lang/Object"), (0, u "<init>"), (0, u "()V"), (0, .integer 1048575), (0, .integer 65535), (0, .class_ 10), (0, u "com/example/widemargin/widemargin/PredictionError"), (0, .long 3600), (1, .methodref 9 14), (0, .nameAndType 5 15), (0, u "(DD)V"), (0, .methodref 9 17), (0, .nameAndType 18 19), (0, u "alongTrackVariance"), (0, u "(D)D"), (0, .integer 16777215), (0, .methodref 22 23), (0, .class_ 24), (0, .nameAndType 25 26), (0, u "java/lang/Math"), (0, u "abs"), (0, u "(J)J"), (0, .class_ 28), (0, u "com/example/widemargin/widemargin/PredictionErrorAlongTrackVariancePinLaw"), (2, u "law"), (0, u "(IIIII)Z")] 3

def k1m0 : Method := { name := "<init>", desc := "()V", sig := { parameters := [], returnType := none }, accessFlags := 1, code := none }
def k1c1 : Code := { maxStack := 8, maxLocals := 27, code := code, exceptionTable := #[], attributes := #[] }
def k1m1 : Method := { name := "law", desc := "(IIIII)Z", sig := { parameters := [.int, .int, .int, .int, .int], returnType := some .boolean }, accessFlags := 9, code := some k1c1 }
/-- com/example/widemargin/widemargin/PredictionErrorAlongTrackVariancePinLaw -/
def k1 : Class := { plain "com/example/widemargin/widemargin/PredictionErrorAlongTrackVariancePinLaw" (some 0) with
  accessFlags := 49
  interfaces := #[]
  cf := some (fileOf pool1 27 #[] #[{ accessFlags := 1, nameIndex := 5, descriptorIndex := 6, attributes := #[] }, { accessFlags := 9, nameIndex := 31, descriptorIndex := 32, attributes := #[] }] 49 2 #[] #[])
  fields := #[]
  methods := #[k1m0, k1m1]
  instanceTypes := #[]
  staticTypes := #[]
  resolved := Array.replicate 36 none
  statics := none }

def pool2 : Array CpInfo := pool [(1, .methodref 2 3), (0, .class_ 4), (0, .nameAndType 5 6), (0, u "java/lang/Object"), (0, u "<init>"), (0, u "()V"), (0, .class_ 8), (0, u "java/lang/Record")] 13

def k2c0 : Code := { maxStack := 1, maxLocals := 1, code := jdk_30_method_1_code, exceptionTable := #[], attributes := #[] }
def k2m0 : Method := { name := "<init>", desc := "()V", sig := { parameters := [], returnType := none }, accessFlags := 4, code := some k2c0 }
/-- java/lang/Record -/
def k2 : Class := { plain "java/lang/Record" (some 0) with
  accessFlags := 1057
  interfaces := #[]
  cf := some (fileOf pool2 7 #[] #[{ accessFlags := 4, nameIndex := 5, descriptorIndex := 6, attributes := #[] }] 1057 2 #[] #[])
  fields := #[]
  methods := #[k2m0]
  instanceTypes := #[]
  staticTypes := #[]
  resolved := Array.replicate 22 none
  statics := none }

def pool3 : Array CpInfo := pool [(1, .methodref 2 3), (0, .class_ 4), (0, .nameAndType 5 6), (0, u "java/lang/Record"), (0, u "<init>"), (0, u "()V"), (0, .string 8), (0, u "cross-track standard deviation (nautical miles) must not be negative"), (0, .methodref 10 11), (0, .class_ 12), (0, .nameAndType 13 14), (0, u "com/example/widemargin/widemargin/Arguments"), (0, u "require"), (0, u "(ZLjava/lang/String;D)V"), (0, .string 16), (0, u "along-track growth rate (knots) must not be negative"), (0, .fieldref 18 19), (0, .class_ 20), (0, .nameAndType 21 22), (0, u "com/example/widemargin/widemargin/PredictionError"), (0, u "crossTrack"), (0, u "D"), (0, .fieldref 18 24), (0, .nameAndType 25 22), (0, u "alongTrackRate"), (2, .double 4660134898793709568), (13, u "(DD)V"), (4, u "alongTrackVariance"), (0, u "(D)D")] 26

def k3c0 : Code := { maxStack := 4, maxLocals := 5, code := prog_33_method_1_code, exceptionTable := #[], attributes := #[] }
def k3m0 : Method := { name := "<init>", desc := "(DD)V", sig := { parameters := [.double, .double], returnType := none }, accessFlags := 1, code := some k3c0 }
def k3c1 : Code := { maxStack := 4, maxLocals := 5, code := prog_33_method_2_code, exceptionTable := #[], attributes := #[] }
def k3m1 : Method := { name := "alongTrackVariance", desc := "(D)D", sig := { parameters := [.double], returnType := some .double }, accessFlags := 0, code := some k3c1 }
/-- com/example/widemargin/widemargin/PredictionError -/
def k3 : Class := { plain "com/example/widemargin/widemargin/PredictionError" (some 2) with
  accessFlags := 49
  interfaces := #[]
  cf := some (fileOf pool3 18 #[] #[{ accessFlags := 1, nameIndex := 5, descriptorIndex := 42, attributes := #[] }, { accessFlags := 0, nameIndex := 47, descriptorIndex := 48, attributes := #[] }] 49 2 #[] #[{ accessFlags := 18, nameIndex := 21, descriptorIndex := 22, attributes := #[] }, { accessFlags := 18, nameIndex := 25, descriptorIndex := 22, attributes := #[] }])
  fields := #[{ name := "crossTrack", type := .double, accessFlags := 18, slot := 0, constantValue := 0 }, { name := "alongTrackRate", type := .double, accessFlags := 18, slot := 1, constantValue := 0 }]
  methods := #[k3m0, k3m1]
  instanceTypes := #[.double, .double]
  staticTypes := #[]
  resolved := Array.replicate 75 none
  statics := none }

def pool4 : Array CpInfo := pool [(1, .class_ 2), (0, u "java/io/Serializable"), (0, .class_ 4), (0, u "java/lang/Object")] 2

/-- java/io/Serializable -/
def k4 : Class := { plain "java/io/Serializable" (some 0) with
  accessFlags := 1537
  interfaces := #[]
  cf := some (fileOf pool4 1 #[] #[] 1537 3 #[] #[])
  fields := #[]
  methods := #[]
  instanceTypes := #[]
  staticTypes := #[]
  resolved := Array.replicate 7 none
  statics := none }

def pool5 : Array CpInfo := pool [(1, .class_ 2), (0, u "java/lang/Comparable"), (0, .class_ 4), (0, u "java/lang/Object")] 7

/-- java/lang/Comparable -/
def k5 : Class := { plain "java/lang/Comparable" (some 0) with
  accessFlags := 1537
  interfaces := #[]
  cf := some (fileOf pool5 1 #[] #[] 1537 3 #[] #[])
  fields := #[]
  methods := #[]
  instanceTypes := #[]
  staticTypes := #[]
  resolved := Array.replicate 12 none
  statics := none }

def pool6 : Array CpInfo := pool [(2, .class_ 4), (1, u "java/lang/CharSequence"), (42, .class_ 48), (0, u "java/lang/CharSequence$1CodePointIterator"), (10, .class_ 60), (0, u "java/lang/CharSequence$1CharIterator"), (5, .class_ 67), (0, u "java/lang/Object")] 63

/-- java/lang/CharSequence -/
def k6 : Class := { plain "java/lang/CharSequence" (some 0) with
  accessFlags := 1537
  interfaces := #[]
  cf := some (fileOf pool6 2 #[.nestMembers #[47, 59]] #[] 1537 66 #[] #[])
  fields := #[]
  methods := #[]
  instanceTypes := #[]
  staticTypes := #[]
  resolved := Array.replicate 131 none
  statics := none }

def pool7 : Array CpInfo := pool [(1, .class_ 2), (0, u "java/lang/constant/Constable"), (0, .class_ 4), (0, u "java/lang/Object")] 6

/-- java/lang/constant/Constable -/
def k7 : Class := { plain "java/lang/constant/Constable" (some 0) with
  accessFlags := 1537
  interfaces := #[]
  cf := some (fileOf pool7 1 #[] #[] 1537 3 #[] #[])
  fields := #[]
  methods := #[]
  instanceTypes := #[]
  staticTypes := #[]
  resolved := Array.replicate 11 none
  statics := none }

def pool8 : Array CpInfo := pool [(1, .class_ 2), (0, u "java/lang/constant/ConstantDesc"), (0, .class_ 4), (0, u "java/lang/Object")] 32

/-- java/lang/constant/ConstantDesc -/
def k8 : Class := { plain "java/lang/constant/ConstantDesc" (some 0) with
  accessFlags := 1537
  interfaces := #[]
  cf := some (fileOf pool8 1 #[] #[] 1537 3 #[] #[])
  fields := #[]
  methods := #[]
  instanceTypes := #[]
  staticTypes := #[]
  resolved := Array.replicate 37 none
  statics := none }

def pool9 : Array CpInfo := pool [(2, .class_ 4), (1, u "java/lang/Object"), (0, u "<init>"), (0, u "()V"), (3, .class_ 12), (1, u "java/lang/String"), (0, u "value"), (0, u "[B"), (2, u "coder"), (0, u "B"), (2, u "hash"), (0, u "I"), (2, u "hashIsZero"), (0, u "Z"), (13, u "COMPACT_STRINGS"), (534, .class_ 576), (0, u "java/lang/CharSequence"), (22, u "CASE_INSENSITIVE_ORDER"), (0, u "Ljava/util/Comparator;"), (500, u "serialPersistentFields"), (0, u "[Ljava/io/ObjectStreamField;"), (0, .class_ 1104), (0, u "java/lang/String$CaseInsensitiveComparator"), (1, .class_ 1107), (0, u "java/io/Serializable"), (0, .class_ 1109), (0, u "java/lang/Comparable"), (0, .class_ 1111), (0, u "java/lang/constant/Constable"), (0, .class_ 1113), (0, u "java/lang/constant/ConstantDesc"), (2, u "serialVersionUID"), (0, u "J"), (3, u "REPL"), (0, u "C"), (2, u "LATIN1"), (1, u "UTF16")] 323

def k9m0 : Method := { name := "<init>", desc := "()V", sig := { parameters := [], returnType := none }, accessFlags := 1, code := none }
/-- java/lang/String -/
def k9 : Class := { plain "java/lang/String" (some 0) with
  accessFlags := 49
  interfaces := #[4, 5, 6, 7, 8]
  cf := some (fileOf pool9 10 #[.nestMembers #[1103]] #[{ accessFlags := 1, nameIndex := 5, descriptorIndex := 6, attributes := #[] }] 49 2 #[1106, 1108, 575, 1110, 1112] #[{ accessFlags := 18, nameIndex := 13, descriptorIndex := 14, attributes := #[] }, { accessFlags := 18, nameIndex := 17, descriptorIndex := 18, attributes := #[] }, { accessFlags := 2, nameIndex := 21, descriptorIndex := 22, attributes := #[] }, { accessFlags := 2, nameIndex := 25, descriptorIndex := 26, attributes := #[] }, { accessFlags := 26, nameIndex := 1116, descriptorIndex := 1117, attributes := #[] }, { accessFlags := 24, nameIndex := 40, descriptorIndex := 26, attributes := #[] }, { accessFlags := 26, nameIndex := 1101, descriptorIndex := 1102, attributes := #[] }, { accessFlags := 26, nameIndex := 1121, descriptorIndex := 1122, attributes := #[] }, { accessFlags := 25, nameIndex := 599, descriptorIndex := 600, attributes := #[] }, { accessFlags := 24, nameIndex := 1125, descriptorIndex := 18, attributes := #[] }, { accessFlags := 24, nameIndex := 1127, descriptorIndex := 18, attributes := #[] }])
  fields := #[{ name := "value", type := (.array .byte), accessFlags := 18, slot := 0, constantValue := 0 }, { name := "coder", type := .byte, accessFlags := 18, slot := 1, constantValue := 0 }, { name := "hash", type := .int, accessFlags := 2, slot := 2, constantValue := 0 }, { name := "hashIsZero", type := .boolean, accessFlags := 2, slot := 3, constantValue := 0 }, { name := "serialVersionUID", type := .long, accessFlags := 26, slot := 0, constantValue := 0 }, { name := "COMPACT_STRINGS", type := .boolean, accessFlags := 24, slot := 1, constantValue := 0 }, { name := "serialPersistentFields", type := (.array (.object "java/io/ObjectStreamField")), accessFlags := 26, slot := 2, constantValue := 0 }, { name := "REPL", type := .char, accessFlags := 26, slot := 3, constantValue := 0 }, { name := "CASE_INSENSITIVE_ORDER", type := (.object "java/util/Comparator"), accessFlags := 25, slot := 4, constantValue := 0 }, { name := "LATIN1", type := .byte, accessFlags := 24, slot := 5, constantValue := 0 }, { name := "UTF16", type := .byte, accessFlags := 24, slot := 6, constantValue := 0 }]
  methods := #[k9m0]
  instanceTypes := #[(.array .byte), .byte, .int, .boolean]
  staticTypes := #[.long, .boolean, (.array (.object "java/io/ObjectStreamField")), .char, (.object "java/util/Comparator"), .byte, .byte]
  resolved := Array.replicate 1451 none
  statics := none }

def pool10 : Array CpInfo := pool [(2, .class_ 4), (1, u "java/lang/Object"), (0, u "<init>"), (0, u "()V"), (0, .methodref 8 9), (0, .class_ 10), (0, .nameAndType 11 12), (0, u "java/lang/Double"), (0, u "isFinite"), (0, u "(D)Z"), (11, .class_ 26), (1, u "com/example/widemargin/widemargin/Arguments"), (0, u "SPEED_LIMIT_FEET_PER_SECOND"), (0, u "D"), (20, u "require"), (0, u "(ZLjava/lang/String;D)V")] 36

def k10m0 : Method := { name := "<init>", desc := "()V", sig := { parameters := [], returnType := none }, accessFlags := 2, code := none }
def k10c1 : Code := { maxStack := 5, maxLocals := 4, code := prog_5_method_2_code, exceptionTable := #[], attributes := #[] }
def k10m1 : Method := { name := "require", desc := "(ZLjava/lang/String;D)V", sig := { parameters := [.boolean, (.object "java/lang/String"), .double], returnType := none }, accessFlags := 8, code := some k10c1 }
/-- com/example/widemargin/widemargin/Arguments -/
def k10 : Class := { plain "com/example/widemargin/widemargin/Arguments" (some 0) with
  accessFlags := 48
  interfaces := #[]
  cf := some (fileOf pool10 24 #[] #[{ accessFlags := 2, nameIndex := 5, descriptorIndex := 6, attributes := #[] }, { accessFlags := 8, nameIndex := 49, descriptorIndex := 50, attributes := #[] }] 48 2 #[] #[{ accessFlags := 24, nameIndex := 27, descriptorIndex := 28, attributes := #[] }])
  fields := #[{ name := "SPEED_LIMIT_FEET_PER_SECOND", type := .double, accessFlags := 24, slot := 0, constantValue := 0 }]
  methods := #[k10m0, k10m1]
  instanceTypes := #[]
  staticTypes := #[.double]
  resolved := Array.replicate 87 none
  statics := none }

def pool11 : Array CpInfo := pool [(2, .class_ 4), (1, u "java/lang/Object"), (0, u "<init>"), (0, u "()V"), (1, .class_ 10), (1, u "java/lang/Number"), (2, .class_ 14), (0, u "java/io/Serializable"), (0, u "serialVersionUID"), (0, u "J")] 20

def k11m0 : Method := { name := "<init>", desc := "()V", sig := { parameters := [], returnType := none }, accessFlags := 1, code := none }
/-- java/lang/Number -/
def k11 : Class := { plain "java/lang/Number" (some 0) with
  accessFlags := 1057
  interfaces := #[4]
  cf := some (fileOf pool11 8 #[] #[{ accessFlags := 1, nameIndex := 5, descriptorIndex := 6, attributes := #[] }] 1057 2 #[13] #[{ accessFlags := 26, nameIndex := 15, descriptorIndex := 16, attributes := #[] }])
  fields := #[{ name := "serialVersionUID", type := .long, accessFlags := 26, slot := 0, constantValue := 0 }]
  methods := #[k11m0]
  instanceTypes := #[]
  staticTypes := #[.long]
  resolved := Array.replicate 37 none
  statics := none }

def pool12 : Array CpInfo := pool [(1, .class_ 2), (0, u "java/lang/Double"), (10, u "isFinite"), (0, u "(D)Z"), (8, .class_ 25), (1, u "java/lang/Math"), (12, .methodref 23 39), (0, .nameAndType 40 41), (0, u "abs"), (0, u "(D)D"), (69, .double 9218868437227405311), (2, .class_ 116), (1, u "java/lang/Number"), (3, u "value"), (0, u "D"), (51, u "TYPE"), (0, u "Ljava/lang/Class;"), (0, .class_ 176), (0, u "java/lang/Comparable"), (0, .class_ 178), (0, u "java/lang/constant/Constable"), (0, .class_ 180), (0, u "java/lang/constant/ConstantDesc"), (0, u "POSITIVE_INFINITY"), (3, u "NEGATIVE_INFINITY"), (2, u "NaN"), (2, u "MAX_VALUE"), (0, u "MIN_NORMAL"), (0, u "MIN_VALUE"), (2, u "SIZE"), (0, u "I"), (1, u "PRECISION"), (1, u "MAX_EXPONENT"), (1, u "MIN_EXPONENT"), (1, u "BYTES"), (3, u "serialVersionUID"), (0, u "J")] 79

def k12c0 : Code := { maxStack := 4, maxLocals := 2, code := jdk_117_method_8_code, exceptionTable := #[], attributes := #[] }
def k12m0 : Method := { name := "isFinite", desc := "(D)Z", sig := { parameters := [.double], returnType := some .boolean }, accessFlags := 9, code := some k12c0 }
/-- java/lang/Double -/
def k12 : Class := { plain "java/lang/Double" (some 11) with
  accessFlags := 49
  interfaces := #[5, 7, 8]
  cf := some (fileOf pool12 1 #[] #[{ accessFlags := 9, nameIndex := 13, descriptorIndex := 14, attributes := #[] }] 49 114 #[175, 177, 179] #[{ accessFlags := 25, nameIndex := 181, descriptorIndex := 121, attributes := #[] }, { accessFlags := 25, nameIndex := 185, descriptorIndex := 121, attributes := #[] }, { accessFlags := 25, nameIndex := 188, descriptorIndex := 121, attributes := #[] }, { accessFlags := 25, nameIndex := 191, descriptorIndex := 121, attributes := #[] }, { accessFlags := 25, nameIndex := 192, descriptorIndex := 121, attributes := #[] }, { accessFlags := 25, nameIndex := 193, descriptorIndex := 121, attributes := #[] }, { accessFlags := 25, nameIndex := 196, descriptorIndex := 197, attributes := #[] }, { accessFlags := 25, nameIndex := 199, descriptorIndex := 197, attributes := #[] }, { accessFlags := 25, nameIndex := 201, descriptorIndex := 197, attributes := #[] }, { accessFlags := 25, nameIndex := 203, descriptorIndex := 197, attributes := #[] }, { accessFlags := 25, nameIndex := 205, descriptorIndex := 197, attributes := #[] }, { accessFlags := 25, nameIndex := 173, descriptorIndex := 174, attributes := #[] }, { accessFlags := 18, nameIndex := 120, descriptorIndex := 121, attributes := #[] }, { accessFlags := 26, nameIndex := 209, descriptorIndex := 210, attributes := #[] }])
  fields := #[{ name := "POSITIVE_INFINITY", type := .double, accessFlags := 25, slot := 0, constantValue := 0 }, { name := "NEGATIVE_INFINITY", type := .double, accessFlags := 25, slot := 1, constantValue := 0 }, { name := "NaN", type := .double, accessFlags := 25, slot := 2, constantValue := 0 }, { name := "MAX_VALUE", type := .double, accessFlags := 25, slot := 3, constantValue := 0 }, { name := "MIN_NORMAL", type := .double, accessFlags := 25, slot := 4, constantValue := 0 }, { name := "MIN_VALUE", type := .double, accessFlags := 25, slot := 5, constantValue := 0 }, { name := "SIZE", type := .int, accessFlags := 25, slot := 6, constantValue := 0 }, { name := "PRECISION", type := .int, accessFlags := 25, slot := 7, constantValue := 0 }, { name := "MAX_EXPONENT", type := .int, accessFlags := 25, slot := 8, constantValue := 0 }, { name := "MIN_EXPONENT", type := .int, accessFlags := 25, slot := 9, constantValue := 0 }, { name := "BYTES", type := .int, accessFlags := 25, slot := 10, constantValue := 0 }, { name := "TYPE", type := (.object "java/lang/Class"), accessFlags := 25, slot := 11, constantValue := 0 }, { name := "value", type := .double, accessFlags := 18, slot := 0, constantValue := 0 }, { name := "serialVersionUID", type := .long, accessFlags := 26, slot := 12, constantValue := 0 }]
  methods := #[k12m0]
  instanceTypes := #[.double]
  staticTypes := #[.double, .double, .double, .double, .double, .double, .int, .int, .int, .int, .int, (.object "java/lang/Class"), .long]
  resolved := Array.replicate 290 none
  statics := none }

def pool13 : Array CpInfo := pool [(1, .class_ 2), (0, u "java/lang/Math"), (1, .class_ 6), (1, u "java/lang/Object"), (0, u "<init>"), (0, u "()V"), (5, u "(D)D"), (83, .class_ 100), (1, u "java/lang/Math$RandomNumberGeneratorHolder"), (23, u "abs"), (0, u "(J)J"), (46, u "negativeZeroFloatBits"), (0, u "J"), (2, u "negativeZeroDoubleBits"), (68, u "$assertionsDisabled"), (0, u "Z"), (91, u "twoToTheDoubleScaleDown"), (0, u "D"), (4, u "twoToTheDoubleScaleUp"), (9, u "E"), (3, u "PI"), (2, u "TAU"), (2, u "DEGREES_TO_RADIANS"), (0, u "RADIANS_TO_DEGREES")] 94

def k13m0 : Method := { name := "<init>", desc := "()V", sig := { parameters := [], returnType := none }, accessFlags := 2, code := none }
def k13c1 : Code := { maxStack := 4, maxLocals := 2, code := jdk_29_method_61_code, exceptionTable := #[], attributes := #[] }
def k13m1 : Method := { name := "abs", desc := "(J)J", sig := { parameters := [.long], returnType := some .long }, accessFlags := 9, code := some k13c1 }
def k13c2 : Code := { maxStack := 4, maxLocals := 2, code := jdk_29_method_64_code, exceptionTable := #[], attributes := #[] }
def k13m2 : Method := { name := "abs", desc := "(D)D", sig := { parameters := [.double], returnType := some .double }, accessFlags := 9, code := some k13c2 }
/-- java/lang/Math -/
def k13 : Class := { plain "java/lang/Math" (some 0) with
  accessFlags := 49
  interfaces := #[]
  cf := some (fileOf pool13 1 #[.nestMembers #[98]] #[{ accessFlags := 2, nameIndex := 7, descriptorIndex := 8, attributes := #[] }, { accessFlags := 9, nameIndex := 124, descriptorIndex := 125, attributes := #[] }, { accessFlags := 9, nameIndex := 124, descriptorIndex := 14, attributes := #[] }] 49 4 #[] #[{ accessFlags := 25, nameIndex := 354, descriptorIndex := 339, attributes := #[] }, { accessFlags := 25, nameIndex := 358, descriptorIndex := 339, attributes := #[] }, { accessFlags := 25, nameIndex := 361, descriptorIndex := 339, attributes := #[] }, { accessFlags := 26, nameIndex := 364, descriptorIndex := 339, attributes := #[] }, { accessFlags := 26, nameIndex := 365, descriptorIndex := 339, attributes := #[] }, { accessFlags := 26, nameIndex := 172, descriptorIndex := 173, attributes := #[] }, { accessFlags := 26, nameIndex := 176, descriptorIndex := 173, attributes := #[] }, { accessFlags := 8, nameIndex := 344, descriptorIndex := 339, attributes := #[] }, { accessFlags := 8, nameIndex := 338, descriptorIndex := 339, attributes := #[] }, { accessFlags := 4120, nameIndex := 245, descriptorIndex := 246, attributes := #[] }])
  fields := #[{ name := "E", type := .double, accessFlags := 25, slot := 0, constantValue := 0 }, { name := "PI", type := .double, accessFlags := 25, slot := 1, constantValue := 0 }, { name := "TAU", type := .double, accessFlags := 25, slot := 2, constantValue := 0 }, { name := "DEGREES_TO_RADIANS", type := .double, accessFlags := 26, slot := 3, constantValue := 0 }, { name := "RADIANS_TO_DEGREES", type := .double, accessFlags := 26, slot := 4, constantValue := 0 }, { name := "negativeZeroFloatBits", type := .long, accessFlags := 26, slot := 5, constantValue := 0 }, { name := "negativeZeroDoubleBits", type := .long, accessFlags := 26, slot := 6, constantValue := 0 }, { name := "twoToTheDoubleScaleUp", type := .double, accessFlags := 8, slot := 7, constantValue := 0 }, { name := "twoToTheDoubleScaleDown", type := .double, accessFlags := 8, slot := 8, constantValue := 0 }, { name := "$assertionsDisabled", type := .boolean, accessFlags := 4120, slot := 9, constantValue := 0 }]
  methods := #[k13m0, k13m1, k13m2]
  instanceTypes := #[]
  staticTypes := #[.double, .double, .double, .double, .double, .long, .long, .double, .double, .boolean]
  resolved := Array.replicate 460 none
  statics := none }

def pool14 : Array CpInfo := pool [(1, u "java/lang/Cloneable"), (0, .class_ 1), (0, u "java/lang/Object"), (0, .class_ 3)] 3

/-- java/lang/Cloneable -/
def k14 : Class := { plain "java/lang/Cloneable" (some 0) with
  accessFlags := 1537
  interfaces := #[]
  cf := some (fileOf pool14 2 #[] #[] 1537 4 #[] #[])
  fields := #[]
  methods := #[]
  instanceTypes := #[]
  staticTypes := #[]
  resolved := Array.replicate 8 none
  statics := none }

/-- the primitive byte -/
def k15 : Class := { plain "byte" none with kind := .primitive 'B', accessFlags := 0x411 }
/-- [B -/
def k16 : Class := { plain "[B" (some 0) with kind := .array 15 .byte, interfaces := #[14, 4], accessFlags := 1041 }

/-- the primitive int -/
def k17 : Class := { plain "int" none with kind := .primitive 'I', accessFlags := 0x411 }
/-- [I -/
def k18 : Class := { plain "[I" (some 0) with kind := .array 17 .int, interfaces := #[14, 4], accessFlags := 1041 }

def heap : Heap := #[]
def classes : Array Class := #[k0, k1, k2, k3, k4, k5, k6, k7, k8, k9, k10, k11, k12, k13, k14, k15, k16, k17, k18]
def interned : List (Array UInt16 × Addr) := []
def slotsUsed : Nat := 0
def theMethod : MethodId := ⟨1, 1⟩
def args0 : Array Value := #[.int 5, .int 7, .int 9, .int 11, .int 13]
def aboutOver (below : List Frame) : State where
  vm := { classes := classes, interned := interned.toArray }
  heap := heap
  slotsUsed := slotsUsed
  threads := #[{ frames := .invoking theMethod args0 :: below }]
def below0 : List Frame := [.native { method := ⟨0, 0⟩, args := #[] }]
def about1 : State := aboutOver below0
def p0 : Program := .bare "" "" ""
def e0 : Env := launch0.env 0 0 0
theorem w_frames : about1.frames = Frame.invoking theMethod args0 :: below0 := rfl
set_option maxRecDepth 65536 in
theorem w_args : argsFit about1.vm theMethod args0 = true := by decide +kernel
set_option maxRecDepth 65536 in
theorem w_heap : heapFits about1 = true := by decide +kernel
set_option maxRecDepth 65536 in
theorem w_runnable : about1.curStatus? = some .runnable := by decide +kernel
set_option maxRecDepth 65536 in
theorem w_alone : about1.alone = true := by decide +kernel
set_option maxRecDepth 65536 in
theorem w_named : about1.methodNamed? x = some theMethod := by decide +kernel
set_option maxRecDepth 65536 in
theorem w_hears : about1.hears theMethod below0 = true := by decide +kernel
set_option maxRecDepth 65536 in
theorem w_ripe : about1.ripe theMethod args0 below0 = true := by decide +kernel
theorem w_running : about1.status = .running := rfl
set_option maxRecDepth 65536 in
theorem w_room : about1.hasRoom e0.platform room_1 = true :=
  launch0.hasRoom_least _ room_1 (by decide +kernel) (by decide +kernel) (by decide +kernel) (by decide +kernel) (by decide +kernel) (by decide +kernel)
theorem allAtoms_all (ts : List Jvm.Cond) (a : Array Jvm.Value) (st : Jvm.State) : (allAtoms ts).before a st = ts.all (fun c => c.before a st) := by
  induction ts with
  | nil => rfl
  | cons c t ih =>
    show (Jvm.Cond.and c (allAtoms t)).before a st = _
    rw [Jvm.Cond.before_and, ih, List.all_cons]
def words1 : List Jvm.Cond := Jvm.Cond.code x code maxLocals ret :: tables_1
/-- a 'code' word, met by the world's own term for the bytes: nothing is compared byte by byte -/
theorem code_word {y : MethodName} {bytes : ByteArray} {mx : Nat} {rt : Option FieldType} {a : Array Value} {s : State} {m : MethodId} {meth : Method} {c : Code} (h1 : s.methodNamed? y = some m) (h2 : s.vm.method? m = some meth) (h3 : meth.code = some c) (h4 : c.code = bytes)
    (h5 : (c.maxLocals == mx && c.exceptionTable.isEmpty && decide (c.maxStack ≤ mostOperands) && decide (meth.sig.returnType = rt) && !meth.locks && decide (parseMethodDescriptor y.desc = some meth.sig)) = true) : (Jvm.Cond.code y bytes mx rt).before a s = true := by
  simp only [Bool.and_eq_true, beq_iff_eq, Bool.not_eq_true', decide_eq_true_eq] at h5
  obtain ⟨⟨⟨⟨⟨g1, g2⟩, g3⟩, g4⟩, g5⟩, g6⟩ := h5
  simp [Cond.before, Cond.holds, Cond.value, h1, h2, h3, h4, g1, g2, g3, g4, g5, g6]
def isCode : Jvm.Cond → Bool
  | .code _ _ _ _ => true
  | _ => false
theorem all_split {L : List Jvm.Cond} {P : Jvm.Cond → Bool} (h1 : L.all (fun c => isCode c || P c) = true) (h2 : ∀ c ∈ L.filter isCode, P c = true) : L.all P = true := by
  refine List.all_eq_true.mpr fun c hc => ?_
  have h := List.all_eq_true.mp h1 c hc
  rcases Bool.eq_false_or_eq_true (isCode c) with hi | hi
  · exact h2 c (List.mem_filter.mpr ⟨hc, hi⟩)
  · simpa [hi] using h
set_option maxRecDepth 65536 in
theorem w_c0 : (Jvm.Cond.code x code maxLocals ret).before args0 about1 = true := code_word (m := ⟨1, 1⟩) (meth := k1m1) (c := k1c1) (by decide +kernel) rfl rfl rfl (by decide +kernel)
set_option maxRecDepth 65536 in
theorem w_c1 : (Jvm.Cond.code ({ cls := "com/example/widemargin/widemargin/PredictionError", name := "<init>", desc := "(DD)V" } : Jvm.MethodName) prog_33_method_1_code (5 : Nat) (Option.none : Option Jvm.ClassFile.FieldType)).before args0 about1 = true := code_word (m := ⟨3, 0⟩) (meth := k3m0) (c := k3c0) (by decide +kernel) rfl rfl rfl (by decide +kernel)
set_option maxRecDepth 65536 in
theorem w_c2 : (Jvm.Cond.code ({ cls := "java/lang/Record", name := "<init>", desc := "()V" } : Jvm.MethodName) jdk_30_method_1_code (1 : Nat) (Option.none : Option Jvm.ClassFile.FieldType)).before args0 about1 = true := code_word (m := ⟨2, 0⟩) (meth := k2m0) (c := k2c0) (by decide +kernel) rfl rfl rfl (by decide +kernel)
set_option maxRecDepth 65536 in
theorem w_c3 : (Jvm.Cond.code ({ cls := "java/lang/Object", name := "<init>", desc := "()V" } : Jvm.MethodName) object_method_1_code (1 : Nat) (Option.none : Option Jvm.ClassFile.FieldType)).before args0 about1 = true := code_word (m := ⟨0, 0⟩) (meth := k0m0) (c := k0c0) (by decide +kernel) rfl rfl rfl (by decide +kernel)
set_option maxRecDepth 65536 in
theorem w_c4 : (Jvm.Cond.code ({ cls := "com/example/widemargin/widemargin/Arguments", name := "require", desc := "(ZLjava/lang/String;D)V" } : Jvm.MethodName) prog_5_method_2_code (4 : Nat) (Option.none : Option Jvm.ClassFile.FieldType)).before args0 about1 = true := code_word (m := ⟨10, 1⟩) (meth := k10m1) (c := k10c1) (by decide +kernel) rfl rfl rfl (by decide +kernel)
set_option maxRecDepth 65536 in
theorem w_c5 : (Jvm.Cond.code ({ cls := "java/lang/Double", name := "isFinite", desc := "(D)Z" } : Jvm.MethodName) jdk_117_method_8_code (2 : Nat) (Option.some Jvm.ClassFile.FieldType.boolean)).before args0 about1 = true := code_word (m := ⟨12, 0⟩) (meth := k12m0) (c := k12c0) (by decide +kernel) rfl rfl rfl (by decide +kernel)
set_option maxRecDepth 65536 in
theorem w_c6 : (Jvm.Cond.code ({ cls := "java/lang/Math", name := "abs", desc := "(D)D" } : Jvm.MethodName) jdk_29_method_64_code (2 : Nat) (Option.some Jvm.ClassFile.FieldType.double)).before args0 about1 = true := code_word (m := ⟨13, 2⟩) (meth := k13m2) (c := k13c2) (by decide +kernel) rfl rfl rfl (by decide +kernel)
set_option maxRecDepth 65536 in
theorem w_c7 : (Jvm.Cond.code ({ cls := "com/example/widemargin/widemargin/PredictionError", name := "alongTrackVariance", desc := "(D)D" } : Jvm.MethodName) prog_33_method_2_code (5 : Nat) (Option.some Jvm.ClassFile.FieldType.double)).before args0 about1 = true := code_word (m := ⟨3, 1⟩) (meth := k3m1) (c := k3c1) (by decide +kernel) rfl rfl rfl (by decide +kernel)
set_option maxRecDepth 65536 in
theorem w_c8 : (Jvm.Cond.code ({ cls := "java/lang/Math", name := "abs", desc := "(J)J" } : Jvm.MethodName) jdk_29_method_61_code (2 : Nat) (Option.some Jvm.ClassFile.FieldType.long)).before args0 about1 = true := code_word (m := ⟨13, 1⟩) (meth := k13m1) (c := k13c1) (by decide +kernel) rfl rfl rfl (by decide +kernel)
def codes1 : List Jvm.Cond := [Jvm.Cond.code x code maxLocals ret, Jvm.Cond.code ({ cls := "com/example/widemargin/widemargin/PredictionError", name := "<init>", desc := "(DD)V" } : Jvm.MethodName) prog_33_method_1_code (5 : Nat) (Option.none : Option Jvm.ClassFile.FieldType), Jvm.Cond.code ({ cls := "java/lang/Record", name := "<init>", desc := "()V" } : Jvm.MethodName) jdk_30_method_1_code (1 : Nat) (Option.none : Option Jvm.ClassFile.FieldType), Jvm.Cond.code ({ cls := "java/lang/Object", name := "<init>", desc := "()V" } : Jvm.MethodName) object_method_1_code (1 : Nat) (Option.none : Option Jvm.ClassFile.FieldType), Jvm.Cond.code ({ cls := "com/example/widemargin/widemargin/Arguments", name := "require", desc := "(ZLjava/lang/String;D)V" } : Jvm.MethodName) prog_5_method_2_code (4 : Nat) (Option.none : Option Jvm.ClassFile.FieldType), Jvm.Cond.code ({ cls := "java/lang/Double", name := "isFinite", desc := "(D)Z" } : Jvm.MethodName) jdk_117_method_8_code (2 : Nat) (Option.some Jvm.ClassFile.FieldType.boolean), Jvm.Cond.code ({ cls := "java/lang/Math", name := "abs", desc := "(D)D" } : Jvm.MethodName) jdk_29_method_64_code (2 : Nat) (Option.some Jvm.ClassFile.FieldType.double), Jvm.Cond.code ({ cls := "com/example/widemargin/widemargin/PredictionError", name := "alongTrackVariance", desc := "(D)D" } : Jvm.MethodName) prog_33_method_2_code (5 : Nat) (Option.some Jvm.ClassFile.FieldType.double), Jvm.Cond.code ({ cls := "java/lang/Math", name := "abs", desc := "(J)J" } : Jvm.MethodName) jdk_29_method_61_code (2 : Nat) (Option.some Jvm.ClassFile.FieldType.long)]
set_option maxRecDepth 65536 in
theorem codes_eq : words1.filter isCode = codes1 := rfl
theorem w_codes : ∀ c ∈ words1.filter isCode, c.before args0 about1 = true := by
  rw [codes_eq]
  intro c hc
  simp only [codes1, List.mem_cons, List.not_mem_nil, or_false] at hc
  rcases hc with rfl | rfl | rfl | rfl | rfl | rfl | rfl | rfl | rfl
  · exact w_c0
  · exact w_c1
  · exact w_c2
  · exact w_c3
  · exact w_c4
  · exact w_c5
  · exact w_c6
  · exact w_c7
  · exact w_c8
set_option maxRecDepth 65536 in
theorem w_t1 : (words1.take 24).all (fun c => isCode c || c.before args0 about1) = true := by decide +kernel
set_option maxRecDepth 65536 in
theorem w_t2 : ((words1.drop 24).take 24).all (fun c => isCode c || c.before args0 about1) = true := by decide +kernel
set_option maxRecDepth 65536 in
theorem w_t3 : ((words1.drop 24).drop 24).all (fun c => isCode c || c.before args0 about1) = true := by decide +kernel
theorem w_tables : (allAtoms (Jvm.Cond.code x code maxLocals ret :: tables_1)).before args0 about1 = true := by
  rw [allAtoms_all]
  show words1.all (fun c => c.before args0 about1) = true
  refine all_split ?_ w_codes
  rw [← List.take_append_drop 24 words1, List.all_append, w_t1, ← List.take_append_drop 24 (words1.drop 24), List.all_append, w_t2, w_t3]
  rfl
set_option maxRecDepth 65536 in
theorem w_case : (Jvm.Cond.and given_1 narrow_1).before args0 about1 = true := by decide +kernel
theorem w_applies : (headSpec (Jvm.Cond.code x code maxLocals ret :: tables_1) room_1).applies x e0.platform about1 = true :=
  (Spec.applies_iff w_frames).mpr ⟨w_running, w_runnable, w_alone, w_named, w_hears, w_ripe, w_room, w_tables⟩
theorem atStart : AtStart classFile x code maxLocals ret World_1 tables_1 room_1 Calls_1 rest_1 Pre_1 launch0 p0 e0 about1 theMethod args0 below0 :=
  ⟨lists_1, trivial, launch0.admits_env _ _ _, launch0.least_env, fairChoices_fair.cas, fairChoices_fair.clock, w_frames, w_args, w_heap, w_applies, trivial, trivial, w_case⟩
end start1
theorem witness_1 : WitnessClaimed_1 := ⟨start1.p0, start1.e0, start1.about1, start1.theMethod, start1.args0, start1.below0, start1.atStart⟩
end Jvm.Pilot.@@N@@
