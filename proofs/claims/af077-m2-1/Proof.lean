import JvmDerived
import JvmDerived.Pilot.@@N@@Statement
import JvmDerived.Pilot.@@N@@Code
set_option linter.unusedVariables false
set_option linter.unusedSimpArgs false
@@BLOCK:NumsL.lean.txt@@
namespace Jvm.RoadKit
open Sem ClassFile Op Lib Jvm.Stand Jvm.Free Jvm.LawKit
section Go
variable {p : Program} {l : Launch} {e : Env} {R : Room} {s : State} {m : MethodId} {args : Array Value} {below : List Frame} {meth : Method} {c : Code} {T : State} {locs : List Loc} {cells slots : Nat} {Z : State} {a0 : Array Value} {h : Heap}
/-- the run from U comes to its return, and leaves what Qv says -/
def Go (p : Program) (e : Env) (below : List Frame) (s : State) (R : Room) (Qv : Option Value → Heap → List Loc → Prop) (U : State) : Prop :=
  ∃ s₂ o, Steps p.tables e below U s₂ ∧ s₂.status = .running ∧ Ended s₂ below o ∧ ∃ v L, o = .returned v ∧ Qv v s₂.heap L ∧ FrameEnd s o s₂ L R.cells R.slots
variable {Qv : Option Value → Heap → List Loc → Prop} {U V : State}
theorem Go.st (h : ∀ t, Steps p.tables e below U t → Steps p.tables e below V t) (k : Go p e below s R Qv U) : Go p e below s R Qv V := by
  obtain ⟨t, o, h1, r⟩ := k
  exact ⟨t, o, h t h1, r⟩
theorem Go.ret (X : Stand p l e R s m args below meth c T locs cells slots) (hlk : meth.locks = false) {v : Option Value} (hv : meth.sig.returnType = none → v = none) (hc : cells ≤ R.cells) (hs : slots ≤ R.slots) (hq : Qv v T.heap locs)
    (st : ∀ fs, (∀ (f : JFrame) (acts : List Action), f.method = m → f.locked = none → f.entered = [] → (doReturn e (T.setTop f) acts v).1 = T.setFrames fs) → Steps p.tables e below V (T.setFrames fs)) : Go p e below s R Qv V := by
  obtain ⟨fs, hr, hrun, hended, hW, hsame⟩ := X.leave (v := v) hv hlk
  exact ⟨_, _, st fs hr, hrun, hended, _, _, rfl, hq, ⟨_, rfl⟩, hW, hsame.mono hc hs⟩
theorem Go.retD (X : Stand p l e R s m args below meth c T locs cells slots) (hx : p.tables.exec = Jvm.exec) (hlk : meth.locks = false) (hret : meth.sig.returnType = some .double) {pc : Nat} {Ls : Array Slot} {z : UInt64} {rest : List Value} (hd : decode c.code pc = .ok (.dreturn, 1)) (hc : cells ≤ R.cells) (hs : slots ≤ R.slots)
    (hq : Qv (some (.double z)) T.heap locs) : Go p e below s R Qv (T.setTop (mkF m pc Ls (.double z :: rest))) :=
  Go.ret X hlk (v := some (.double z)) (fun q => by rw [hret] at q; cases q) hc hs hq fun fs hr => retOut X hx hret rfl (Or.inr (Or.inr (Or.inl ⟨rfl, rfl, _, rfl⟩))) hd hr
theorem Go.retJ (X : Stand p l e R s m args below meth c T locs cells slots) (hx : p.tables.exec = Jvm.exec) (hlk : meth.locks = false) (hret : meth.sig.returnType = some .long) {pc : Nat} {Ls : Array Slot} {z : Int64} {rest : List Value} (hd : decode c.code pc = .ok (.lreturn, 1)) (hc : cells ≤ R.cells) (hs : slots ≤ R.slots)
    (hq : Qv (some (.long z)) T.heap locs) : Go p e below s R Qv (T.setTop (mkF m pc Ls (.long z :: rest))) :=
  Go.ret X hlk (v := some (.long z)) (fun q => by rw [hret] at q; cases q) hc hs hq fun fs hr => retOut X hx hret rfl (Or.inr (Or.inl ⟨rfl, rfl, _, rfl⟩)) hd hr
theorem Go.retI (X : Stand p l e R s m args below meth c T locs cells slots) (hx : p.tables.exec = Jvm.exec) (hlk : meth.locks = false) (hret : meth.sig.returnType = some .int) {pc : Nat} {Ls : Array Slot} {z : Int32} {rest : List Value} (hd : decode c.code pc = .ok (.ireturn, 1)) (hc : cells ≤ R.cells) (hs : slots ≤ R.slots)
    (hq : Qv (some (.int z)) T.heap locs) : Go p e below s R Qv (T.setTop (mkF m pc Ls (.int z :: rest))) :=
  Go.ret X hlk (v := some (.int z)) (fun q => by rw [hret] at q; cases q) hc hs hq fun fs hr => retOut X hx hret rfl (Or.inl ⟨rfl, Or.inl rfl, _, rfl⟩) hd hr
theorem Go.retZ (X : Stand p l e R s m args below meth c T locs cells slots) (hx : p.tables.exec = Jvm.exec) (hlk : meth.locks = false) (hret : meth.sig.returnType = some .boolean) {pc : Nat} {Ls : Array Slot} {z : Int32} {rest : List Value} (hd : decode c.code pc = .ok (.ireturn, 1)) (hc : cells ≤ R.cells) (hs : slots ≤ R.slots)
    (hq : Qv (some (.int (nar .boolean z))) T.heap locs) : Go p e below s R Qv (T.setTop (mkF m pc Ls (.int z :: rest))) :=
  Go.ret X hlk (v := some (.int (nar .boolean z))) (fun q => by rw [hret] at q; cases q) hc hs hq fun fs hr => retN X hx hret (Or.inl rfl) hd hr
theorem Go.retV (X : Stand p l e R s m args below meth c T locs cells slots) (hx : p.tables.exec = Jvm.exec) (hlk : meth.locks = false) (hret : meth.sig.returnType = none) {pc : Nat} {Ls : Array Slot} {st : List Value} (hd : decode c.code pc = .ok (.return_, 1)) (hc : cells ≤ R.cells) (hs : slots ≤ R.slots)
    (hq : Qv none T.heap locs) : Go p e below s R Qv (T.setTop (mkF m pc Ls [])) :=
  Go.ret X hlk (v := none) (fun _ => rfl) hc hs hq fun fs hr => X.returnOut hx hret hd hr
theorem Go.callS (X : Stand p l e R s m args below meth c T locs cells slots) (hx : p.tables.exec = Jvm.exec) (hZ : Z.Warmed39 s.vm) {own : String} {index : Nat} {y : MethodName} {bytes : ByteArray} {maxL : Nat} {ret : Option FieldType} (hown : s.vm.findClass own = some m.cls)
    (w1 : (Cond.methodLink own index y).before a0 Z = true) (w2 : (Cond.static y).before a0 Z = true) (w3 : (Cond.initialized y.cls).before a0 Z = true) (w4 : (Cond.code y bytes maxL ret).before a0 Z = true) (hy : y.cls ≠ "java/lang/invoke/MethodHandle" ∧ y.cls ≠ "java/lang/invoke/VarHandle")
    {rm : Room} {as' : Array Value} {Q : Option Value → Heap → List Loc → Prop}
    (hM : MetFree l y (head1 [Cond.code y bytes maxL ret] rm) (fun a U => a = as' ∧ Z.Warmed39 U.vm ∧ U.heap = h) (fun _ _ _ _ _ => True) (fun _ U o U' => ∃ v L, o = .returned v ∧ Q v U'.heap L ∧ FrameEnd U o U' L rm.cells rm.slots))
    (eT : T.heap = h) (W : Nat) (hf : rm.frames + 1 ≤ R.frames) (hl : W + (maxL + 11) + rm.locals ≤ R.locals) {g : JFrame} (hg : g.method = m) (hsize : g.locals.size = c.maxLocals) (argsL rest : List Value) (ha : as' = argsL.toArray)
    (hlen : ∀ sig, parseMethodDescriptor y.desc = some sig → argsL.length = sig.parameters.length) (hst : g.stack = argsL.reverse ++ rest) (hW : 2 * g.monitorRoom + (rest.map fun v => v.category).sum ≤ W) (hd : decode c.code g.pc = .ok (.invokestatic index, 3)) (hc : cells + rm.cells ≤ R.cells) (hs : slots + rm.slots ≤ R.slots)
    (k : ∀ v T' L, Q v T'.heap L → Stand p l e R s m args below meth c T' (locs ++ L) (cells + rm.cells) (slots + rm.slots) → Go p e below s R Qv (T'.setTop { g with pc := g.pc + 3, stack := v.toList ++ rest })) : Go p e below s R Qv (T.setTop g) := by
  subst ha
  obtain ⟨v, vm1, ⟨T', L', c', n'⟩, -, X', ⟨L, hQ, l1, y1, z1⟩, st⟩ := Jvm.LawKit.callS X hx hown (mvT hZ w1) (mvT hZ w2) (mvT hZ w3) (mvT hZ w4) hy (backOf (W := W) hM hZ w4 w3 hf hl) hg hsize (argsL := argsL) (rest := rest) hlen hst hW hd (fun _ _ => ⟨rfl, eT, hc, hs⟩)
  dsimp only [Pt.U, Pt.locs, Pt.cells, Pt.slots] at X' l1 y1 z1 st hQ
  subst l1 y1 z1
  exact Go.st st (k v T' L hQ X')
theorem Go.callI (X : Stand p l e R s m args below meth c T locs cells slots) (hx : p.tables.exec = Jvm.exec) (hZ : Z.Warmed39 s.vm) {own : String} {index : Nat} {y : MethodName} {bytes : ByteArray} {maxL : Nat} (hown : s.vm.findClass own = some m.cls) (hy1 : y.name = "<init>")
    (w1 : (Cond.methodLink own index y).before a0 Z = true) (w2 : (Cond.instanceMethod y).before a0 Z = true) (w3 : (Cond.initialized y.cls).before a0 Z = true) (w4 : (Cond.code y bytes maxL none).before a0 Z = true) (hy : y.cls ≠ "java/lang/invoke/MethodHandle" ∧ y.cls ≠ "java/lang/invoke/VarHandle")
    {rm : Room} {as' : Array Value} {Q : Option Value → Heap → List Loc → Prop}
    (hM : MetFree l y (head1 [Cond.code y bytes maxL none] rm) (fun a U => a = as' ∧ Z.Warmed39 U.vm ∧ U.heap = h) (fun _ _ _ _ _ => True) (fun _ U o U' => ∃ v L, o = .returned v ∧ Q v U'.heap L ∧ FrameEnd U o U' L rm.cells rm.slots))
    (eT : T.heap = h) (W : Nat) (hf : rm.frames + 1 ≤ R.frames) (hl : W + (maxL + 11) + rm.locals ≤ R.locals) {g : JFrame} (hg : g.method = m) (hsize : g.locals.size = c.maxLocals) (a : Addr) (argsL rest : List Value) (ha : as' = (.ref a :: argsL).toArray)
    (hlen : ∀ sig, parseMethodDescriptor y.desc = some sig → argsL.length = sig.parameters.length) (hst : g.stack = argsL.reverse ++ .ref a :: rest) (hW : 2 * g.monitorRoom + (rest.map fun v => v.category).sum ≤ W) (hd : decode c.code g.pc = .ok (.invokespecial index, 3)) (hc : cells + rm.cells ≤ R.cells) (hs : slots + rm.slots ≤ R.slots)
    (k : ∀ v T' L, Q v T'.heap L → Stand p l e R s m args below meth c T' (locs ++ L) (cells + rm.cells) (slots + rm.slots) → Go p e below s R Qv (T'.setTop { g with pc := g.pc + 3, stack := v.toList ++ rest })) : Go p e below s R Qv (T.setTop g) := by
  subst ha
  obtain ⟨v, vm1, ⟨T', L', c', n'⟩, -, X', ⟨L, hQ, l1, y1, z1⟩, st⟩ := X.specialBack hx hy1 hown (mvT hZ w1) (mvT hZ w2) (mvT hZ w4) hy (backOf (W := W) hM hZ w4 w3 hf hl) hg hsize (Steps.refl _) (a := a) (argsL := argsL) (rest := rest) hlen hst hW hd (fun _ _ => ⟨rfl, eT, hc, hs⟩)
  dsimp only [Pt.U, Pt.locs, Pt.cells, Pt.slots] at X' l1 y1 z1 st hQ
  subst l1 y1 z1
  exact Go.st (fun t k => st.trans k) (k v T' L hQ X')
theorem Go.callV (X : Stand p l e R s m args below meth c T locs cells slots) (hx : p.tables.exec = Jvm.exec) (hZ : Z.Warmed39 s.vm) {own C : String} {index : Nat} {y : MethodName} {bytes : ByteArray} {maxL : Nat} {ret : Option FieldType} (hown : s.vm.findClass own = some m.cls)
    (w1 : (Cond.methodLink own index y).before a0 Z = true) (w2 : (Cond.declares y).before a0 Z = true) (w5 : (Cond.selects C y y).before a0 Z = true) (w6 : (Cond.instanceMethod y).before a0 Z = true) (w3 : (Cond.initialized y.cls).before a0 Z = true) (w4 : (Cond.code y bytes maxL ret).before a0 Z = true) (hy : y.cls ≠ "java/lang/invoke/MethodHandle" ∧ y.cls ≠ "java/lang/invoke/VarHandle")
    {rm : Room} {as' : Array Value} {Q : Option Value → Heap → List Loc → Prop}
    (hM : MetFree l y (head1 [Cond.code y bytes maxL ret] rm) (fun a U => a = as' ∧ Z.Warmed39 U.vm ∧ U.heap = h) (fun _ _ _ _ _ => True) (fun _ U o U' => ∃ v L, o = .returned v ∧ Q v U'.heap L ∧ FrameEnd U o U' L rm.cells rm.slots))
    (eT : T.heap = h) (a : Addr) (E : Exa Z h a C) (W : Nat) (hf : rm.frames + 1 ≤ R.frames) (hl : W + (maxL + 11) + rm.locals ≤ R.locals) {g : JFrame} (hg : g.method = m) (hsize : g.locals.size = c.maxLocals) (argsL rest : List Value) (ha : as' = (.ref a :: argsL).toArray)
    (hlen : ∀ sig, parseMethodDescriptor y.desc = some sig → argsL.length = sig.parameters.length) (hst : g.stack = argsL.reverse ++ .ref a :: rest) (hW : 2 * g.monitorRoom + (rest.map fun v => v.category).sum ≤ W) (hd : decode c.code g.pc = .ok (.invokevirtual index, 3)) (hc : cells + rm.cells ≤ R.cells) (hs : slots + rm.slots ≤ R.slots)
    (k : ∀ v T' L, Q v T'.heap L → Stand p l e R s m args below meth c T' (locs ++ L) (cells + rm.cells) (slots + rm.slots) → Go p e below s R Qv (T'.setTop { g with pc := g.pc + 3, stack := v.toList ++ rest })) : Go p e below s R Qv (T.setTop g) := by
  subst ha
  obtain ⟨cB, kB, q1, q2, q3⟩ := isOf hZ eT E
  obtain ⟨v, vm1, ⟨T', L', c', n'⟩, -, X', ⟨L, hQ, l1, y1, z1⟩, st⟩ := X.virtualBack hx hown (mvT hZ w1) (mvT hZ w2) (notFace_of_selects (args := #[]) (mvT hZ w5)) (mvT hZ w5) (mvT hZ w6) hy (backOf (W := W) hM hZ w4 w3 hf hl) q1 q3 hg hsize (Steps.refl _) (argsL := argsL) (rest := rest) hlen hst hW hd (fun _ _ => ⟨rfl, eT, hc, hs⟩)
  dsimp only [Pt.U, Pt.locs, Pt.cells, Pt.slots] at X' l1 y1 z1 st hQ
  subst l1 y1 z1
  exact Go.st (fun t k => st.trans k) (k v T' L hQ X')
/-- a body's contract, by its walk -/
theorem Go.met {y : MethodName} {bytes : ByteArray} {maxL : Nat} {ret : Option FieldType} {ws : List Cond} {rm : Room} {as' : Array Value} {Q : Option Value → Heap → List Loc → Prop} (hn : plainFor y = true)
    (body : ∀ (p : Program) (e : Env) (s : State) (m : MethodId) (below : List Frame) (meth : Method) (c : Code) (s₁ : State), p.tables.exec = Jvm.exec → c.code = bytes → c.maxLocals = maxL → s.vm.findClass y.cls = some m.cls → meth.name = y.name → meth.sig.returnType = ret → meth.locks = false → Z.Warmed39 s.vm → s₁.heap = h →
      Stand p l e rm s m as' below meth c s₁ [] 0 0 → Go p e below s rm Q (s₁.setTop (entryFrame m as' maxL))) :
    MetFree l y (head1 (Cond.code y bytes maxL ret :: ws) rm) (fun a U => a = as' ∧ Z.Warmed39 U.vm ∧ U.heap = h) (fun _ _ _ _ _ => True) (fun _ U o U' => ∃ v L, o = .returned v ∧ Q v U'.heap L ∧ FrameEnd U o U' L rm.cells rm.slots) := by
  refine MetFree.of_bodySF hn hisR ?_
  intro p e s m args below meth c s₁ Bd hml hP hK
  obtain ⟨rfl, hZ, hh⟩ := hP
  exact body p e s m below meth c s₁ Bd.exec Bd.bytes hml (findClass_of_methodNamed Bd.named) (name_of_methodNamed Bd.named Bd.method).1 Bd.returns Bd.notSynchronized hZ (by rw [← hh, Bd.state]; rfl) (Stand.of_body Bd)
theorem Keep.size_le {h0 h : Heap} {ws : List Addr} (K : Keep h0 h ws) : h0.size ≤ h.size := K.1
theorem Go.cast {g g' : JFrame} (q : g = g') (k : Go p e below s R Qv (T.setTop g')) : Go p e below s R Qv (T.setTop g) := q ▸ k
end Go
end Jvm.RoadKit
namespace Jvm.RoadKit
open Sem ClassFile Op Lib Jvm.Stand Jvm.Free Jvm.LawKit
section GoArr
variable {p : Program} {l : Launch} {e : Env} {R : Room} {s : State} {m : MethodId} {args : Array Value} {below : List Frame} {meth : Method} {c : Code} {T : State} {locs : List Loc} {cells slots : Nat} {Z : State} {a0 : Array Value} {h : Heap} {Qv : Option Value → Heap → List Loc → Prop} {a : Addr} {k : ClassId} {ty : FieldType} {z j : Int32} {vs : List Value} {dv v : Value}
/-- an array's length -/
theorem Go.alen (X : Stand p l e R s m args below meth c T locs cells slots) (hx : p.tables.exec = Jvm.exec) (hZ : Z.Warmed39 s.vm) (eT : T.heap = h) (F : Arv Z h a k ty z vs dv) {g : JFrame} (hg : g.method = m) {rest : List Value} (hs : g.stack = .ref a :: rest) (hd : decode c.code g.pc = .ok (.arraylength, 1))
    (kk : Go p e below s R Qv (T.setTop { g with pc := g.pc + 1, stack := .int z :: rest })) : Go p e below s R Qv (T.setTop g) := by
  obtain ⟨cl, A, q1, S, q3, H, G⟩ := F
  refine Go.st (fun t k => X.arraylength hx (cell := cl) (by rw [eT]; exact A.1) (State.isArrayOf_alike hZ.alike A.2.1) hg hs hd t k) ?_
  rw [len_of S q3]; exact kk
theorem Go.dald (X : Stand p l e R s m args below meth c T locs cells slots) (hx : p.tables.exec = Jvm.exec) (hZ : Z.Warmed39 s.vm) (eT : T.heap = h) (F : Arv Z h a k .double z vs dv) (q : ¬ j < 0 ∧ j < z) (hv : vs.getD j.toNatClampNeg dv = v) {g : JFrame} (hg : g.method = m) {rest : List Value} (hs : g.stack = .int j :: .ref a :: rest) (hd : decode c.code g.pc = .ok (.daload, 1))
    (kk : Go p e below s R Qv (T.setTop { g with pc := g.pc + 1, stack := v :: rest })) : Go p e below s R Qv (T.setTop g) := by
  obtain ⟨cl, A, q1, S, q3, H, G⟩ := F
  have hin := inb_of S q
  refine Go.st (fun t k => X.daload hx (cell := cl) (by rw [eT]; exact A.1) (State.isArrayOf_alike hZ.alike A.2.1) A.2.2 hin (by rw [H _ (Nat.lt_of_not_le fun r => hin (Or.inr r)), hv]) hg hs hd t k) ?_
  exact kk
theorem Go.iald (X : Stand p l e R s m args below meth c T locs cells slots) (hx : p.tables.exec = Jvm.exec) (hZ : Z.Warmed39 s.vm) (eT : T.heap = h) (F : Arv Z h a k .int z vs dv) (q : ¬ j < 0 ∧ j < z) (hv : vs.getD j.toNatClampNeg dv = v) {g : JFrame} (hg : g.method = m) {rest : List Value} (hs : g.stack = .int j :: .ref a :: rest) (hd : decode c.code g.pc = .ok (.iaload, 1))
    (kk : Go p e below s R Qv (T.setTop { g with pc := g.pc + 1, stack := v :: rest })) : Go p e below s R Qv (T.setTop g) := by
  obtain ⟨cl, A, q1, S, q3, H, G⟩ := F
  have hin := inb_of S q
  refine Go.st (fun t k => X.iaload hx (cell := cl) (by rw [eT]; exact A.1) (State.isArrayOf_alike hZ.alike A.2.1) A.2.2 hin (by rw [H _ (Nat.lt_of_not_le fun r => hin (Or.inr r)), hv]) hg hs hd t k) ?_
  exact kk
end GoArr
end Jvm.RoadKit
namespace Jvm.OwnFl
open Jvm Jvm.FP Jvm.FP.Core Jvm.Free.Fl Op
/-- a double as a whole number of the least doubles -/
abbrev zv (a : UInt64) : Int := zval b64 (val64 a)
theorem zv_def (a : UInt64) : zv a = zval b64 (val64 a) := rfl
theorem nn_int {i : Int} {a : UInt64} (h : DInt i a) : NoNaN64 a := val64_no.mpr (DInt_ne_nan h)
theorem nn_fin {a : UInt64} (h : DFin a) : NoNaN64 a := val64_no.mpr h.ne_nan
theorem fin_int {i : Int} {a : UInt64} (h : DInt i a) : DFin a := by
  unfold DInt at h
  cases hv : val64 a with
  | nan => rw [hv] at h; exact h.elim
  | inf s => rw [hv] at h; exact h.elim
  | fin s c q => exact ⟨s, c, q, hv⟩
/-! what a comparison pushes -/
theorem cv_lt {a b : UInt64} (ha : NoNaN64 a) (hb : NoNaN64 b) (h : zv a < zv b) (o : ClassFile.CmpOp) : cmpValue (FP.dcmp a b) o = -1 := by
  rw [show FP.dcmp a b = some .lt by
    show Core.dcmp a b = _
    rw [dcmp_zval (val64_no.mp ha) (val64_no.mp hb)]; exact congrArg some ((compare_lt_iff _ _).mpr h)]
  cases o <;> rfl
theorem cv_eq {a b : UInt64} (ha : NoNaN64 a) (hb : NoNaN64 b) (h : zv a = zv b) (o : ClassFile.CmpOp) : cmpValue (FP.dcmp a b) o = 0 := by
  rw [show FP.dcmp a b = some .eq by
    show Core.dcmp a b = _
    rw [dcmp_zval (val64_no.mp ha) (val64_no.mp hb)]; exact congrArg some ((compare_eq_iff _ _).mpr h)]
  cases o <;> rfl
theorem cv_gt {a b : UInt64} (ha : NoNaN64 a) (hb : NoNaN64 b) (h : zv b < zv a) (o : ClassFile.CmpOp) : cmpValue (FP.dcmp a b) o = 1 := by
  rw [show FP.dcmp a b = some .gt by
    show Core.dcmp a b = _
    rw [dcmp_zval (val64_no.mp ha) (val64_no.mp hb)]; exact congrArg some ((compare_gt_iff _ _).mpr h)]
  cases o <;> rfl
theorem cv_ge {a b : UInt64} (ha : NoNaN64 a) (hb : NoNaN64 b) (h : zv b ≤ zv a) (o : ClassFile.CmpOp) : ¬ (cmpValue (FP.dcmp a b) o < 0) := by
  rcases Int.lt_or_eq_of_le h with h | h
  · rw [cv_gt ha hb h o]; decide
  · rw [cv_eq ha hb h.symm o]; decide
theorem cv_le {a b : UInt64} (ha : NoNaN64 a) (hb : NoNaN64 b) (h : zv a ≤ zv b) (o : ClassFile.CmpOp) : ¬ (0 < cmpValue (FP.dcmp a b) o) := by
  rcases Int.lt_or_eq_of_le h with h | h
  · rw [cv_lt ha hb h o]; decide
  · rw [cv_eq ha hb h o]; decide
theorem cv_lt' {a b : UInt64} (ha : NoNaN64 a) (hb : NoNaN64 b) (h : zv a < zv b) (o : ClassFile.CmpOp) : cmpValue (FP.dcmp a b) o < 0 := by rw [cv_lt ha hb h o]; decide
theorem cv_gt' {a b : UInt64} (ha : NoNaN64 a) (hb : NoNaN64 b) (h : zv b < zv a) (o : ClassFile.CmpOp) : 0 < cmpValue (FP.dcmp a b) o := by rw [cv_gt ha hb h o]; decide
theorem cv_ne {a b : UInt64} (ha : NoNaN64 a) (hb : NoNaN64 b) (h : zv a ≠ zv b) (o : ClassFile.CmpOp) : ¬ (cmpValue (FP.dcmp a b) o = 0) := by
  rcases Int.lt_or_gt_of_ne h with h | h
  · rw [cv_lt ha hb h o]; decide
  · rw [cv_gt ha hb h o]; decide
/-! what lcmp pushes -/
theorem lc_eq {x y : Int64} : Jvm.RoadKit.lcmpW x y = 0 ↔ x.toInt = y.toInt := by
  rw [Int64.toInt_inj]
  unfold Jvm.RoadKit.lcmpW
  by_cases h : x > y
  · rw [if_pos h]; constructor
    · intro h1; exact absurd h1 (by decide)
    · rintro rfl; exact absurd h (Int64.lt_irrefl)
  · rw [if_neg h]
    by_cases h2 : x = y
    · rw [if_pos h2]; simp [h2]
    · rw [if_neg h2]; constructor
      · intro h1; exact absurd h1 (by decide)
      · intro h1; exact absurd h1 h2
theorem lc_gt {x y : Int64} : 0 < Jvm.RoadKit.lcmpW x y ↔ y.toInt < x.toInt := by
  rw [← Int64.lt_iff_toInt_lt]
  unfold Jvm.RoadKit.lcmpW
  by_cases h : x > y
  · rw [if_pos h]; exact ⟨fun _ => h, fun _ => by decide⟩
  · rw [if_neg h]
    by_cases h2 : x = y
    · rw [if_pos h2]; exact ⟨fun h1 => absurd h1 (by decide), fun h1 => absurd h1 h⟩
    · rw [if_neg h2]; exact ⟨fun h1 => absurd h1 (by decide), fun h1 => absurd h1 h⟩
theorem lc_lt {x y : Int64} : Jvm.RoadKit.lcmpW x y < 0 ↔ x.toInt < y.toInt := by
  by_cases h : x > y
  · have h3 := Int64.lt_iff_toInt_lt.mp h
    unfold Jvm.RoadKit.lcmpW
    rw [if_pos h]; exact ⟨fun h1 => absurd h1 (by decide), fun h1 => by omega⟩
  · have h3 : ¬ (y.toInt < x.toInt) := fun q => h (Int64.lt_iff_toInt_lt.mpr q)
    unfold Jvm.RoadKit.lcmpW
    rw [if_neg h]
    by_cases h2 : x = y
    · rw [if_pos h2]; subst h2; exact ⟨fun h1 => absurd h1 (by decide), fun h1 => by omega⟩
    · rw [if_neg h2]
      have h4 : x.toInt ≠ y.toInt := fun q => h2 (Int64.toInt_inj.mp q)
      exact ⟨fun _ => by omega, fun _ => by decide⟩
/-! whole numbers -/
theorem zv_int {i : Int} {a : UInt64} (h : DInt i a) : zv a = i * (one64 : Int) := DInt_zval h
theorem one_pos : (0 : Int) < (one64 : Int) := Int.ofNat_lt.mpr one64_pos
theorem cvi_eq {i j : Int} {a b : UInt64} (ha : DInt i a) (hb : DInt j b) (h : i = j) (o : ClassFile.CmpOp) : cmpValue (FP.dcmp a b) o = 0 :=
  cv_eq (nn_int ha) (nn_int hb) (by rw [zv_int ha, zv_int hb, h]) o
theorem cvi_lt {i j : Int} {a b : UInt64} (ha : DInt i a) (hb : DInt j b) (h : i < j) (o : ClassFile.CmpOp) : cmpValue (FP.dcmp a b) o = -1 :=
  cv_lt (nn_int ha) (nn_int hb) (by rw [zv_int ha, zv_int hb]; exact Int.mul_lt_mul_of_pos_right h one_pos) o
theorem cvi_gt {i j : Int} {a b : UInt64} (ha : DInt i a) (hb : DInt j b) (h : j < i) (o : ClassFile.CmpOp) : cmpValue (FP.dcmp a b) o = 1 :=
  cv_gt (nn_int ha) (nn_int hb) (by rw [zv_int ha, zv_int hb]; exact Int.mul_lt_mul_of_pos_right h one_pos) o
theorem zint : DInt 0 (0 : UInt64) := by unfold DInt; rw [val64_zero]; show signed false (0 * _) = 0 * _; simp [signed]
theorem l2dI {x : Int64} (h1 : -9007199254740992 ≤ x.toInt) (h2 : x.toInt ≤ 9007199254740992) : DInt x.toInt (FP.l2d x) := l2d_int (by omega)
theorem i2dI (x : Int32) : DInt x.toInt (FP.i2d x) := i2d_int x
theorem mulI {i j : Int} {a b : UInt64} (ha : DInt i a) (hb : DInt j b) (h : (i * j).natAbs ≤ 9007199254740992) : DInt (i * j) (FP.dmul a b) := dmul_int ha hb h
theorem addI {i j : Int} {a b : UInt64} (ha : DInt i a) (hb : DInt j b) (h : (i + j).natAbs ≤ 9007199254740992) : DInt (i + j) (FP.dadd a b) := dadd_int ha hb h
theorem subI {i j : Int} {a b : UInt64} (ha : DInt i a) (hb : DInt j b) (h : (i - j).natAbs ≤ 9007199254740992) : DInt (i - j) (FP.dsub a b) := dsub_int ha hb h
theorem absMul {i j : Int} {A B : Nat} (h1 : i.natAbs ≤ A) (h2 : j.natAbs ≤ B) : (i * j).natAbs ≤ A * B := by rw [Int.natAbs_mul]; exact Nat.mul_le_mul h1 h2
end Jvm.OwnFl
namespace Jvm.Pilot.@@N@@
open Jvm Jvm.ClassFile Sem Op Lib Jvm.Free Jvm.Stand Jvm.LawKit Jvm.RoadKit Bundle Jvm.Pilot.@@N@@.Jvm.D
section Own
open Jvm.OwnFl Jvm.FP.Core Jvm.Free.Fl
def own_vs : List UInt64 := [4607182418800017408, 4621819117588971520, 4636737291354636288, 4652007308841189376, 4666723172467343360, 4681608360884174848, 4696837146684686336, 4711630319722168320, 4726483295884279808, 4741671816366391296, 4756540486875873280, 4771362005757984768, 4786511204640096256, 4801453603149578240, 4816244402031689728, 4831355200913801216, 4846369599423283200, 4861130398305394688, 4876203697187506176, 4891288408196988160, 4906019910204099648, 4921056587992461136, 4936209963552724370]
def own_tab (k : Int32) : UInt64 := own_vs.getD k.toNatClampNeg 0
abbrev own_t1 (k : Int32) : UInt64 := if k &&& (1 : Int32) = (0 : Int32) then (4607182418800017408 : UInt64) else FP.dmul (4607182418800017408 : UInt64) (4621819117588971520 : UInt64)
abbrev own_t2 (k : Int32) : UInt64 := if k &&& (2 : Int32) = (0 : Int32) then own_t1 k else FP.dmul (own_t1 k) (4636737291354636288 : UInt64)
abbrev own_t3 (k : Int32) : UInt64 := if k &&& (4 : Int32) = (0 : Int32) then own_t2 k else FP.dmul (own_t2 k) (4666723172467343360 : UInt64)
abbrev own_t4 (k : Int32) : UInt64 := if k &&& (8 : Int32) = (0 : Int32) then own_t3 k else FP.dmul (own_t3 k) (4726483295884279808 : UInt64)
abbrev own_t5 (k : Int32) : UInt64 := if k &&& (16 : Int32) = (0 : Int32) then own_t4 k else FP.dmul (own_t4 k) (4846369599423283200 : UInt64)
theorem own_nan : ∀ i : Fin 23, (FP.dmul (own_t1 (Int32.ofNat i.val)) (4636737291354636288 : UInt64) &&& 0x7fffffffffffffff ≤ 0x7ff0000000000000) ∧ (FP.dmul (own_t2 (Int32.ofNat i.val)) (4666723172467343360 : UInt64) &&& 0x7fffffffffffffff ≤ 0x7ff0000000000000) ∧ (FP.dmul (own_t3 (Int32.ofNat i.val)) (4726483295884279808 : UInt64) &&& 0x7fffffffffffffff ≤ 0x7ff0000000000000) ∧ (FP.dmul (own_t4 (Int32.ofNat i.val)) (4846369599423283200 : UInt64) &&& 0x7fffffffffffffff ≤ 0x7ff0000000000000) ∧ own_tab (Int32.ofNat i.val) = own_t5 (Int32.ofNat i.val) ∧ (own_tab (Int32.ofNat i.val) &&& 0x7fffffffffffffff < 0x7ff0000000000000) ∧ (own_tab (Int32.ofNat i.val) &&& 0x7fffffffffffffff ≠ 0) := by decide +kernel
theorem own_key {k : Int32} (h1 : ¬ k < 0) (h2 : k < 23) : ∃ i : Fin 23, k = Int32.ofNat i.val := by
  rw [Int32.lt_iff_toInt_lt] at h1 h2
  have e0 : (0 : Int32).toInt = 0 := by decide
  have e1 : (23 : Int32).toInt = 23 := by decide
  refine ⟨⟨k.toInt.toNat, by omega⟩, ?_⟩
  apply Int32.toInt_inj.mp
  show _ = (Int32.ofNat k.toInt.toNat).toInt
  rw [Int32.toInt_ofNat_of_lt (by omega)]; omega
theorem own_all {k : Int32} (h1 : ¬ k < 0) (h2 : k < 23) : NoNaN64 (FP.dmul (own_t1 k) (4636737291354636288 : UInt64)) ∧ NoNaN64 (FP.dmul (own_t2 k) (4666723172467343360 : UInt64)) ∧ NoNaN64 (FP.dmul (own_t3 k) (4726483295884279808 : UInt64)) ∧ NoNaN64 (FP.dmul (own_t4 k) (4846369599423283200 : UInt64)) ∧ own_tab k = own_t5 k ∧ Fin64 (own_tab k) ∧ Nz64 (own_tab k) := by
  obtain ⟨i, rfl⟩ := own_key h1 h2
  exact own_nan i
theorem own_div (w : Int64) {k : Int32} (h1 : ¬ k < 0) (h2 : k < 23) : NoNaN64 (FP.ddiv (FP.l2d w) (own_tab k)) :=
  Jvm.Free.Fl.ddiv_out (nn_fin (Jvm.FP.Core.l2d_fin w)) (own_all h1 h2).2.2.2.2.2.1 (own_all h1 h2).2.2.2.2.2.2
theorem own_getD {k : Int32} (h1 : ¬ k < 0) (h2 : k < 23) : (own_vs.map Value.double).getD k.toNatClampNeg (.double 0) = .double (own_tab k) := by
  unfold own_tab
  generalize k.toNatClampNeg = i
  simp only [List.getD_eq_getElem?_getD, List.getElem?_map]
  cases own_vs[i]? <;> rfl
abbrev own_ex (w : Int64) (f n : Int32) : UInt64 := if (0 : Int32) < lcmpW w (9007199254740992 : Int64) then (9221120237041090560 : UInt64) else if f < (23 : Int32) then (if n = (0 : Int32) then FP.ddiv (FP.l2d w) (own_tab f) else FP.dneg (FP.ddiv (FP.l2d w) (own_tab f))) else (9221120237041090560 : UInt64)
theorem own_pos {x y : Int32} (h : (x &&& (2147483647 : Int32)) = y) : ¬ y < 0 := by
  have m1 := Jvm.Kit.i32_mask x 2147483647 (k := 31) (by decide) (by decide)
  rw [h] at m1
  rw [Int32.lt_iff_toInt_lt]
  have e0 : (0 : Int32).toInt = 0 := by decide
  omega
theorem own_rem {x y : Int32} (h : (x &&& (2147483647 : Int32)) - (x &&& (2147483647 : Int32)) / (32 : Int32) * (32 : Int32) = y) : ¬ y < 0 := by
  have m1 := Jvm.Kit.i32_mask x 2147483647 (k := 31) (by decide) (by decide)
  subst h
  generalize (x &&& (2147483647 : Int32)) = v at *
  have e0 : (0 : Int32).toInt = 0 := by decide
  have e32 : (32 : Int32).toInt = 32 := by decide
  have d1 : (v / (32 : Int32)).toInt = v.toInt.tdiv 32 := by rw [Int32.toInt_div_of_ne_right v _ (by decide), e32]
  rw [Int.tdiv_eq_ediv_of_nonneg (by omega)] at d1
  have b1 := v.toInt_lt
  have d2 : (v / (32 : Int32) * (32 : Int32)).toInt = v.toInt / 32 * 32 := by rw [Jvm.Kit.i32_mul (by rw [d1, e32]; omega) (by rw [d1, e32]; omega), d1, e32]
  rw [Int32.lt_iff_toInt_lt, Jvm.Kit.i32_sub (by rw [d2]; omega) (by rw [d2]; omega), d2, e0]; omega
theorem own_self {z : UInt64} (h : NoNaN64 z) : cmpValue (FP.dcmp z z) .l = (0 : Int32) := cv_eq h h rfl .l
theorem own_neg {z : UInt64} (h : NoNaN64 z) : NoNaN64 (FP.dneg z) := (Jvm.Free.Fl.dneg_iff z).mpr h
theorem own_len {args : Array Value} {s : State} {t : Term} {a : Addr} {cl : Cell} {ty : FieldType} {n : Int32} (h : (Cond.eq (Term.length t) (Term.int n)).value args s none s [] = some true) (ev : t.eval args s none [] s = some (.ref a)) (A : Arr s s.heap a cl ty) : cl.slots.size < 2 ^ 31 ∧ cl.slots.size.toInt32 = n := by
  have ha := Arr.fin (Vm.Alike.refl s.vm) A
  by_cases hl : cl.slots.size < 2 ^ 31
  · have q := len_f ev ha hl
    have q2 : (Term.int n).eval args s none [] s = some (.int n) := rfl
    simp only [Cond.value, q, q2] at h
    exact ⟨hl, by simpa using h⟩
  · simp [Cond.value, Term.eval, ev, ha, hl] at h
theorem own_el {args : Array Value} {s : State} {t : Term} {a : Addr} {cl : Cell} {ty : FieldType} {j : Int32} {x : Int64} (h : (Cond.eq (Term.elem t (Term.int j)) (Term.op1 Unary.bitsD (Term.long x))).value args s none s [] = some true) (ev : t.eval args s none [] s = some (.ref a)) (A : Arr s s.heap a cl ty) (i : Nat) (v : UInt64) (hj : j.toNatClampNeg = i) (hn : ¬ j < 0) (hv : x.toUInt64 = v) : cl.slots[i]? = some (.double v) := by
  have ha := Arr.fin (Vm.Alike.refl s.vm) A
  have q := elem_f (a := Term.int j) ev rfl ha hn
  subst hj hv
  have q2 : (Term.op1 Unary.bitsD (Term.long x)).eval args s none [] s = some (.double x.toUInt64) := rfl
  simp only [Cond.value, q, q2] at h
  cases hq : cl.slots[j.toNatClampNeg]? with
  | none => simp [hq] at h
  | some v =>
    cases v <;> simp [hq] at h
    rw [h]
end Own
theorem d1_0 : decode method_2_code 0 = .ok (.dconst 1, 1) := by decide +kernel
theorem d1_1 : decode method_2_code 1 = .ok (.dstore_n 1, 1) := by decide +kernel
theorem d1_2 : decode method_2_code 2 = .ok (.iload_n 0, 1) := by decide +kernel
theorem d1_3 : decode method_2_code 3 = .ok (.iconst 1, 1) := by decide +kernel
theorem d1_4 : decode method_2_code 4 = .ok (.iand, 1) := by decide +kernel
theorem d1_5 : decode method_2_code 5 = .ok (.ifCond .eq 9, 3) := by decide +kernel
theorem d1_8 : decode method_2_code 8 = .ok (.dload_n 1, 1) := by decide +kernel
theorem d1_9 : decode method_2_code 9 = .ok (.ldc2_w 7, 3) := by decide +kernel
theorem d1_12 : decode method_2_code 12 = .ok (.dmul, 1) := by decide +kernel
theorem d1_13 : decode method_2_code 13 = .ok (.dstore_n 1, 1) := by decide +kernel
theorem d1_14 : decode method_2_code 14 = .ok (.iload_n 0, 1) := by decide +kernel
theorem d1_15 : decode method_2_code 15 = .ok (.iconst 2, 1) := by decide +kernel
theorem d1_16 : decode method_2_code 16 = .ok (.iand, 1) := by decide +kernel
theorem d1_17 : decode method_2_code 17 = .ok (.ifCond .eq 9, 3) := by decide +kernel
theorem d1_20 : decode method_2_code 20 = .ok (.dload_n 1, 1) := by decide +kernel
theorem d1_21 : decode method_2_code 21 = .ok (.ldc2_w 9, 3) := by decide +kernel
theorem d1_24 : decode method_2_code 24 = .ok (.dmul, 1) := by decide +kernel
theorem d1_25 : decode method_2_code 25 = .ok (.dstore_n 1, 1) := by decide +kernel
theorem d1_26 : decode method_2_code 26 = .ok (.iload_n 0, 1) := by decide +kernel
theorem d1_27 : decode method_2_code 27 = .ok (.iconst 4, 1) := by decide +kernel
theorem d1_28 : decode method_2_code 28 = .ok (.iand, 1) := by decide +kernel
theorem d1_29 : decode method_2_code 29 = .ok (.ifCond .eq 9, 3) := by decide +kernel
theorem d1_32 : decode method_2_code 32 = .ok (.dload_n 1, 1) := by decide +kernel
theorem d1_33 : decode method_2_code 33 = .ok (.ldc2_w 11, 3) := by decide +kernel
theorem d1_36 : decode method_2_code 36 = .ok (.dmul, 1) := by decide +kernel
theorem d1_37 : decode method_2_code 37 = .ok (.dstore_n 1, 1) := by decide +kernel
theorem d1_38 : decode method_2_code 38 = .ok (.iload_n 0, 1) := by decide +kernel
theorem d1_39 : decode method_2_code 39 = .ok (.bipush 8, 2) := by decide +kernel
theorem d1_41 : decode method_2_code 41 = .ok (.iand, 1) := by decide +kernel
theorem d1_42 : decode method_2_code 42 = .ok (.ifCond .eq 9, 3) := by decide +kernel
theorem d1_45 : decode method_2_code 45 = .ok (.dload_n 1, 1) := by decide +kernel
theorem d1_46 : decode method_2_code 46 = .ok (.ldc2_w 13, 3) := by decide +kernel
theorem d1_49 : decode method_2_code 49 = .ok (.dmul, 1) := by decide +kernel
theorem d1_50 : decode method_2_code 50 = .ok (.dstore_n 1, 1) := by decide +kernel
theorem d1_51 : decode method_2_code 51 = .ok (.iload_n 0, 1) := by decide +kernel
theorem d1_52 : decode method_2_code 52 = .ok (.bipush 16, 2) := by decide +kernel
theorem d1_54 : decode method_2_code 54 = .ok (.iand, 1) := by decide +kernel
theorem d1_55 : decode method_2_code 55 = .ok (.ifCond .eq 9, 3) := by decide +kernel
theorem d1_58 : decode method_2_code 58 = .ok (.dload_n 1, 1) := by decide +kernel
theorem d1_59 : decode method_2_code 59 = .ok (.ldc2_w 15, 3) := by decide +kernel
theorem d1_62 : decode method_2_code 62 = .ok (.dmul, 1) := by decide +kernel
theorem d1_63 : decode method_2_code 63 = .ok (.dstore_n 1, 1) := by decide +kernel
theorem d1_64 : decode method_2_code 64 = .ok (.dload_n 1, 1) := by decide +kernel
theorem d1_65 : decode method_2_code 65 = .ok (.dreturn, 1) := by decide +kernel
theorem pn0 : plainName "com/example/order_hits/orderhits/text/FieldsExactDecimalPinLaw" = true := by first | (simp [plainName, overriddenIn]; done) | decide +kernel
def Q_ten (Z : State) (k : Int32) (h0 : Heap) (n0 : Nat) (v : Option Value) (h : Heap) (L : List Loc) : Prop := v = some (.double (own_t5 k)) ∧ Fr n0 L ∧ h = h0
theorem ef_ten (m : MethodId) (y0 : Int32) : entryFrame m #[(.int y0)] 3 = mkF m 0 #[.val (.int y0), .unset, .unset] [] := by first | (simp [entryFrame, mkF, argsToLocals, Value.category, maxLocals]; done) | rfl
set_option maxRecDepth 65536 in
set_option maxHeartbeats 40000000 in
theorem rm_ten (l : Launch) (Z : State) (a0 : Array Value) (hw : ∀ d ∈ tables_1, d.before a0 Z = true) (ws : List Jvm.Cond) (k : Int32) (h0 : Heap) (n0 : Nat) (Z0 : n0 ≤ h0.size) (h1 : ¬ k < (0 : Int32)) (h2 : k < (23 : Int32)) :
    MetFree l (⟨"com/example/order_hits/orderhits/text/FieldsExactDecimalPinLaw", "tenTo", "(I)D"⟩ : MethodName) (head1 (Jvm.Cond.code (⟨"com/example/order_hits/orderhits/text/FieldsExactDecimalPinLaw", "tenTo", "(I)D"⟩ : MethodName) method_2_code 3 (some .double) :: ws) ({ frames := 0, cells := 0, slots := 0, locals := 0 } : Room)) (fun aa_ U => aa_ = #[(.int k)] ∧ Z.Warmed39 U.vm ∧ U.heap = h0) (fun _ _ _ _ _ => True) (fun _ U o U' => ∃ v L, o = .returned v ∧ Q_ten Z k h0 n0 v U'.heap L ∧ FrameEnd U o U' L (({ frames := 0, cells := 0, slots := 0, locals := 0 } : Room)).cells (({ frames := 0, cells := 0, slots := 0, locals := 0 } : Room)).slots) := by
  refine Go.met (plainFor_of_name pn0) ?_
  intro p e s m below meth c s₁ hx hby hml hown hnm hret hlk hZ e0 X0
  have N0 := Fr.nil n0
  refine Go.cast (ef_ten m k) ?_
  obtain ⟨A1, A2, A3, A4, -⟩ := own_all h1 h2
  refine Go.st (U := (s₁.setTop (mkF m 1 #[.val (.int k), .unset, .unset] [(.double (4607182418800017408 : UInt64))]))) (fun t_ k_ => XS.dconst1 X0.here hx rfl (hb hby d1_0) rfl k_) ?_
  refine Go.st (U := (s₁.setTop (mkF m 2 #[.val (.int k), .val (.double (4607182418800017408 : UInt64)), .second] []))) (fun t_ k_ => XS.dstoreN X0.here hx rfl (hb hby d1_1) rfl (l' := #[.val (.int k), .val (.double (4607182418800017408 : UInt64)), .second]) rfl k_) ?_
  have J14 : Go p e below s ({ frames := 0, cells := 0, slots := 0, locals := 0 } : Room) (Q_ten Z k h0 n0) (s₁.setTop (mkF m 14 #[.val (.int k), .val (.double (own_t1 k)), .second] [])) := by
    have J26 : Go p e below s ({ frames := 0, cells := 0, slots := 0, locals := 0 } : Room) (Q_ten Z k h0 n0) (s₁.setTop (mkF m 26 #[.val (.int k), .val (.double (own_t2 k)), .second] [])) := by
      have J38 : Go p e below s ({ frames := 0, cells := 0, slots := 0, locals := 0 } : Room) (Q_ten Z k h0 n0) (s₁.setTop (mkF m 38 #[.val (.int k), .val (.double (own_t3 k)), .second] [])) := by
        have J51 : Go p e below s ({ frames := 0, cells := 0, slots := 0, locals := 0 } : Room) (Q_ten Z k h0 n0) (s₁.setTop (mkF m 51 #[.val (.int k), .val (.double (own_t4 k)), .second] [])) := by
          have J64 : Go p e below s ({ frames := 0, cells := 0, slots := 0, locals := 0 } : Room) (Q_ten Z k h0 n0) (s₁.setTop (mkF m 64 #[.val (.int k), .val (.double (own_t5 k)), .second] [])) := by
            refine Go.st (U := (s₁.setTop (mkF m 65 #[.val (.int k), .val (.double (own_t5 k)), .second] [(.double (own_t5 k))]))) (fun t_ k_ => XS.dloadN X0.here hx rfl (hb hby d1_64) rfl k_) ?_
            refine Go.retD X0 hx hlk hret (hb hby d1_65) (by decide) (by decide) ?_
            show Q_ten Z k h0 n0 _ s₁.heap _
            rw [e0]
            exact ⟨rfl, N0, rfl⟩
          refine Go.st (U := (s₁.setTop (mkF m 52 #[.val (.int k), .val (.double (own_t4 k)), .second] [(.int k)]))) (fun t_ k_ => XS.iloadN X0.here hx rfl (hb hby d1_51) rfl k_) ?_
          refine Go.st (U := (s₁.setTop (mkF m 54 #[.val (.int k), .val (.double (own_t4 k)), .second] [(.int (16 : Int32)), (.int k)]))) (fun t_ k_ => XS.bipush X0.here hx rfl (hb hby d1_52) k_) ?_
          refine Go.st (U := (s₁.setTop (mkF m 55 #[.val (.int k), .val (.double (own_t4 k)), .second] [(.int (k &&& (16 : Int32)))]))) (fun t_ k_ => XS.iand X0.here hx rfl (hb hby d1_54) rfl k_) ?_
          by_cases b5 : (k &&& (16 : Int32)) = (0 : Int32)
          · refine Go.st (U := (s₁.setTop (mkF m 64 #[.val (.int k), .val (.double (own_t4 k)), .second] []))) (fun t_ k_ => XS.ifYes X0.here hx rfl (pc0 := 55) (pc' := 64) rfl (hb hby d1_55) rfl ((if0 _ _).trans (teq b5).1) (by decide) (by decide) k_) ?_
            rw [show (own_t4 k) = own_t5 k from (if_pos b5).symm]
            exact J64
          · refine Go.st (U := (s₁.setTop (mkF m 58 #[.val (.int k), .val (.double (own_t4 k)), .second] []))) (fun t_ k_ => XS.ifNo X0.here hx rfl (hb hby d1_55) rfl ((if0 _ _).trans (feq b5).1) k_) ?_
            refine Go.st (U := (s₁.setTop (mkF m 59 #[.val (.int k), .val (.double (own_t4 k)), .second] [(.double (own_t4 k))]))) (fun t_ k_ => XS.dloadN X0.here hx rfl (hb hby d1_58) rfl k_) ?_
            refine Go.st (U := (s₁.setTop (mkF m 62 #[.val (.int k), .val (.double (own_t4 k)), .second] [(.double (4846369599423283200 : UInt64)), (.double (own_t4 k))]))) (X0.ldc2DoubleC hx hown (mvT hZ (hw _ (List.mem_of_getElem? (i := 20) rfl))) (g := (mkF m 59 #[.val (.int k), .val (.double (own_t4 k)), .second] [(.double (own_t4 k))])) rfl (hb hby d1_59)) ?_
            refine Go.st (U := (s₁.setTop (mkF m 63 #[.val (.int k), .val (.double (own_t4 k)), .second] [(.double (FP.dmul (own_t4 k) (4846369599423283200 : UInt64)))]))) (fun t_ k_ => XS.dmulS X0.here hx rfl (hb hby d1_62) rfl A4 rfl k_) ?_
            refine Go.st (U := (s₁.setTop (mkF m 64 #[.val (.int k), .val (.double (FP.dmul (own_t4 k) (4846369599423283200 : UInt64))), .second] []))) (fun t_ k_ => XS.dstoreN X0.here hx rfl (hb hby d1_63) rfl (l' := #[.val (.int k), .val (.double (FP.dmul (own_t4 k) (4846369599423283200 : UInt64))), .second]) rfl k_) ?_
            rw [show (FP.dmul (own_t4 k) (4846369599423283200 : UInt64)) = own_t5 k from (if_neg b5).symm]
            exact J64
        refine Go.st (U := (s₁.setTop (mkF m 39 #[.val (.int k), .val (.double (own_t3 k)), .second] [(.int k)]))) (fun t_ k_ => XS.iloadN X0.here hx rfl (hb hby d1_38) rfl k_) ?_
        refine Go.st (U := (s₁.setTop (mkF m 41 #[.val (.int k), .val (.double (own_t3 k)), .second] [(.int (8 : Int32)), (.int k)]))) (fun t_ k_ => XS.bipush X0.here hx rfl (hb hby d1_39) k_) ?_
        refine Go.st (U := (s₁.setTop (mkF m 42 #[.val (.int k), .val (.double (own_t3 k)), .second] [(.int (k &&& (8 : Int32)))]))) (fun t_ k_ => XS.iand X0.here hx rfl (hb hby d1_41) rfl k_) ?_
        by_cases b4 : (k &&& (8 : Int32)) = (0 : Int32)
        · refine Go.st (U := (s₁.setTop (mkF m 51 #[.val (.int k), .val (.double (own_t3 k)), .second] []))) (fun t_ k_ => XS.ifYes X0.here hx rfl (pc0 := 42) (pc' := 51) rfl (hb hby d1_42) rfl ((if0 _ _).trans (teq b4).1) (by decide) (by decide) k_) ?_
          rw [show (own_t3 k) = own_t4 k from (if_pos b4).symm]
          exact J51
        · refine Go.st (U := (s₁.setTop (mkF m 45 #[.val (.int k), .val (.double (own_t3 k)), .second] []))) (fun t_ k_ => XS.ifNo X0.here hx rfl (hb hby d1_42) rfl ((if0 _ _).trans (feq b4).1) k_) ?_
          refine Go.st (U := (s₁.setTop (mkF m 46 #[.val (.int k), .val (.double (own_t3 k)), .second] [(.double (own_t3 k))]))) (fun t_ k_ => XS.dloadN X0.here hx rfl (hb hby d1_45) rfl k_) ?_
          refine Go.st (U := (s₁.setTop (mkF m 49 #[.val (.int k), .val (.double (own_t3 k)), .second] [(.double (4726483295884279808 : UInt64)), (.double (own_t3 k))]))) (X0.ldc2DoubleC hx hown (mvT hZ (hw _ (List.mem_of_getElem? (i := 16) rfl))) (g := (mkF m 46 #[.val (.int k), .val (.double (own_t3 k)), .second] [(.double (own_t3 k))])) rfl (hb hby d1_46)) ?_
          refine Go.st (U := (s₁.setTop (mkF m 50 #[.val (.int k), .val (.double (own_t3 k)), .second] [(.double (FP.dmul (own_t3 k) (4726483295884279808 : UInt64)))]))) (fun t_ k_ => XS.dmulS X0.here hx rfl (hb hby d1_49) rfl A3 rfl k_) ?_
          refine Go.st (U := (s₁.setTop (mkF m 51 #[.val (.int k), .val (.double (FP.dmul (own_t3 k) (4726483295884279808 : UInt64))), .second] []))) (fun t_ k_ => XS.dstoreN X0.here hx rfl (hb hby d1_50) rfl (l' := #[.val (.int k), .val (.double (FP.dmul (own_t3 k) (4726483295884279808 : UInt64))), .second]) rfl k_) ?_
          rw [show (FP.dmul (own_t3 k) (4726483295884279808 : UInt64)) = own_t4 k from (if_neg b4).symm]
          exact J51
      refine Go.st (U := (s₁.setTop (mkF m 27 #[.val (.int k), .val (.double (own_t2 k)), .second] [(.int k)]))) (fun t_ k_ => XS.iloadN X0.here hx rfl (hb hby d1_26) rfl k_) ?_
      refine Go.st (U := (s₁.setTop (mkF m 28 #[.val (.int k), .val (.double (own_t2 k)), .second] [(.int (4 : Int32)), (.int k)]))) (fun t_ k_ => XS.iconst X0.here hx rfl (hb hby d1_27) k_) ?_
      refine Go.st (U := (s₁.setTop (mkF m 29 #[.val (.int k), .val (.double (own_t2 k)), .second] [(.int (k &&& (4 : Int32)))]))) (fun t_ k_ => XS.iand X0.here hx rfl (hb hby d1_28) rfl k_) ?_
      by_cases b3 : (k &&& (4 : Int32)) = (0 : Int32)
      · refine Go.st (U := (s₁.setTop (mkF m 38 #[.val (.int k), .val (.double (own_t2 k)), .second] []))) (fun t_ k_ => XS.ifYes X0.here hx rfl (pc0 := 29) (pc' := 38) rfl (hb hby d1_29) rfl ((if0 _ _).trans (teq b3).1) (by decide) (by decide) k_) ?_
        rw [show (own_t2 k) = own_t3 k from (if_pos b3).symm]
        exact J38
      · refine Go.st (U := (s₁.setTop (mkF m 32 #[.val (.int k), .val (.double (own_t2 k)), .second] []))) (fun t_ k_ => XS.ifNo X0.here hx rfl (hb hby d1_29) rfl ((if0 _ _).trans (feq b3).1) k_) ?_
        refine Go.st (U := (s₁.setTop (mkF m 33 #[.val (.int k), .val (.double (own_t2 k)), .second] [(.double (own_t2 k))]))) (fun t_ k_ => XS.dloadN X0.here hx rfl (hb hby d1_32) rfl k_) ?_
        refine Go.st (U := (s₁.setTop (mkF m 36 #[.val (.int k), .val (.double (own_t2 k)), .second] [(.double (4666723172467343360 : UInt64)), (.double (own_t2 k))]))) (X0.ldc2DoubleC hx hown (mvT hZ (hw _ (List.mem_of_getElem? (i := 22) rfl))) (g := (mkF m 33 #[.val (.int k), .val (.double (own_t2 k)), .second] [(.double (own_t2 k))])) rfl (hb hby d1_33)) ?_
        refine Go.st (U := (s₁.setTop (mkF m 37 #[.val (.int k), .val (.double (own_t2 k)), .second] [(.double (FP.dmul (own_t2 k) (4666723172467343360 : UInt64)))]))) (fun t_ k_ => XS.dmulS X0.here hx rfl (hb hby d1_36) rfl A2 rfl k_) ?_
        refine Go.st (U := (s₁.setTop (mkF m 38 #[.val (.int k), .val (.double (FP.dmul (own_t2 k) (4666723172467343360 : UInt64))), .second] []))) (fun t_ k_ => XS.dstoreN X0.here hx rfl (hb hby d1_37) rfl (l' := #[.val (.int k), .val (.double (FP.dmul (own_t2 k) (4666723172467343360 : UInt64))), .second]) rfl k_) ?_
        rw [show (FP.dmul (own_t2 k) (4666723172467343360 : UInt64)) = own_t3 k from (if_neg b3).symm]
        exact J38
    refine Go.st (U := (s₁.setTop (mkF m 15 #[.val (.int k), .val (.double (own_t1 k)), .second] [(.int k)]))) (fun t_ k_ => XS.iloadN X0.here hx rfl (hb hby d1_14) rfl k_) ?_
    refine Go.st (U := (s₁.setTop (mkF m 16 #[.val (.int k), .val (.double (own_t1 k)), .second] [(.int (2 : Int32)), (.int k)]))) (fun t_ k_ => XS.iconst X0.here hx rfl (hb hby d1_15) k_) ?_
    refine Go.st (U := (s₁.setTop (mkF m 17 #[.val (.int k), .val (.double (own_t1 k)), .second] [(.int (k &&& (2 : Int32)))]))) (fun t_ k_ => XS.iand X0.here hx rfl (hb hby d1_16) rfl k_) ?_
    by_cases b2 : (k &&& (2 : Int32)) = (0 : Int32)
    · refine Go.st (U := (s₁.setTop (mkF m 26 #[.val (.int k), .val (.double (own_t1 k)), .second] []))) (fun t_ k_ => XS.ifYes X0.here hx rfl (pc0 := 17) (pc' := 26) rfl (hb hby d1_17) rfl ((if0 _ _).trans (teq b2).1) (by decide) (by decide) k_) ?_
      rw [show (own_t1 k) = own_t2 k from (if_pos b2).symm]
      exact J26
    · refine Go.st (U := (s₁.setTop (mkF m 20 #[.val (.int k), .val (.double (own_t1 k)), .second] []))) (fun t_ k_ => XS.ifNo X0.here hx rfl (hb hby d1_17) rfl ((if0 _ _).trans (feq b2).1) k_) ?_
      refine Go.st (U := (s₁.setTop (mkF m 21 #[.val (.int k), .val (.double (own_t1 k)), .second] [(.double (own_t1 k))]))) (fun t_ k_ => XS.dloadN X0.here hx rfl (hb hby d1_20) rfl k_) ?_
      refine Go.st (U := (s₁.setTop (mkF m 24 #[.val (.int k), .val (.double (own_t1 k)), .second] [(.double (4636737291354636288 : UInt64)), (.double (own_t1 k))]))) (X0.ldc2DoubleC hx hown (mvT hZ (hw _ (List.mem_of_getElem? (i := 14) rfl))) (g := (mkF m 21 #[.val (.int k), .val (.double (own_t1 k)), .second] [(.double (own_t1 k))])) rfl (hb hby d1_21)) ?_
      refine Go.st (U := (s₁.setTop (mkF m 25 #[.val (.int k), .val (.double (own_t1 k)), .second] [(.double (FP.dmul (own_t1 k) (4636737291354636288 : UInt64)))]))) (fun t_ k_ => XS.dmulS X0.here hx rfl (hb hby d1_24) rfl A1 rfl k_) ?_
      refine Go.st (U := (s₁.setTop (mkF m 26 #[.val (.int k), .val (.double (FP.dmul (own_t1 k) (4636737291354636288 : UInt64))), .second] []))) (fun t_ k_ => XS.dstoreN X0.here hx rfl (hb hby d1_25) rfl (l' := #[.val (.int k), .val (.double (FP.dmul (own_t1 k) (4636737291354636288 : UInt64))), .second]) rfl k_) ?_
      rw [show (FP.dmul (own_t1 k) (4636737291354636288 : UInt64)) = own_t2 k from (if_neg b2).symm]
      exact J26
  refine Go.st (U := (s₁.setTop (mkF m 3 #[.val (.int k), .val (.double (4607182418800017408 : UInt64)), .second] [(.int k)]))) (fun t_ k_ => XS.iloadN X0.here hx rfl (hb hby d1_2) rfl k_) ?_
  refine Go.st (U := (s₁.setTop (mkF m 4 #[.val (.int k), .val (.double (4607182418800017408 : UInt64)), .second] [(.int (1 : Int32)), (.int k)]))) (fun t_ k_ => XS.iconst X0.here hx rfl (hb hby d1_3) k_) ?_
  refine Go.st (U := (s₁.setTop (mkF m 5 #[.val (.int k), .val (.double (4607182418800017408 : UInt64)), .second] [(.int (k &&& (1 : Int32)))]))) (fun t_ k_ => XS.iand X0.here hx rfl (hb hby d1_4) rfl k_) ?_
  by_cases b1 : (k &&& (1 : Int32)) = (0 : Int32)
  · refine Go.st (U := (s₁.setTop (mkF m 14 #[.val (.int k), .val (.double (4607182418800017408 : UInt64)), .second] []))) (fun t_ k_ => XS.ifYes X0.here hx rfl (pc0 := 5) (pc' := 14) rfl (hb hby d1_5) rfl ((if0 _ _).trans (teq b1).1) (by decide) (by decide) k_) ?_
    rw [show (4607182418800017408 : UInt64) = own_t1 k from (if_pos b1).symm]
    exact J14
  · refine Go.st (U := (s₁.setTop (mkF m 8 #[.val (.int k), .val (.double (4607182418800017408 : UInt64)), .second] []))) (fun t_ k_ => XS.ifNo X0.here hx rfl (hb hby d1_5) rfl ((if0 _ _).trans (feq b1).1) k_) ?_
    refine Go.st (U := (s₁.setTop (mkF m 9 #[.val (.int k), .val (.double (4607182418800017408 : UInt64)), .second] [(.double (4607182418800017408 : UInt64))]))) (fun t_ k_ => XS.dloadN X0.here hx rfl (hb hby d1_8) rfl k_) ?_
    refine Go.st (U := (s₁.setTop (mkF m 12 #[.val (.int k), .val (.double (4607182418800017408 : UInt64)), .second] [(.double (4621819117588971520 : UInt64)), (.double (4607182418800017408 : UInt64))]))) (X0.ldc2DoubleC hx hown (mvT hZ (hw _ (List.mem_of_getElem? (i := 18) rfl))) (g := (mkF m 9 #[.val (.int k), .val (.double (4607182418800017408 : UInt64)), .second] [(.double (4607182418800017408 : UInt64))])) rfl (hb hby d1_9)) ?_
    refine Go.st (U := (s₁.setTop (mkF m 13 #[.val (.int k), .val (.double (4607182418800017408 : UInt64)), .second] [(.double (FP.dmul (4607182418800017408 : UInt64) (4621819117588971520 : UInt64)))]))) (fun t_ k_ => XS.dmulS X0.here hx rfl (hb hby d1_12) rfl (by unfold Jvm.Free.Fl.NoNaN64; decide +kernel) rfl k_) ?_
    refine Go.st (U := (s₁.setTop (mkF m 14 #[.val (.int k), .val (.double (FP.dmul (4607182418800017408 : UInt64) (4621819117588971520 : UInt64))), .second] []))) (fun t_ k_ => XS.dstoreN X0.here hx rfl (hb hby d1_13) rfl (l' := #[.val (.int k), .val (.double (FP.dmul (4607182418800017408 : UInt64) (4621819117588971520 : UInt64))), .second]) rfl k_) ?_
    rw [show (FP.dmul (4607182418800017408 : UInt64) (4621819117588971520 : UInt64)) = own_t1 k from (if_neg b1).symm]
    exact J14
theorem d0_0 : decode prog_65_method_10_code 0 = .ok (.lload_n 0, 1) := by decide +kernel
theorem d0_1 : decode prog_65_method_10_code 1 = .ok (.ldc2_w 137, 3) := by decide +kernel
theorem d0_4 : decode prog_65_method_10_code 4 = .ok (.lcmp, 1) := by decide +kernel
theorem d0_5 : decode prog_65_method_10_code 5 = .ok (.ifCond .gt 11, 3) := by decide +kernel
theorem d0_8 : decode prog_65_method_10_code 8 = .ok (.iload_n 2, 1) := by decide +kernel
theorem d0_9 : decode prog_65_method_10_code 9 = .ok (.getstatic 145, 3) := by decide +kernel
theorem d0_12 : decode prog_65_method_10_code 12 = .ok (.arraylength, 1) := by decide +kernel
theorem d0_13 : decode prog_65_method_10_code 13 = .ok (.if_icmp .lt 7, 3) := by decide +kernel
theorem d0_16 : decode prog_65_method_10_code 16 = .ok (.ldc2_w 139, 3) := by decide +kernel
theorem d0_19 : decode prog_65_method_10_code 19 = .ok (.dreturn, 1) := by decide +kernel
theorem d0_20 : decode prog_65_method_10_code 20 = .ok (.lload_n 0, 1) := by decide +kernel
theorem d0_21 : decode prog_65_method_10_code 21 = .ok (.l2d, 1) := by decide +kernel
theorem d0_22 : decode prog_65_method_10_code 22 = .ok (.getstatic 145, 3) := by decide +kernel
theorem d0_25 : decode prog_65_method_10_code 25 = .ok (.iload_n 2, 1) := by decide +kernel
theorem d0_26 : decode prog_65_method_10_code 26 = .ok (.daload, 1) := by decide +kernel
theorem d0_27 : decode prog_65_method_10_code 27 = .ok (.ddiv, 1) := by decide +kernel
theorem d0_28 : decode prog_65_method_10_code 28 = .ok (.dstore 4, 2) := by decide +kernel
theorem d0_30 : decode prog_65_method_10_code 30 = .ok (.iload_n 3, 1) := by decide +kernel
theorem d0_31 : decode prog_65_method_10_code 31 = .ok (.ifCond .eq 9, 3) := by decide +kernel
theorem d0_34 : decode prog_65_method_10_code 34 = .ok (.dload 4, 2) := by decide +kernel
theorem d0_36 : decode prog_65_method_10_code 36 = .ok (.dneg, 1) := by decide +kernel
theorem d0_37 : decode prog_65_method_10_code 37 = .ok (.goto 5, 3) := by decide +kernel
theorem d0_40 : decode prog_65_method_10_code 40 = .ok (.dload 4, 2) := by decide +kernel
theorem d0_42 : decode prog_65_method_10_code 42 = .ok (.dreturn, 1) := by decide +kernel
theorem pn1 : plainName "com/example/order_hits/orderhits/text/Fields" = true := by first | (simp [plainName, overriddenIn]; done) | decide +kernel
def Q_exd (Z : State) (w_ : Int64) (f : Int32) (g_ : Int32) (r : Addr) (kc : ClassId) (h0 : Heap) (n0 : Nat) (v : Option Value) (h : Heap) (L : List Loc) : Prop := v = some (.double (own_ex w_ f g_)) ∧ Fr n0 L ∧ h = h0
theorem ef_exd (m : MethodId) (y0 : Int64) (y1 : Int32) (y2 : Int32) : entryFrame m #[(.long y0), (.int y1), (.int y2)] 6 = mkF m 0 #[.val (.long y0), .second, .val (.int y1), .val (.int y2), .unset, .unset] [] := by first | (simp [entryFrame, mkF, argsToLocals, Value.category, maxLocals]; done) | rfl
set_option maxRecDepth 65536 in
set_option maxHeartbeats 40000000 in
theorem rm_exd (l : Launch) (Z : State) (a0 : Array Value) (hw : ∀ d ∈ tables_1, d.before a0 Z = true) (ws : List Jvm.Cond) (w_ : Int64) (f : Int32) (g_ : Int32) (r : Addr) (kc : ClassId) (h0 : Heap) (n0 : Nat) (Z0 : n0 ≤ h0.size) (S0_EXACT_POWERS_OF_TEN : Sta Z h0 "com/example/order_hits/orderhits/text/Fields" "EXACT_POWERS_OF_TEN" "[D" (.ref r)) (V0_r : Arv Z h0 r kc .double 23 (own_vs.map Value.double) (.double 0)) (h1 : ¬ f < (0 : Int32)) :
    MetFree l (⟨"com/example/order_hits/orderhits/text/Fields", "exactDecimal", "(JIZ)D"⟩ : MethodName) (head1 (Jvm.Cond.code (⟨"com/example/order_hits/orderhits/text/Fields", "exactDecimal", "(JIZ)D"⟩ : MethodName) prog_65_method_10_code 6 (some .double) :: ws) ({ frames := 0, cells := 0, slots := 0, locals := 0 } : Room)) (fun aa_ U => aa_ = #[(.long w_), (.int f), (.int g_)] ∧ Z.Warmed39 U.vm ∧ U.heap = h0) (fun _ _ _ _ _ => True) (fun _ U o U' => ∃ v L, o = .returned v ∧ Q_exd Z w_ f g_ r kc h0 n0 v U'.heap L ∧ FrameEnd U o U' L (({ frames := 0, cells := 0, slots := 0, locals := 0 } : Room)).cells (({ frames := 0, cells := 0, slots := 0, locals := 0 } : Room)).slots) := by
  refine Go.met (plainFor_of_name pn1) ?_
  intro p e s m below meth c s₁ hx hby hml hown hnm hret hlk hZ e0 X0
  have N0 := Fr.nil n0
  refine Go.cast (ef_exd m w_ f g_) ?_
  refine Go.st (U := (s₁.setTop (mkF m 1 #[.val (.long w_), .second, .val (.int f), .val (.int g_), .unset, .unset] [(.long w_)]))) (fun t_ k_ => XS.lloadN X0.here hx rfl (hb hby d0_0) rfl k_) ?_
  refine Go.st (U := (s₁.setTop (mkF m 4 #[.val (.long w_), .second, .val (.int f), .val (.int g_), .unset, .unset] [(.long (9007199254740992 : Int64)), (.long w_)]))) (X0.ldc2Long hx hown (mvT hZ (hw _ (List.mem_of_getElem? (i := 7) rfl))) (g := (mkF m 1 #[.val (.long w_), .second, .val (.int f), .val (.int g_), .unset, .unset] [(.long w_)])) rfl (hb hby d0_1)) ?_
  refine Go.st (U := (s₁.setTop (mkF m 5 #[.val (.long w_), .second, .val (.int f), .val (.int g_), .unset, .unset] [(.int (lcmpW w_ (9007199254740992 : Int64)))]))) (fun t_ k_ => XS.lcmp X0.here hx rfl (hb hby d0_4) rfl k_) ?_
  by_cases b5 : (0 : Int32) < (lcmpW w_ (9007199254740992 : Int64))
  · refine Go.st (U := (s₁.setTop (mkF m 16 #[.val (.long w_), .second, .val (.int f), .val (.int g_), .unset, .unset] []))) (fun t_ k_ => XS.ifYes X0.here hx rfl (pc0 := 5) (pc' := 16) rfl (hb hby d0_5) rfl ((if0 _ _).trans (tlt b5).2.2.1) (by decide) (by decide) k_) ?_
    refine Go.st (U := (s₁.setTop (mkF m 19 #[.val (.long w_), .second, .val (.int f), .val (.int g_), .unset, .unset] [(.double (9221120237041090560 : UInt64))]))) (X0.ldc2DoubleC hx hown (mvT hZ (hw _ (List.mem_of_getElem? (i := 17) rfl))) (g := (mkF m 16 #[.val (.long w_), .second, .val (.int f), .val (.int g_), .unset, .unset] [])) rfl (hb hby d0_16)) ?_
    refine Go.retD X0 hx hlk hret (hb hby d0_19) (by decide) (by decide) ?_
    show Q_exd Z w_ f g_ r kc h0 n0 _ s₁.heap _
    rw [e0]
    exact ⟨(by unfold own_ex; rw [if_pos b5]), N0, rfl⟩
  · refine Go.st (U := (s₁.setTop (mkF m 8 #[.val (.long w_), .second, .val (.int f), .val (.int g_), .unset, .unset] []))) (fun t_ k_ => XS.ifNo X0.here hx rfl (hb hby d0_5) rfl ((if0 _ _).trans (flt b5).2.2.1) k_) ?_
    refine Go.st (U := (s₁.setTop (mkF m 9 #[.val (.long w_), .second, .val (.int f), .val (.int g_), .unset, .unset] [(.int f)]))) (fun t_ k_ => XS.iloadN X0.here hx rfl (hb hby d0_8) rfl k_) ?_
    obtain ⟨Ti1, Xi1, ei1, sti1⟩ := getS2 X0 hx hZ hown (host := "") (Or.inl (hw _ (List.mem_of_getElem? (i := 8) rfl))) Via.refl e0 S0_EXACT_POWERS_OF_TEN (g := (mkF m 9 #[.val (.long w_), .second, .val (.int f), .val (.int g_), .unset, .unset] [(.int f)])) rfl (hb hby d0_9)
    refine Go.st (U := (Ti1.setTop (mkF m 12 #[.val (.long w_), .second, .val (.int f), .val (.int g_), .unset, .unset] [(.ref r), (.int f)]))) sti1 ?_
    refine Go.alen Xi1 hx hZ ei1 V0_r (g := (mkF m 12 #[.val (.long w_), .second, .val (.int f), .val (.int g_), .unset, .unset] [(.ref r), (.int f)])) rfl rfl (hb hby d0_12) ?_
    show Go p e below s _ _ (Ti1.setTop (mkF m 13 #[.val (.long w_), .second, .val (.int f), .val (.int g_), .unset, .unset] [(.int 23), (.int f)]))
    by_cases b13 : f < 23
    · refine Go.st (U := (Ti1.setTop (mkF m 20 #[.val (.long w_), .second, .val (.int f), .val (.int g_), .unset, .unset] []))) (fun t_ k_ => XS.icmpYes Xi1.here hx rfl (pc0 := 13) (pc' := 20) rfl (hb hby d0_13) rfl (tlt b13).1 (by decide) (by decide) k_) ?_
      refine Go.st (U := (Ti1.setTop (mkF m 21 #[.val (.long w_), .second, .val (.int f), .val (.int g_), .unset, .unset] [(.long w_)]))) (fun t_ k_ => XS.lloadN Xi1.here hx rfl (hb hby d0_20) rfl k_) ?_
      refine Go.st (U := (Ti1.setTop (mkF m 22 #[.val (.long w_), .second, .val (.int f), .val (.int g_), .unset, .unset] [(.double (FP.l2d w_))]))) (fun t_ k_ => XS.l2dS Xi1.here hx rfl (hb hby d0_21) rfl rfl k_) ?_
      obtain ⟨Ti2, Xi2, ei2, sti2⟩ := getS2 Xi1 hx hZ hown (host := "") (Or.inl (hw _ (List.mem_of_getElem? (i := 8) rfl))) Via.refl ei1 S0_EXACT_POWERS_OF_TEN (g := (mkF m 22 #[.val (.long w_), .second, .val (.int f), .val (.int g_), .unset, .unset] [(.double (FP.l2d w_))])) rfl (hb hby d0_22)
      refine Go.st (U := (Ti2.setTop (mkF m 25 #[.val (.long w_), .second, .val (.int f), .val (.int g_), .unset, .unset] [(.ref r), (.double (FP.l2d w_))]))) sti2 ?_
      refine Go.st (U := (Ti2.setTop (mkF m 26 #[.val (.long w_), .second, .val (.int f), .val (.int g_), .unset, .unset] [(.int f), (.ref r), (.double (FP.l2d w_))]))) (fun t_ k_ => XS.iloadN Xi2.here hx rfl (hb hby d0_25) rfl k_) ?_
      refine Go.dald Xi2 hx hZ ei2 V0_r ⟨h1, b13⟩ (v := (.double (own_tab f))) (own_getD h1 b13) (g := (mkF m 26 #[.val (.long w_), .second, .val (.int f), .val (.int g_), .unset, .unset] [(.int f), (.ref r), (.double (FP.l2d w_))])) rfl rfl (hb hby d0_26) ?_
      show Go p e below s _ _ (Ti2.setTop (mkF m 27 #[.val (.long w_), .second, .val (.int f), .val (.int g_), .unset, .unset] [(.double (own_tab f)), (.double (FP.l2d w_))]))
      refine Go.st (U := (Ti2.setTop (mkF m 28 #[.val (.long w_), .second, .val (.int f), .val (.int g_), .unset, .unset] [(.double (FP.ddiv (FP.l2d w_) (own_tab f)))]))) (fun t_ k_ => XS.ddivS Xi2.here hx rfl (hb hby d0_27) rfl (own_div w_ h1 b13) rfl k_) ?_
      refine Go.st (U := (Ti2.setTop (mkF m 30 #[.val (.long w_), .second, .val (.int f), .val (.int g_), .val (.double (FP.ddiv (FP.l2d w_) (own_tab f))), .second] []))) (fun t_ k_ => XS.dstore Xi2.here hx rfl (hb hby d0_28) rfl (l' := #[.val (.long w_), .second, .val (.int f), .val (.int g_), .val (.double (FP.ddiv (FP.l2d w_) (own_tab f))), .second]) rfl k_) ?_
      refine Go.st (U := (Ti2.setTop (mkF m 31 #[.val (.long w_), .second, .val (.int f), .val (.int g_), .val (.double (FP.ddiv (FP.l2d w_) (own_tab f))), .second] [(.int g_)]))) (fun t_ k_ => XS.iloadN Xi2.here hx rfl (hb hby d0_30) rfl k_) ?_
      by_cases b31 : g_ = (0 : Int32)
      · refine Go.st (U := (Ti2.setTop (mkF m 40 #[.val (.long w_), .second, .val (.int f), .val (.int g_), .val (.double (FP.ddiv (FP.l2d w_) (own_tab f))), .second] []))) (fun t_ k_ => XS.ifYes Xi2.here hx rfl (pc0 := 31) (pc' := 40) rfl (hb hby d0_31) rfl ((if0 _ _).trans (teq b31).1) (by decide) (by decide) k_) ?_
        refine Go.st (U := (Ti2.setTop (mkF m 42 #[.val (.long w_), .second, .val (.int f), .val (.int g_), .val (.double (FP.ddiv (FP.l2d w_) (own_tab f))), .second] [(.double (FP.ddiv (FP.l2d w_) (own_tab f)))]))) (fun t_ k_ => XS.dload Xi2.here hx rfl (hb hby d0_40) rfl k_) ?_
        refine Go.retD Xi2 hx hlk hret (hb hby d0_42) (by decide) (by decide) ?_
        show Q_exd Z w_ f g_ r kc h0 n0 _ Ti2.heap _
        rw [ei2]
        exact ⟨(by unfold own_ex; rw [if_neg b5, if_pos b13, if_pos b31]), N0, rfl⟩
      · refine Go.st (U := (Ti2.setTop (mkF m 34 #[.val (.long w_), .second, .val (.int f), .val (.int g_), .val (.double (FP.ddiv (FP.l2d w_) (own_tab f))), .second] []))) (fun t_ k_ => XS.ifNo Xi2.here hx rfl (hb hby d0_31) rfl ((if0 _ _).trans (feq b31).1) k_) ?_
        refine Go.st (U := (Ti2.setTop (mkF m 36 #[.val (.long w_), .second, .val (.int f), .val (.int g_), .val (.double (FP.ddiv (FP.l2d w_) (own_tab f))), .second] [(.double (FP.ddiv (FP.l2d w_) (own_tab f)))]))) (fun t_ k_ => XS.dload Xi2.here hx rfl (hb hby d0_34) rfl k_) ?_
        refine Go.st (U := (Ti2.setTop (mkF m 37 #[.val (.long w_), .second, .val (.int f), .val (.int g_), .val (.double (FP.ddiv (FP.l2d w_) (own_tab f))), .second] [(.double (FP.dneg (FP.ddiv (FP.l2d w_) (own_tab f))))]))) (fun t_ k_ => XS.dnegS Xi2.here hx rfl (hb hby d0_36) rfl rfl k_) ?_
        refine Go.st (U := (Ti2.setTop (mkF m 42 #[.val (.long w_), .second, .val (.int f), .val (.int g_), .val (.double (FP.ddiv (FP.l2d w_) (own_tab f))), .second] [(.double (FP.dneg (FP.ddiv (FP.l2d w_) (own_tab f))))]))) (fun t_ k_ => XS.goto Xi2.here hx rfl (pc0 := 37) (pc' := 42) rfl (hb hby d0_37) (by decide) (by decide) k_) ?_
        refine Go.retD Xi2 hx hlk hret (hb hby d0_42) (by decide) (by decide) ?_
        show Q_exd Z w_ f g_ r kc h0 n0 _ Ti2.heap _
        rw [ei2]
        exact ⟨(by unfold own_ex; rw [if_neg b5, if_pos b13, if_neg b31]), N0, rfl⟩
    · refine Go.st (U := (Ti1.setTop (mkF m 16 #[.val (.long w_), .second, .val (.int f), .val (.int g_), .unset, .unset] []))) (fun t_ k_ => XS.icmpNo Xi1.here hx rfl (hb hby d0_13) rfl (flt b13).1 k_) ?_
      refine Go.st (U := (Ti1.setTop (mkF m 19 #[.val (.long w_), .second, .val (.int f), .val (.int g_), .unset, .unset] [(.double (9221120237041090560 : UInt64))]))) (Xi1.ldc2DoubleC hx hown (mvT hZ (hw _ (List.mem_of_getElem? (i := 17) rfl))) (g := (mkF m 16 #[.val (.long w_), .second, .val (.int f), .val (.int g_), .unset, .unset] [])) rfl (hb hby d0_16)) ?_
      refine Go.retD Xi1 hx hlk hret (hb hby d0_19) (by decide) (by decide) ?_
      show Q_exd Z w_ f g_ r kc h0 n0 _ Ti1.heap _
      rw [ei1]
      exact ⟨(by unfold own_ex; rw [if_neg b5, if_neg b13]), N0, rfl⟩
def Q_law (Z : State) (p0 : Int64) (p1 : Int32) (p2 : Int32) (r : Addr) (kc : ClassId) (h0 : Heap) (n0 : Nat) (v : Option Value) (h : Heap) (L : List Loc) : Prop := v = some (.int 1) ∧ Fr n0 L
theorem ef_law (m : MethodId) (y0 : Int64) (y1 : Int32) (y2 : Int32) : entryFrame m #[(.long y0), (.int y1), (.int y2)] maxLocals = mkF m 0 #[.val (.long y0), .second, .val (.int y1), .val (.int y2), .unset, .unset, .unset, .unset, .unset, .unset, .unset, .unset, .unset, .unset, .unset, .unset, .unset] [] := by first | (simp [entryFrame, mkF, argsToLocals, Value.category, maxLocals]; done) | rfl
theorem pd0 : parseMethodDescriptor "(JIZ)D" = some ⟨[.long, .int, .boolean], some .double⟩ := by decide +kernel
theorem pd1 : parseMethodDescriptor "(I)D" = some ⟨[.int], some .double⟩ := by decide +kernel
set_option maxRecDepth 65536 in
set_option maxHeartbeats 40000000 in
theorem rm_law (l : Launch) (Z : State) (a0 : Array Value) (hw : ∀ d ∈ tables_1, d.before a0 Z = true) (ws : List Jvm.Cond) (p0 : Int64) (p1 : Int32) (p2 : Int32) (r : Addr) (kc : ClassId) (h0 : Heap) (n0 : Nat) (Z0 : n0 ≤ h0.size) (S0_EXACT_POWERS_OF_TEN : Sta Z h0 "com/example/order_hits/orderhits/text/Fields" "EXACT_POWERS_OF_TEN" "[D" (.ref r)) (V0_r : Arv Z h0 r kc .double 23 (own_vs.map Value.double) (.double 0)) :
    MetFree l x (head1 (Jvm.Cond.code x code maxLocals ret :: ws) room_1) (fun aa_ U => aa_ = #[(.long p0), (.int p1), (.int p2)] ∧ Z.Warmed39 U.vm ∧ U.heap = h0) (fun _ _ _ _ _ => True) (fun _ U o U' => ∃ v L, o = .returned v ∧ Q_law Z p0 p1 p2 r kc h0 n0 v U'.heap L ∧ FrameEnd U o U' L (room_1).cells (room_1).slots) := by
  refine Go.met (plainFor_of_name pn0) ?_
  intro p e s m below meth c s₁ hx hby hml hown hnm hret hlk hZ e0 X0
  have hml : c.maxLocals = 17 := hml
  have N0 := Fr.nil n0
  refine Go.cast (ef_law m p0 p1 p2) ?_
  refine Go.st (U := (s₁.setTop (mkF m 3 #[.val (.long p0), .second, .val (.int p1), .val (.int p2), .unset, .unset, .unset, .unset, .unset, .unset, .unset, .unset, .unset, .unset, .unset, .unset, .unset] [(.long (9007199254740992 : Int64))]))) (X0.ldc2Long hx hown (mvT hZ (hw _ (List.mem_of_getElem? (i := 0) rfl))) (g := (mkF m 0 #[.val (.long p0), .second, .val (.int p1), .val (.int p2), .unset, .unset, .unset, .unset, .unset, .unset, .unset, .unset, .unset, .unset, .unset, .unset, .unset] [])) rfl (hb hby at_0)) ?_
  refine Go.st (U := (s₁.setTop (mkF m 5 #[.val (.long p0), .second, .val (.int p1), .val (.int p2), .val (.long (9007199254740992 : Int64)), .second, .unset, .unset, .unset, .unset, .unset, .unset, .unset, .unset, .unset, .unset, .unset] []))) (fun t_ k_ => XS.lstore X0.here hx rfl (hb hby at_3) rfl (l' := #[.val (.long p0), .second, .val (.int p1), .val (.int p2), .val (.long (9007199254740992 : Int64)), .second, .unset, .unset, .unset, .unset, .unset, .unset, .unset, .unset, .unset, .unset, .unset]) rfl k_) ?_
  refine Go.st (U := (s₁.setTop (mkF m 6 #[.val (.long p0), .second, .val (.int p1), .val (.int p2), .val (.long (9007199254740992 : Int64)), .second, .unset, .unset, .unset, .unset, .unset, .unset, .unset, .unset, .unset, .unset, .unset] [(.int p2)]))) (fun t_ k_ => XS.iloadN X0.here hx rfl (hb hby at_5) rfl k_) ?_
  refine Go.st (U := (s₁.setTop (mkF m 7 #[.val (.long p0), .second, .val (.int p1), .val (.int p2), .val (.long (9007199254740992 : Int64)), .second, .unset, .unset, .unset, .unset, .unset, .unset, .unset, .unset, .unset, .unset, .unset] [(.int (3 : Int32)), (.int p2)]))) (fun t_ k_ => XS.iconst X0.here hx rfl (hb hby at_6) k_) ?_
  refine Go.st (U := (s₁.setTop (mkF m 8 #[.val (.long p0), .second, .val (.int p1), .val (.int p2), .val (.long (9007199254740992 : Int64)), .second, .unset, .unset, .unset, .unset, .unset, .unset, .unset, .unset, .unset, .unset, .unset] [(.int (p2 &&& (3 : Int32)))]))) (fun t_ k_ => XS.iand X0.here hx rfl (hb hby at_7) rfl k_) ?_
  generalize q_vi1 : (p2 &&& (3 : Int32)) = vi1
  refine Go.st (U := (s₁.setTop (mkF m 10 #[.val (.long p0), .second, .val (.int p1), .val (.int p2), .val (.long (9007199254740992 : Int64)), .second, .val (.int vi1), .unset, .unset, .unset, .unset, .unset, .unset, .unset, .unset, .unset, .unset] []))) (fun t_ k_ => XS.istore X0.here hx rfl (hb hby at_8) rfl (l' := #[.val (.long p0), .second, .val (.int p1), .val (.int p2), .val (.long (9007199254740992 : Int64)), .second, .val (.int vi1), .unset, .unset, .unset, .unset, .unset, .unset, .unset, .unset, .unset, .unset]) rfl k_) ?_
  have J69 : ∀ (whole : Int64), Go p e below s room_1 (Q_law Z p0 p1 p2 r kc h0 n0) (s₁.setTop (mkF m 69 #[.val (.long p0), .second, .val (.int p1), .val (.int p2), .val (.long (9007199254740992 : Int64)), .second, .val (.int vi1), .val (.long whole), .second, .unset, .unset, .unset, .unset, .unset, .unset, .unset, .unset] [])) := by
    intro whole
    have J93 : ∀ (fd : Int32) (hfd : ¬ fd < (0 : Int32)), Go p e below s room_1 (Q_law Z p0 p1 p2 r kc h0 n0) (s₁.setTop (mkF m 93 #[.val (.long p0), .second, .val (.int p1), .val (.int p2), .val (.long (9007199254740992 : Int64)), .second, .val (.int vi1), .val (.long whole), .second, .val (.int fd), .unset, .unset, .unset, .unset, .unset, .unset, .unset] [])) := by
      intro fd hfd
      have J105 : ∀ (neg : Int32), Go p e below s room_1 (Q_law Z p0 p1 p2 r kc h0 n0) (s₁.setTop (mkF m 105 #[.val (.long p0), .second, .val (.int p1), .val (.int p2), .val (.long (9007199254740992 : Int64)), .second, .val (.int vi1), .val (.long whole), .second, .val (.int fd), .unset, .unset, .unset, .unset, .unset, .unset, .unset] [(.int neg)])) := by
        intro neg
        refine Go.st (U := (s₁.setTop (mkF m 107 #[.val (.long p0), .second, .val (.int p1), .val (.int p2), .val (.long (9007199254740992 : Int64)), .second, .val (.int vi1), .val (.long whole), .second, .val (.int fd), .val (.int neg), .unset, .unset, .unset, .unset, .unset, .unset] []))) (fun t_ k_ => XS.istore X0.here hx rfl (hb hby at_105) rfl (l' := #[.val (.long p0), .second, .val (.int p1), .val (.int p2), .val (.long (9007199254740992 : Int64)), .second, .val (.int vi1), .val (.long whole), .second, .val (.int fd), .val (.int neg), .unset, .unset, .unset, .unset, .unset, .unset]) rfl k_) ?_
        refine Go.st (U := (s₁.setTop (mkF m 109 #[.val (.long p0), .second, .val (.int p1), .val (.int p2), .val (.long (9007199254740992 : Int64)), .second, .val (.int vi1), .val (.long whole), .second, .val (.int fd), .val (.int neg), .unset, .unset, .unset, .unset, .unset, .unset] [(.long whole)]))) (fun t_ k_ => XS.lload X0.here hx rfl (hb hby at_107) rfl k_) ?_
        refine Go.st (U := (s₁.setTop (mkF m 111 #[.val (.long p0), .second, .val (.int p1), .val (.int p2), .val (.long (9007199254740992 : Int64)), .second, .val (.int vi1), .val (.long whole), .second, .val (.int fd), .val (.int neg), .unset, .unset, .unset, .unset, .unset, .unset] [(.int fd), (.long whole)]))) (fun t_ k_ => XS.iload X0.here hx rfl (hb hby at_109) rfl k_) ?_
        refine Go.st (U := (s₁.setTop (mkF m 113 #[.val (.long p0), .second, .val (.int p1), .val (.int p2), .val (.long (9007199254740992 : Int64)), .second, .val (.int vi1), .val (.long whole), .second, .val (.int fd), .val (.int neg), .unset, .unset, .unset, .unset, .unset, .unset] [(.int neg), (.int fd), (.long whole)]))) (fun t_ k_ => XS.iload X0.here hx rfl (hb hby at_111) rfl k_) ?_
        refine Go.callS X0 hx hZ hown (hw _ (List.mem_of_getElem? (i := 3) rfl)) (hw _ (List.mem_of_getElem? (i := 4) rfl)) (hw _ (List.mem_of_getElem? (i := 5) rfl)) (hw _ (List.mem_of_getElem? (i := 6) rfl)) (by decide) (rm_exd l Z a0 hw [] whole fd neg r kc h0 n0 Z0 S0_EXACT_POWERS_OF_TEN V0_r hfd) e0 0 (by decide) (by decide) (g := (mkF m 113 #[.val (.long p0), .second, .val (.int p1), .val (.int p2), .val (.long (9007199254740992 : Int64)), .second, .val (.int vi1), .val (.long whole), .second, .val (.int fd), .val (.int neg), .unset, .unset, .unset, .unset, .unset, .unset] [(.int neg), (.int fd), (.long whole)])) rfl (by rw [hml]; rfl) [(.long whole), (.int fd), (.int neg)] [] rfl (lenOf pd0 rfl) rfl (by show 2 * 0 + _ ≤ _; exact Nat.le_of_eq rfl) (hb hby at_113) (by decide) (by decide) ?_
        intro vi2 Ti2 Li2 hQi2 Xi2
        obtain ⟨rfl, Ni2, ei2⟩ := hQi2
        have Ni2 := Fr.app N0 Ni2
        show Go p e below s _ _ (Ti2.setTop (mkF m 116 #[.val (.long p0), .second, .val (.int p1), .val (.int p2), .val (.long (9007199254740992 : Int64)), .second, .val (.int vi1), .val (.long whole), .second, .val (.int fd), .val (.int neg), .unset, .unset, .unset, .unset, .unset, .unset] [(.double (own_ex whole fd neg))]))
        refine Go.st (U := (Ti2.setTop (mkF m 118 #[.val (.long p0), .second, .val (.int p1), .val (.int p2), .val (.long (9007199254740992 : Int64)), .second, .val (.int vi1), .val (.long whole), .second, .val (.int fd), .val (.int neg), .val (.double (own_ex whole fd neg)), .second, .unset, .unset, .unset, .unset] []))) (fun t_ k_ => XS.dstore Xi2.here hx rfl (hb hby at_116) rfl (l' := #[.val (.long p0), .second, .val (.int p1), .val (.int p2), .val (.long (9007199254740992 : Int64)), .second, .val (.int vi1), .val (.long whole), .second, .val (.int fd), .val (.int neg), .val (.double (own_ex whole fd neg)), .second, .unset, .unset, .unset, .unset]) rfl k_) ?_
        refine Go.st (U := (Ti2.setTop (mkF m 120 #[.val (.long p0), .second, .val (.int p1), .val (.int p2), .val (.long (9007199254740992 : Int64)), .second, .val (.int vi1), .val (.long whole), .second, .val (.int fd), .val (.int neg), .val (.double (own_ex whole fd neg)), .second, .unset, .unset, .unset, .unset] [(.long whole)]))) (fun t_ k_ => XS.lload Xi2.here hx rfl (hb hby at_118) rfl k_) ?_
        refine Go.st (U := (Ti2.setTop (mkF m 122 #[.val (.long p0), .second, .val (.int p1), .val (.int p2), .val (.long (9007199254740992 : Int64)), .second, .val (.int vi1), .val (.long whole), .second, .val (.int fd), .val (.int neg), .val (.double (own_ex whole fd neg)), .second, .unset, .unset, .unset, .unset] [(.long (9007199254740992 : Int64)), (.long whole)]))) (fun t_ k_ => XS.lload Xi2.here hx rfl (hb hby at_120) rfl k_) ?_
        refine Go.st (U := (Ti2.setTop (mkF m 123 #[.val (.long p0), .second, .val (.int p1), .val (.int p2), .val (.long (9007199254740992 : Int64)), .second, .val (.int vi1), .val (.long whole), .second, .val (.int fd), .val (.int neg), .val (.double (own_ex whole fd neg)), .second, .unset, .unset, .unset, .unset] [(.int (lcmpW whole (9007199254740992 : Int64)))]))) (fun t_ k_ => XS.lcmp Xi2.here hx rfl (hb hby at_122) rfl k_) ?_
        by_cases b123 : (0 : Int32) < (lcmpW whole (9007199254740992 : Int64))
        · refine Go.st (U := (Ti2.setTop (mkF m 133 #[.val (.long p0), .second, .val (.int p1), .val (.int p2), .val (.long (9007199254740992 : Int64)), .second, .val (.int vi1), .val (.long whole), .second, .val (.int fd), .val (.int neg), .val (.double (own_ex whole fd neg)), .second, .unset, .unset, .unset, .unset] []))) (fun t_ k_ => XS.ifYes Xi2.here hx rfl (pc0 := 123) (pc' := 133) rfl (hb hby at_123) rfl ((if0 _ _).trans (tlt b123).2.2.1) (by decide) (by decide) k_) ?_
          refine Go.st (U := (Ti2.setTop (mkF m 135 #[.val (.long p0), .second, .val (.int p1), .val (.int p2), .val (.long (9007199254740992 : Int64)), .second, .val (.int vi1), .val (.long whole), .second, .val (.int fd), .val (.int neg), .val (.double (own_ex whole fd neg)), .second, .unset, .unset, .unset, .unset] [(.double (own_ex whole fd neg))]))) (fun t_ k_ => XS.dload Xi2.here hx rfl (hb hby at_133) rfl k_) ?_
          refine Go.st (U := (Ti2.setTop (mkF m 137 #[.val (.long p0), .second, .val (.int p1), .val (.int p2), .val (.long (9007199254740992 : Int64)), .second, .val (.int vi1), .val (.long whole), .second, .val (.int fd), .val (.int neg), .val (.double (own_ex whole fd neg)), .second, .unset, .unset, .unset, .unset] [(.double (own_ex whole fd neg)), (.double (own_ex whole fd neg))]))) (fun t_ k_ => XS.dload Xi2.here hx rfl (hb hby at_135) rfl k_) ?_
          refine Go.st (U := (Ti2.setTop (mkF m 138 #[.val (.long p0), .second, .val (.int p1), .val (.int p2), .val (.long (9007199254740992 : Int64)), .second, .val (.int vi1), .val (.long whole), .second, .val (.int fd), .val (.int neg), .val (.double (own_ex whole fd neg)), .second, .unset, .unset, .unset, .unset] [(.int (cmpValue (FP.dcmp (own_ex whole fd neg) (own_ex whole fd neg)) .l))]))) (fun t_ k_ => XS.dcmpS Xi2.here hx rfl (hb hby at_137) rfl rfl k_) ?_
          refine Go.st (U := (Ti2.setTop (mkF m 141 #[.val (.long p0), .second, .val (.int p1), .val (.int p2), .val (.long (9007199254740992 : Int64)), .second, .val (.int vi1), .val (.long whole), .second, .val (.int fd), .val (.int neg), .val (.double (own_ex whole fd neg)), .second, .unset, .unset, .unset, .unset] []))) (fun t_ k_ => XS.ifNo Xi2.here hx rfl (hb hby at_138) rfl ((if0 _ _).trans (feq (by rw [show own_ex whole fd neg = (9221120237041090560 : UInt64) from by unfold own_ex; rw [if_pos b123]]; decide +kernel)).1) k_) ?_
          refine Go.st (U := (Ti2.setTop (mkF m 142 #[.val (.long p0), .second, .val (.int p1), .val (.int p2), .val (.long (9007199254740992 : Int64)), .second, .val (.int vi1), .val (.long whole), .second, .val (.int fd), .val (.int neg), .val (.double (own_ex whole fd neg)), .second, .unset, .unset, .unset, .unset] [(.int (1 : Int32))]))) (fun t_ k_ => XS.iconst Xi2.here hx rfl (hb hby at_141) k_) ?_
          refine Go.st (U := (Ti2.setTop (mkF m 146 #[.val (.long p0), .second, .val (.int p1), .val (.int p2), .val (.long (9007199254740992 : Int64)), .second, .val (.int vi1), .val (.long whole), .second, .val (.int fd), .val (.int neg), .val (.double (own_ex whole fd neg)), .second, .unset, .unset, .unset, .unset] [(.int (1 : Int32))]))) (fun t_ k_ => XS.goto Xi2.here hx rfl (pc0 := 142) (pc' := 146) rfl (hb hby at_142) (by decide) (by decide) k_) ?_
          refine Go.retZ Xi2 hx hlk hret (hb hby at_146) (by decide) (by decide) ?_
          exact ⟨rfl, Ni2⟩
        · refine Go.st (U := (Ti2.setTop (mkF m 126 #[.val (.long p0), .second, .val (.int p1), .val (.int p2), .val (.long (9007199254740992 : Int64)), .second, .val (.int vi1), .val (.long whole), .second, .val (.int fd), .val (.int neg), .val (.double (own_ex whole fd neg)), .second, .unset, .unset, .unset, .unset] []))) (fun t_ k_ => XS.ifNo Xi2.here hx rfl (hb hby at_123) rfl ((if0 _ _).trans (flt b123).2.2.1) k_) ?_
          refine Go.st (U := (Ti2.setTop (mkF m 128 #[.val (.long p0), .second, .val (.int p1), .val (.int p2), .val (.long (9007199254740992 : Int64)), .second, .val (.int vi1), .val (.long whole), .second, .val (.int fd), .val (.int neg), .val (.double (own_ex whole fd neg)), .second, .unset, .unset, .unset, .unset] [(.int fd)]))) (fun t_ k_ => XS.iload Xi2.here hx rfl (hb hby at_126) rfl k_) ?_
          refine Go.st (U := (Ti2.setTop (mkF m 130 #[.val (.long p0), .second, .val (.int p1), .val (.int p2), .val (.long (9007199254740992 : Int64)), .second, .val (.int vi1), .val (.long whole), .second, .val (.int fd), .val (.int neg), .val (.double (own_ex whole fd neg)), .second, .unset, .unset, .unset, .unset] [(.int (23 : Int32)), (.int fd)]))) (fun t_ k_ => XS.bipush Xi2.here hx rfl (hb hby at_128) k_) ?_
          by_cases b130 : fd < (23 : Int32)
          · refine Go.st (U := (Ti2.setTop (mkF m 147 #[.val (.long p0), .second, .val (.int p1), .val (.int p2), .val (.long (9007199254740992 : Int64)), .second, .val (.int vi1), .val (.long whole), .second, .val (.int fd), .val (.int neg), .val (.double (own_ex whole fd neg)), .second, .unset, .unset, .unset, .unset] []))) (fun t_ k_ => XS.icmpYes Xi2.here hx rfl (pc0 := 130) (pc' := 147) rfl (hb hby at_130) rfl (tlt b130).1 (by decide) (by decide) k_) ?_
            have A5 := (own_all hfd b130).2.2.2.2.1
            have ND := own_div whole hfd b130
            refine Go.st (U := (Ti2.setTop (mkF m 149 #[.val (.long p0), .second, .val (.int p1), .val (.int p2), .val (.long (9007199254740992 : Int64)), .second, .val (.int vi1), .val (.long whole), .second, .val (.int fd), .val (.int neg), .val (.double (own_ex whole fd neg)), .second, .unset, .unset, .unset, .unset] [(.long whole)]))) (fun t_ k_ => XS.lload Xi2.here hx rfl (hb hby at_147) rfl k_) ?_
            refine Go.st (U := (Ti2.setTop (mkF m 150 #[.val (.long p0), .second, .val (.int p1), .val (.int p2), .val (.long (9007199254740992 : Int64)), .second, .val (.int vi1), .val (.long whole), .second, .val (.int fd), .val (.int neg), .val (.double (own_ex whole fd neg)), .second, .unset, .unset, .unset, .unset] [(.double (FP.l2d whole))]))) (fun t_ k_ => XS.l2dS Xi2.here hx rfl (hb hby at_149) rfl rfl k_) ?_
            refine Go.st (U := (Ti2.setTop (mkF m 152 #[.val (.long p0), .second, .val (.int p1), .val (.int p2), .val (.long (9007199254740992 : Int64)), .second, .val (.int vi1), .val (.long whole), .second, .val (.int fd), .val (.int neg), .val (.double (own_ex whole fd neg)), .second, .unset, .unset, .unset, .unset] [(.int fd), (.double (FP.l2d whole))]))) (fun t_ k_ => XS.iload Xi2.here hx rfl (hb hby at_150) rfl k_) ?_
            refine Go.callS Xi2 hx hZ hown (hw _ (List.mem_of_getElem? (i := 10) rfl)) (hw _ (List.mem_of_getElem? (i := 11) rfl)) (hw _ (List.mem_of_getElem? (i := 12) rfl)) (hw _ (List.mem_of_getElem? (i := 13) rfl)) (by decide) (rm_ten l Z a0 hw [] fd h0 n0 Z0 hfd b130) ei2 2 (by decide) (by decide) (g := (mkF m 152 #[.val (.long p0), .second, .val (.int p1), .val (.int p2), .val (.long (9007199254740992 : Int64)), .second, .val (.int vi1), .val (.long whole), .second, .val (.int fd), .val (.int neg), .val (.double (own_ex whole fd neg)), .second, .unset, .unset, .unset, .unset] [(.int fd), (.double (FP.l2d whole))])) rfl (by rw [hml]; rfl) [(.int fd)] [(.double (FP.l2d whole))] rfl (lenOf pd1 rfl) rfl (by show 2 * 0 + _ ≤ _; exact Nat.le_of_eq rfl) (hb hby at_152) (by decide) (by decide) ?_
            intro vi3 Ti3 Li3 hQi3 Xi3
            obtain ⟨rfl, Ni3, ei3⟩ := hQi3
            have Ni3 := Fr.app Ni2 Ni3
            show Go p e below s _ _ (Ti3.setTop (mkF m 155 #[.val (.long p0), .second, .val (.int p1), .val (.int p2), .val (.long (9007199254740992 : Int64)), .second, .val (.int vi1), .val (.long whole), .second, .val (.int fd), .val (.int neg), .val (.double (own_ex whole fd neg)), .second, .unset, .unset, .unset, .unset] [(.double (own_t5 fd)), (.double (FP.l2d whole))]))
            refine Go.st (U := (Ti3.setTop (mkF m 156 #[.val (.long p0), .second, .val (.int p1), .val (.int p2), .val (.long (9007199254740992 : Int64)), .second, .val (.int vi1), .val (.long whole), .second, .val (.int fd), .val (.int neg), .val (.double (own_ex whole fd neg)), .second, .unset, .unset, .unset, .unset] [(.double (FP.ddiv (FP.l2d whole) (own_t5 fd)))]))) (fun t_ k_ => XS.ddivS Xi3.here hx rfl (hb hby at_155) rfl (by rw [← A5]; exact ND) rfl k_) ?_
            refine Go.st (U := (Ti3.setTop (mkF m 158 #[.val (.long p0), .second, .val (.int p1), .val (.int p2), .val (.long (9007199254740992 : Int64)), .second, .val (.int vi1), .val (.long whole), .second, .val (.int fd), .val (.int neg), .val (.double (own_ex whole fd neg)), .second, .val (.double (FP.ddiv (FP.l2d whole) (own_t5 fd))), .second, .unset, .unset] []))) (fun t_ k_ => XS.dstore Xi3.here hx rfl (hb hby at_156) rfl (l' := #[.val (.long p0), .second, .val (.int p1), .val (.int p2), .val (.long (9007199254740992 : Int64)), .second, .val (.int vi1), .val (.long whole), .second, .val (.int fd), .val (.int neg), .val (.double (own_ex whole fd neg)), .second, .val (.double (FP.ddiv (FP.l2d whole) (own_t5 fd))), .second, .unset, .unset]) rfl k_) ?_
            refine Go.st (U := (Ti3.setTop (mkF m 160 #[.val (.long p0), .second, .val (.int p1), .val (.int p2), .val (.long (9007199254740992 : Int64)), .second, .val (.int vi1), .val (.long whole), .second, .val (.int fd), .val (.int neg), .val (.double (own_ex whole fd neg)), .second, .val (.double (FP.ddiv (FP.l2d whole) (own_t5 fd))), .second, .unset, .unset] [(.int neg)]))) (fun t_ k_ => XS.iload Xi3.here hx rfl (hb hby at_158) rfl k_) ?_
            by_cases b160 : neg = (0 : Int32)
            · refine Go.st (U := (Ti3.setTop (mkF m 169 #[.val (.long p0), .second, .val (.int p1), .val (.int p2), .val (.long (9007199254740992 : Int64)), .second, .val (.int vi1), .val (.long whole), .second, .val (.int fd), .val (.int neg), .val (.double (own_ex whole fd neg)), .second, .val (.double (FP.ddiv (FP.l2d whole) (own_t5 fd))), .second, .unset, .unset] []))) (fun t_ k_ => XS.ifYes Xi3.here hx rfl (pc0 := 160) (pc' := 169) rfl (hb hby at_160) rfl ((if0 _ _).trans (teq b160).1) (by decide) (by decide) k_) ?_
              refine Go.st (U := (Ti3.setTop (mkF m 171 #[.val (.long p0), .second, .val (.int p1), .val (.int p2), .val (.long (9007199254740992 : Int64)), .second, .val (.int vi1), .val (.long whole), .second, .val (.int fd), .val (.int neg), .val (.double (own_ex whole fd neg)), .second, .val (.double (FP.ddiv (FP.l2d whole) (own_t5 fd))), .second, .unset, .unset] [(.double (FP.ddiv (FP.l2d whole) (own_t5 fd)))]))) (fun t_ k_ => XS.dload Xi3.here hx rfl (hb hby at_169) rfl k_) ?_
              refine Go.st (U := (Ti3.setTop (mkF m 173 #[.val (.long p0), .second, .val (.int p1), .val (.int p2), .val (.long (9007199254740992 : Int64)), .second, .val (.int vi1), .val (.long whole), .second, .val (.int fd), .val (.int neg), .val (.double (own_ex whole fd neg)), .second, .val (.double (FP.ddiv (FP.l2d whole) (own_t5 fd))), .second, .val (.double (FP.ddiv (FP.l2d whole) (own_t5 fd))), .second] []))) (fun t_ k_ => XS.dstore Xi3.here hx rfl (hb hby at_171) rfl (l' := #[.val (.long p0), .second, .val (.int p1), .val (.int p2), .val (.long (9007199254740992 : Int64)), .second, .val (.int vi1), .val (.long whole), .second, .val (.int fd), .val (.int neg), .val (.double (own_ex whole fd neg)), .second, .val (.double (FP.ddiv (FP.l2d whole) (own_t5 fd))), .second, .val (.double (FP.ddiv (FP.l2d whole) (own_t5 fd))), .second]) rfl k_) ?_
              refine Go.st (U := (Ti3.setTop (mkF m 175 #[.val (.long p0), .second, .val (.int p1), .val (.int p2), .val (.long (9007199254740992 : Int64)), .second, .val (.int vi1), .val (.long whole), .second, .val (.int fd), .val (.int neg), .val (.double (own_ex whole fd neg)), .second, .val (.double (FP.ddiv (FP.l2d whole) (own_t5 fd))), .second, .val (.double (FP.ddiv (FP.l2d whole) (own_t5 fd))), .second] [(.double (own_ex whole fd neg))]))) (fun t_ k_ => XS.dload Xi3.here hx rfl (hb hby at_173) rfl k_) ?_
              refine Go.st (U := (Ti3.setTop (mkF m 177 #[.val (.long p0), .second, .val (.int p1), .val (.int p2), .val (.long (9007199254740992 : Int64)), .second, .val (.int vi1), .val (.long whole), .second, .val (.int fd), .val (.int neg), .val (.double (own_ex whole fd neg)), .second, .val (.double (FP.ddiv (FP.l2d whole) (own_t5 fd))), .second, .val (.double (FP.ddiv (FP.l2d whole) (own_t5 fd))), .second] [(.double (FP.ddiv (FP.l2d whole) (own_t5 fd))), (.double (own_ex whole fd neg))]))) (fun t_ k_ => XS.dload Xi3.here hx rfl (hb hby at_175) rfl k_) ?_
              refine Go.st (U := (Ti3.setTop (mkF m 178 #[.val (.long p0), .second, .val (.int p1), .val (.int p2), .val (.long (9007199254740992 : Int64)), .second, .val (.int vi1), .val (.long whole), .second, .val (.int fd), .val (.int neg), .val (.double (own_ex whole fd neg)), .second, .val (.double (FP.ddiv (FP.l2d whole) (own_t5 fd))), .second, .val (.double (FP.ddiv (FP.l2d whole) (own_t5 fd))), .second] [(.int (cmpValue (FP.dcmp (own_ex whole fd neg) (FP.ddiv (FP.l2d whole) (own_t5 fd))) .l))]))) (fun t_ k_ => XS.dcmpS Xi3.here hx rfl (hb hby at_177) rfl rfl k_) ?_
              refine Go.st (U := (Ti3.setTop (mkF m 181 #[.val (.long p0), .second, .val (.int p1), .val (.int p2), .val (.long (9007199254740992 : Int64)), .second, .val (.int vi1), .val (.long whole), .second, .val (.int fd), .val (.int neg), .val (.double (own_ex whole fd neg)), .second, .val (.double (FP.ddiv (FP.l2d whole) (own_t5 fd))), .second, .val (.double (FP.ddiv (FP.l2d whole) (own_t5 fd))), .second] []))) (fun t_ k_ => XS.ifNo Xi3.here hx rfl (hb hby at_178) rfl ((if0 _ _).trans (teq (by rw [show own_ex whole fd neg = FP.ddiv (FP.l2d whole) (own_tab fd) from by unfold own_ex; rw [if_neg b123, if_pos b130, if_pos b160], ← A5]; exact own_self ND)).2) k_) ?_
              refine Go.st (U := (Ti3.setTop (mkF m 182 #[.val (.long p0), .second, .val (.int p1), .val (.int p2), .val (.long (9007199254740992 : Int64)), .second, .val (.int vi1), .val (.long whole), .second, .val (.int fd), .val (.int neg), .val (.double (own_ex whole fd neg)), .second, .val (.double (FP.ddiv (FP.l2d whole) (own_t5 fd))), .second, .val (.double (FP.ddiv (FP.l2d whole) (own_t5 fd))), .second] [(.int (1 : Int32))]))) (fun t_ k_ => XS.iconst Xi3.here hx rfl (hb hby at_181) k_) ?_
              refine Go.st (U := (Ti3.setTop (mkF m 186 #[.val (.long p0), .second, .val (.int p1), .val (.int p2), .val (.long (9007199254740992 : Int64)), .second, .val (.int vi1), .val (.long whole), .second, .val (.int fd), .val (.int neg), .val (.double (own_ex whole fd neg)), .second, .val (.double (FP.ddiv (FP.l2d whole) (own_t5 fd))), .second, .val (.double (FP.ddiv (FP.l2d whole) (own_t5 fd))), .second] [(.int (1 : Int32))]))) (fun t_ k_ => XS.goto Xi3.here hx rfl (pc0 := 182) (pc' := 186) rfl (hb hby at_182) (by decide) (by decide) k_) ?_
              refine Go.retZ Xi3 hx hlk hret (hb hby at_186) (by decide) (by decide) ?_
              exact ⟨rfl, Ni3⟩
            · refine Go.st (U := (Ti3.setTop (mkF m 163 #[.val (.long p0), .second, .val (.int p1), .val (.int p2), .val (.long (9007199254740992 : Int64)), .second, .val (.int vi1), .val (.long whole), .second, .val (.int fd), .val (.int neg), .val (.double (own_ex whole fd neg)), .second, .val (.double (FP.ddiv (FP.l2d whole) (own_t5 fd))), .second, .unset, .unset] []))) (fun t_ k_ => XS.ifNo Xi3.here hx rfl (hb hby at_160) rfl ((if0 _ _).trans (feq b160).1) k_) ?_
              refine Go.st (U := (Ti3.setTop (mkF m 165 #[.val (.long p0), .second, .val (.int p1), .val (.int p2), .val (.long (9007199254740992 : Int64)), .second, .val (.int vi1), .val (.long whole), .second, .val (.int fd), .val (.int neg), .val (.double (own_ex whole fd neg)), .second, .val (.double (FP.ddiv (FP.l2d whole) (own_t5 fd))), .second, .unset, .unset] [(.double (FP.ddiv (FP.l2d whole) (own_t5 fd)))]))) (fun t_ k_ => XS.dload Xi3.here hx rfl (hb hby at_163) rfl k_) ?_
              refine Go.st (U := (Ti3.setTop (mkF m 166 #[.val (.long p0), .second, .val (.int p1), .val (.int p2), .val (.long (9007199254740992 : Int64)), .second, .val (.int vi1), .val (.long whole), .second, .val (.int fd), .val (.int neg), .val (.double (own_ex whole fd neg)), .second, .val (.double (FP.ddiv (FP.l2d whole) (own_t5 fd))), .second, .unset, .unset] [(.double (FP.dneg (FP.ddiv (FP.l2d whole) (own_t5 fd))))]))) (fun t_ k_ => XS.dnegS Xi3.here hx rfl (hb hby at_165) rfl rfl k_) ?_
              refine Go.st (U := (Ti3.setTop (mkF m 171 #[.val (.long p0), .second, .val (.int p1), .val (.int p2), .val (.long (9007199254740992 : Int64)), .second, .val (.int vi1), .val (.long whole), .second, .val (.int fd), .val (.int neg), .val (.double (own_ex whole fd neg)), .second, .val (.double (FP.ddiv (FP.l2d whole) (own_t5 fd))), .second, .unset, .unset] [(.double (FP.dneg (FP.ddiv (FP.l2d whole) (own_t5 fd))))]))) (fun t_ k_ => XS.goto Xi3.here hx rfl (pc0 := 166) (pc' := 171) rfl (hb hby at_166) (by decide) (by decide) k_) ?_
              refine Go.st (U := (Ti3.setTop (mkF m 173 #[.val (.long p0), .second, .val (.int p1), .val (.int p2), .val (.long (9007199254740992 : Int64)), .second, .val (.int vi1), .val (.long whole), .second, .val (.int fd), .val (.int neg), .val (.double (own_ex whole fd neg)), .second, .val (.double (FP.ddiv (FP.l2d whole) (own_t5 fd))), .second, .val (.double (FP.dneg (FP.ddiv (FP.l2d whole) (own_t5 fd)))), .second] []))) (fun t_ k_ => XS.dstore Xi3.here hx rfl (hb hby at_171) rfl (l' := #[.val (.long p0), .second, .val (.int p1), .val (.int p2), .val (.long (9007199254740992 : Int64)), .second, .val (.int vi1), .val (.long whole), .second, .val (.int fd), .val (.int neg), .val (.double (own_ex whole fd neg)), .second, .val (.double (FP.ddiv (FP.l2d whole) (own_t5 fd))), .second, .val (.double (FP.dneg (FP.ddiv (FP.l2d whole) (own_t5 fd)))), .second]) rfl k_) ?_
              refine Go.st (U := (Ti3.setTop (mkF m 175 #[.val (.long p0), .second, .val (.int p1), .val (.int p2), .val (.long (9007199254740992 : Int64)), .second, .val (.int vi1), .val (.long whole), .second, .val (.int fd), .val (.int neg), .val (.double (own_ex whole fd neg)), .second, .val (.double (FP.ddiv (FP.l2d whole) (own_t5 fd))), .second, .val (.double (FP.dneg (FP.ddiv (FP.l2d whole) (own_t5 fd)))), .second] [(.double (own_ex whole fd neg))]))) (fun t_ k_ => XS.dload Xi3.here hx rfl (hb hby at_173) rfl k_) ?_
              refine Go.st (U := (Ti3.setTop (mkF m 177 #[.val (.long p0), .second, .val (.int p1), .val (.int p2), .val (.long (9007199254740992 : Int64)), .second, .val (.int vi1), .val (.long whole), .second, .val (.int fd), .val (.int neg), .val (.double (own_ex whole fd neg)), .second, .val (.double (FP.ddiv (FP.l2d whole) (own_t5 fd))), .second, .val (.double (FP.dneg (FP.ddiv (FP.l2d whole) (own_t5 fd)))), .second] [(.double (FP.dneg (FP.ddiv (FP.l2d whole) (own_t5 fd)))), (.double (own_ex whole fd neg))]))) (fun t_ k_ => XS.dload Xi3.here hx rfl (hb hby at_175) rfl k_) ?_
              refine Go.st (U := (Ti3.setTop (mkF m 178 #[.val (.long p0), .second, .val (.int p1), .val (.int p2), .val (.long (9007199254740992 : Int64)), .second, .val (.int vi1), .val (.long whole), .second, .val (.int fd), .val (.int neg), .val (.double (own_ex whole fd neg)), .second, .val (.double (FP.ddiv (FP.l2d whole) (own_t5 fd))), .second, .val (.double (FP.dneg (FP.ddiv (FP.l2d whole) (own_t5 fd)))), .second] [(.int (cmpValue (FP.dcmp (own_ex whole fd neg) (FP.dneg (FP.ddiv (FP.l2d whole) (own_t5 fd)))) .l))]))) (fun t_ k_ => XS.dcmpS Xi3.here hx rfl (hb hby at_177) rfl rfl k_) ?_
              refine Go.st (U := (Ti3.setTop (mkF m 181 #[.val (.long p0), .second, .val (.int p1), .val (.int p2), .val (.long (9007199254740992 : Int64)), .second, .val (.int vi1), .val (.long whole), .second, .val (.int fd), .val (.int neg), .val (.double (own_ex whole fd neg)), .second, .val (.double (FP.ddiv (FP.l2d whole) (own_t5 fd))), .second, .val (.double (FP.dneg (FP.ddiv (FP.l2d whole) (own_t5 fd)))), .second] []))) (fun t_ k_ => XS.ifNo Xi3.here hx rfl (hb hby at_178) rfl ((if0 _ _).trans (teq (by rw [show own_ex whole fd neg = FP.dneg (FP.ddiv (FP.l2d whole) (own_tab fd)) from by unfold own_ex; rw [if_neg b123, if_pos b130, if_neg b160], ← A5]; exact own_self (own_neg ND))).2) k_) ?_
              refine Go.st (U := (Ti3.setTop (mkF m 182 #[.val (.long p0), .second, .val (.int p1), .val (.int p2), .val (.long (9007199254740992 : Int64)), .second, .val (.int vi1), .val (.long whole), .second, .val (.int fd), .val (.int neg), .val (.double (own_ex whole fd neg)), .second, .val (.double (FP.ddiv (FP.l2d whole) (own_t5 fd))), .second, .val (.double (FP.dneg (FP.ddiv (FP.l2d whole) (own_t5 fd)))), .second] [(.int (1 : Int32))]))) (fun t_ k_ => XS.iconst Xi3.here hx rfl (hb hby at_181) k_) ?_
              refine Go.st (U := (Ti3.setTop (mkF m 186 #[.val (.long p0), .second, .val (.int p1), .val (.int p2), .val (.long (9007199254740992 : Int64)), .second, .val (.int vi1), .val (.long whole), .second, .val (.int fd), .val (.int neg), .val (.double (own_ex whole fd neg)), .second, .val (.double (FP.ddiv (FP.l2d whole) (own_t5 fd))), .second, .val (.double (FP.dneg (FP.ddiv (FP.l2d whole) (own_t5 fd)))), .second] [(.int (1 : Int32))]))) (fun t_ k_ => XS.goto Xi3.here hx rfl (pc0 := 182) (pc' := 186) rfl (hb hby at_182) (by decide) (by decide) k_) ?_
              refine Go.retZ Xi3 hx hlk hret (hb hby at_186) (by decide) (by decide) ?_
              exact ⟨rfl, Ni3⟩
          · refine Go.st (U := (Ti2.setTop (mkF m 133 #[.val (.long p0), .second, .val (.int p1), .val (.int p2), .val (.long (9007199254740992 : Int64)), .second, .val (.int vi1), .val (.long whole), .second, .val (.int fd), .val (.int neg), .val (.double (own_ex whole fd neg)), .second, .unset, .unset, .unset, .unset] []))) (fun t_ k_ => XS.icmpNo Xi2.here hx rfl (hb hby at_130) rfl (flt b130).1 k_) ?_
            refine Go.st (U := (Ti2.setTop (mkF m 135 #[.val (.long p0), .second, .val (.int p1), .val (.int p2), .val (.long (9007199254740992 : Int64)), .second, .val (.int vi1), .val (.long whole), .second, .val (.int fd), .val (.int neg), .val (.double (own_ex whole fd neg)), .second, .unset, .unset, .unset, .unset] [(.double (own_ex whole fd neg))]))) (fun t_ k_ => XS.dload Xi2.here hx rfl (hb hby at_133) rfl k_) ?_
            refine Go.st (U := (Ti2.setTop (mkF m 137 #[.val (.long p0), .second, .val (.int p1), .val (.int p2), .val (.long (9007199254740992 : Int64)), .second, .val (.int vi1), .val (.long whole), .second, .val (.int fd), .val (.int neg), .val (.double (own_ex whole fd neg)), .second, .unset, .unset, .unset, .unset] [(.double (own_ex whole fd neg)), (.double (own_ex whole fd neg))]))) (fun t_ k_ => XS.dload Xi2.here hx rfl (hb hby at_135) rfl k_) ?_
            refine Go.st (U := (Ti2.setTop (mkF m 138 #[.val (.long p0), .second, .val (.int p1), .val (.int p2), .val (.long (9007199254740992 : Int64)), .second, .val (.int vi1), .val (.long whole), .second, .val (.int fd), .val (.int neg), .val (.double (own_ex whole fd neg)), .second, .unset, .unset, .unset, .unset] [(.int (cmpValue (FP.dcmp (own_ex whole fd neg) (own_ex whole fd neg)) .l))]))) (fun t_ k_ => XS.dcmpS Xi2.here hx rfl (hb hby at_137) rfl rfl k_) ?_
            refine Go.st (U := (Ti2.setTop (mkF m 141 #[.val (.long p0), .second, .val (.int p1), .val (.int p2), .val (.long (9007199254740992 : Int64)), .second, .val (.int vi1), .val (.long whole), .second, .val (.int fd), .val (.int neg), .val (.double (own_ex whole fd neg)), .second, .unset, .unset, .unset, .unset] []))) (fun t_ k_ => XS.ifNo Xi2.here hx rfl (hb hby at_138) rfl ((if0 _ _).trans (feq (by rw [show own_ex whole fd neg = (9221120237041090560 : UInt64) from by unfold own_ex; rw [if_neg b123, if_neg b130]]; decide +kernel)).1) k_) ?_
            refine Go.st (U := (Ti2.setTop (mkF m 142 #[.val (.long p0), .second, .val (.int p1), .val (.int p2), .val (.long (9007199254740992 : Int64)), .second, .val (.int vi1), .val (.long whole), .second, .val (.int fd), .val (.int neg), .val (.double (own_ex whole fd neg)), .second, .unset, .unset, .unset, .unset] [(.int (1 : Int32))]))) (fun t_ k_ => XS.iconst Xi2.here hx rfl (hb hby at_141) k_) ?_
            refine Go.st (U := (Ti2.setTop (mkF m 146 #[.val (.long p0), .second, .val (.int p1), .val (.int p2), .val (.long (9007199254740992 : Int64)), .second, .val (.int vi1), .val (.long whole), .second, .val (.int fd), .val (.int neg), .val (.double (own_ex whole fd neg)), .second, .unset, .unset, .unset, .unset] [(.int (1 : Int32))]))) (fun t_ k_ => XS.goto Xi2.here hx rfl (pc0 := 142) (pc' := 146) rfl (hb hby at_142) (by decide) (by decide) k_) ?_
            refine Go.retZ Xi2 hx hlk hret (hb hby at_146) (by decide) (by decide) ?_
            exact ⟨rfl, Ni2⟩
      refine Go.st (U := (s₁.setTop (mkF m 94 #[.val (.long p0), .second, .val (.int p1), .val (.int p2), .val (.long (9007199254740992 : Int64)), .second, .val (.int vi1), .val (.long whole), .second, .val (.int fd), .unset, .unset, .unset, .unset, .unset, .unset, .unset] [(.int p2)]))) (fun t_ k_ => XS.iloadN X0.here hx rfl (hb hby at_93) rfl k_) ?_
      refine Go.st (U := (s₁.setTop (mkF m 96 #[.val (.long p0), .second, .val (.int p1), .val (.int p2), .val (.long (9007199254740992 : Int64)), .second, .val (.int vi1), .val (.long whole), .second, .val (.int fd), .unset, .unset, .unset, .unset, .unset, .unset, .unset] [(.int (8 : Int32)), (.int p2)]))) (fun t_ k_ => XS.bipush X0.here hx rfl (hb hby at_94) k_) ?_
      refine Go.st (U := (s₁.setTop (mkF m 97 #[.val (.long p0), .second, .val (.int p1), .val (.int p2), .val (.long (9007199254740992 : Int64)), .second, .val (.int vi1), .val (.long whole), .second, .val (.int fd), .unset, .unset, .unset, .unset, .unset, .unset, .unset] [(.int (p2 &&& (8 : Int32)))]))) (fun t_ k_ => XS.iand X0.here hx rfl (hb hby at_96) rfl k_) ?_
      by_cases b97 : (p2 &&& (8 : Int32)) = (0 : Int32)
      · refine Go.st (U := (s₁.setTop (mkF m 104 #[.val (.long p0), .second, .val (.int p1), .val (.int p2), .val (.long (9007199254740992 : Int64)), .second, .val (.int vi1), .val (.long whole), .second, .val (.int fd), .unset, .unset, .unset, .unset, .unset, .unset, .unset] []))) (fun t_ k_ => XS.ifYes X0.here hx rfl (pc0 := 97) (pc' := 104) rfl (hb hby at_97) rfl ((if0 _ _).trans (teq b97).1) (by decide) (by decide) k_) ?_
        refine Go.st (U := (s₁.setTop (mkF m 105 #[.val (.long p0), .second, .val (.int p1), .val (.int p2), .val (.long (9007199254740992 : Int64)), .second, .val (.int vi1), .val (.long whole), .second, .val (.int fd), .unset, .unset, .unset, .unset, .unset, .unset, .unset] [(.int (0 : Int32))]))) (fun t_ k_ => XS.iconst X0.here hx rfl (hb hby at_104) k_) ?_
        exact J105 (0 : Int32) 
      · refine Go.st (U := (s₁.setTop (mkF m 100 #[.val (.long p0), .second, .val (.int p1), .val (.int p2), .val (.long (9007199254740992 : Int64)), .second, .val (.int vi1), .val (.long whole), .second, .val (.int fd), .unset, .unset, .unset, .unset, .unset, .unset, .unset] []))) (fun t_ k_ => XS.ifNo X0.here hx rfl (hb hby at_97) rfl ((if0 _ _).trans (feq b97).1) k_) ?_
        refine Go.st (U := (s₁.setTop (mkF m 101 #[.val (.long p0), .second, .val (.int p1), .val (.int p2), .val (.long (9007199254740992 : Int64)), .second, .val (.int vi1), .val (.long whole), .second, .val (.int fd), .unset, .unset, .unset, .unset, .unset, .unset, .unset] [(.int (1 : Int32))]))) (fun t_ k_ => XS.iconst X0.here hx rfl (hb hby at_100) k_) ?_
        refine Go.st (U := (s₁.setTop (mkF m 105 #[.val (.long p0), .second, .val (.int p1), .val (.int p2), .val (.long (9007199254740992 : Int64)), .second, .val (.int vi1), .val (.long whole), .second, .val (.int fd), .unset, .unset, .unset, .unset, .unset, .unset, .unset] [(.int (1 : Int32))]))) (fun t_ k_ => XS.goto X0.here hx rfl (pc0 := 101) (pc' := 105) rfl (hb hby at_101) (by decide) (by decide) k_) ?_
        exact J105 (1 : Int32) 
    refine Go.st (U := (s₁.setTop (mkF m 70 #[.val (.long p0), .second, .val (.int p1), .val (.int p2), .val (.long (9007199254740992 : Int64)), .second, .val (.int vi1), .val (.long whole), .second, .unset, .unset, .unset, .unset, .unset, .unset, .unset, .unset] [(.int p2)]))) (fun t_ k_ => XS.iloadN X0.here hx rfl (hb hby at_69) rfl k_) ?_
    refine Go.st (U := (s₁.setTop (mkF m 71 #[.val (.long p0), .second, .val (.int p1), .val (.int p2), .val (.long (9007199254740992 : Int64)), .second, .val (.int vi1), .val (.long whole), .second, .unset, .unset, .unset, .unset, .unset, .unset, .unset, .unset] [(.int (4 : Int32)), (.int p2)]))) (fun t_ k_ => XS.iconst X0.here hx rfl (hb hby at_70) k_) ?_
    refine Go.st (U := (s₁.setTop (mkF m 72 #[.val (.long p0), .second, .val (.int p1), .val (.int p2), .val (.long (9007199254740992 : Int64)), .second, .val (.int vi1), .val (.long whole), .second, .unset, .unset, .unset, .unset, .unset, .unset, .unset, .unset] [(.int (p2 &&& (4 : Int32)))]))) (fun t_ k_ => XS.iand X0.here hx rfl (hb hby at_71) rfl k_) ?_
    by_cases b72 : (p2 &&& (4 : Int32)) = (0 : Int32)
    · refine Go.st (U := (s₁.setTop (mkF m 84 #[.val (.long p0), .second, .val (.int p1), .val (.int p2), .val (.long (9007199254740992 : Int64)), .second, .val (.int vi1), .val (.long whole), .second, .unset, .unset, .unset, .unset, .unset, .unset, .unset, .unset] []))) (fun t_ k_ => XS.ifYes X0.here hx rfl (pc0 := 72) (pc' := 84) rfl (hb hby at_72) rfl ((if0 _ _).trans (teq b72).1) (by decide) (by decide) k_) ?_
      refine Go.st (U := (s₁.setTop (mkF m 85 #[.val (.long p0), .second, .val (.int p1), .val (.int p2), .val (.long (9007199254740992 : Int64)), .second, .val (.int vi1), .val (.long whole), .second, .unset, .unset, .unset, .unset, .unset, .unset, .unset, .unset] [(.int p1)]))) (fun t_ k_ => XS.iloadN X0.here hx rfl (hb hby at_84) rfl k_) ?_
      refine Go.st (U := (s₁.setTop (mkF m 87 #[.val (.long p0), .second, .val (.int p1), .val (.int p2), .val (.long (9007199254740992 : Int64)), .second, .val (.int vi1), .val (.long whole), .second, .unset, .unset, .unset, .unset, .unset, .unset, .unset, .unset] [(.int (2147483647 : Int32)), (.int p1)]))) (X0.ldcInt hx hown (mvT hZ (hw _ (List.mem_of_getElem? (i := 2) rfl))) (g := (mkF m 85 #[.val (.long p0), .second, .val (.int p1), .val (.int p2), .val (.long (9007199254740992 : Int64)), .second, .val (.int vi1), .val (.long whole), .second, .unset, .unset, .unset, .unset, .unset, .unset, .unset, .unset] [(.int p1)])) rfl (hb hby at_85)) ?_
      refine Go.st (U := (s₁.setTop (mkF m 88 #[.val (.long p0), .second, .val (.int p1), .val (.int p2), .val (.long (9007199254740992 : Int64)), .second, .val (.int vi1), .val (.long whole), .second, .unset, .unset, .unset, .unset, .unset, .unset, .unset, .unset] [(.int (p1 &&& (2147483647 : Int32)))]))) (fun t_ k_ => XS.iand X0.here hx rfl (hb hby at_87) rfl k_) ?_
      refine Go.st (U := (s₁.setTop (mkF m 90 #[.val (.long p0), .second, .val (.int p1), .val (.int p2), .val (.long (9007199254740992 : Int64)), .second, .val (.int vi1), .val (.long whole), .second, .unset, .unset, .unset, .unset, .unset, .unset, .unset, .unset] [(.int (32 : Int32)), (.int (p1 &&& (2147483647 : Int32)))]))) (fun t_ k_ => XS.bipush X0.here hx rfl (hb hby at_88) k_) ?_
      refine Go.st (U := (s₁.setTop (mkF m 91 #[.val (.long p0), .second, .val (.int p1), .val (.int p2), .val (.long (9007199254740992 : Int64)), .second, .val (.int vi1), .val (.long whole), .second, .unset, .unset, .unset, .unset, .unset, .unset, .unset, .unset] [(.int ((p1 &&& (2147483647 : Int32)) - (p1 &&& (2147483647 : Int32)) / (32 : Int32) * (32 : Int32)))]))) (fun t_ k_ => XS.irem X0.here hx rfl (hb hby at_90) rfl (by decide) k_) ?_
      generalize q_fdb : ((p1 &&& (2147483647 : Int32)) - (p1 &&& (2147483647 : Int32)) / (32 : Int32) * (32 : Int32)) = fdb
      refine Go.st (U := (s₁.setTop (mkF m 93 #[.val (.long p0), .second, .val (.int p1), .val (.int p2), .val (.long (9007199254740992 : Int64)), .second, .val (.int vi1), .val (.long whole), .second, .val (.int fdb), .unset, .unset, .unset, .unset, .unset, .unset, .unset] []))) (fun t_ k_ => XS.istore X0.here hx rfl (hb hby at_91) rfl (l' := #[.val (.long p0), .second, .val (.int p1), .val (.int p2), .val (.long (9007199254740992 : Int64)), .second, .val (.int vi1), .val (.long whole), .second, .val (.int fdb), .unset, .unset, .unset, .unset, .unset, .unset, .unset]) rfl k_) ?_
      exact J93 fdb (own_rem q_fdb)
    · refine Go.st (U := (s₁.setTop (mkF m 75 #[.val (.long p0), .second, .val (.int p1), .val (.int p2), .val (.long (9007199254740992 : Int64)), .second, .val (.int vi1), .val (.long whole), .second, .unset, .unset, .unset, .unset, .unset, .unset, .unset, .unset] []))) (fun t_ k_ => XS.ifNo X0.here hx rfl (hb hby at_72) rfl ((if0 _ _).trans (feq b72).1) k_) ?_
      refine Go.st (U := (s₁.setTop (mkF m 76 #[.val (.long p0), .second, .val (.int p1), .val (.int p2), .val (.long (9007199254740992 : Int64)), .second, .val (.int vi1), .val (.long whole), .second, .unset, .unset, .unset, .unset, .unset, .unset, .unset, .unset] [(.int p1)]))) (fun t_ k_ => XS.iloadN X0.here hx rfl (hb hby at_75) rfl k_) ?_
      refine Go.st (U := (s₁.setTop (mkF m 78 #[.val (.long p0), .second, .val (.int p1), .val (.int p2), .val (.long (9007199254740992 : Int64)), .second, .val (.int vi1), .val (.long whole), .second, .unset, .unset, .unset, .unset, .unset, .unset, .unset, .unset] [(.int (2147483647 : Int32)), (.int p1)]))) (X0.ldcInt hx hown (mvT hZ (hw _ (List.mem_of_getElem? (i := 2) rfl))) (g := (mkF m 76 #[.val (.long p0), .second, .val (.int p1), .val (.int p2), .val (.long (9007199254740992 : Int64)), .second, .val (.int vi1), .val (.long whole), .second, .unset, .unset, .unset, .unset, .unset, .unset, .unset, .unset] [(.int p1)])) rfl (hb hby at_76)) ?_
      refine Go.st (U := (s₁.setTop (mkF m 79 #[.val (.long p0), .second, .val (.int p1), .val (.int p2), .val (.long (9007199254740992 : Int64)), .second, .val (.int vi1), .val (.long whole), .second, .unset, .unset, .unset, .unset, .unset, .unset, .unset, .unset] [(.int (p1 &&& (2147483647 : Int32)))]))) (fun t_ k_ => XS.iand X0.here hx rfl (hb hby at_78) rfl k_) ?_
      generalize q_fda : (p1 &&& (2147483647 : Int32)) = fda
      refine Go.st (U := (s₁.setTop (mkF m 81 #[.val (.long p0), .second, .val (.int p1), .val (.int p2), .val (.long (9007199254740992 : Int64)), .second, .val (.int vi1), .val (.long whole), .second, .val (.int fda), .unset, .unset, .unset, .unset, .unset, .unset, .unset] []))) (fun t_ k_ => XS.istore X0.here hx rfl (hb hby at_79) rfl (l' := #[.val (.long p0), .second, .val (.int p1), .val (.int p2), .val (.long (9007199254740992 : Int64)), .second, .val (.int vi1), .val (.long whole), .second, .val (.int fda), .unset, .unset, .unset, .unset, .unset, .unset, .unset]) rfl k_) ?_
      refine Go.st (U := (s₁.setTop (mkF m 93 #[.val (.long p0), .second, .val (.int p1), .val (.int p2), .val (.long (9007199254740992 : Int64)), .second, .val (.int vi1), .val (.long whole), .second, .val (.int fda), .unset, .unset, .unset, .unset, .unset, .unset, .unset] []))) (fun t_ k_ => XS.goto X0.here hx rfl (pc0 := 81) (pc' := 93) rfl (hb hby at_81) (by decide) (by decide) k_) ?_
      exact J93 fda (own_pos q_fda)
  refine Go.st (U := (s₁.setTop (mkF m 12 #[.val (.long p0), .second, .val (.int p1), .val (.int p2), .val (.long (9007199254740992 : Int64)), .second, .val (.int vi1), .unset, .unset, .unset, .unset, .unset, .unset, .unset, .unset, .unset, .unset] [(.int vi1)]))) (fun t_ k_ => XS.iload X0.here hx rfl (hb hby at_10) rfl k_) ?_
  by_cases b12 : vi1 = (0 : Int32)
  · refine Go.st (U := (s₁.setTop (mkF m 15 #[.val (.long p0), .second, .val (.int p1), .val (.int p2), .val (.long (9007199254740992 : Int64)), .second, .val (.int vi1), .unset, .unset, .unset, .unset, .unset, .unset, .unset, .unset, .unset, .unset] []))) (fun t_ k_ => XS.ifNo X0.here hx rfl (hb hby at_12) rfl ((if0 _ _).trans (teq b12).2) k_) ?_
    refine Go.st (U := (s₁.setTop (mkF m 16 #[.val (.long p0), .second, .val (.int p1), .val (.int p2), .val (.long (9007199254740992 : Int64)), .second, .val (.int vi1), .unset, .unset, .unset, .unset, .unset, .unset, .unset, .unset, .unset, .unset] [(.long p0)]))) (fun t_ k_ => XS.lloadN X0.here hx rfl (hb hby at_15) rfl k_) ?_
    refine Go.st (U := (s₁.setTop (mkF m 19 #[.val (.long p0), .second, .val (.int p1), .val (.int p2), .val (.long (9007199254740992 : Int64)), .second, .val (.int vi1), .unset, .unset, .unset, .unset, .unset, .unset, .unset, .unset, .unset, .unset] [(.long (18014398509481983 : Int64)), (.long p0)]))) (X0.ldc2Long hx hown (mvT hZ (hw _ (List.mem_of_getElem? (i := 19) rfl))) (g := (mkF m 16 #[.val (.long p0), .second, .val (.int p1), .val (.int p2), .val (.long (9007199254740992 : Int64)), .second, .val (.int vi1), .unset, .unset, .unset, .unset, .unset, .unset, .unset, .unset, .unset, .unset] [(.long p0)])) rfl (hb hby at_16)) ?_
    refine Go.st (U := (s₁.setTop (mkF m 20 #[.val (.long p0), .second, .val (.int p1), .val (.int p2), .val (.long (9007199254740992 : Int64)), .second, .val (.int vi1), .unset, .unset, .unset, .unset, .unset, .unset, .unset, .unset, .unset, .unset] [(.long (p0 &&& (18014398509481983 : Int64)))]))) (fun t_ k_ => XS.land X0.here hx rfl (hb hby at_19) rfl k_) ?_
    generalize q_vi4 : (p0 &&& (18014398509481983 : Int64)) = vi4
    refine Go.st (U := (s₁.setTop (mkF m 22 #[.val (.long p0), .second, .val (.int p1), .val (.int p2), .val (.long (9007199254740992 : Int64)), .second, .val (.int vi1), .val (.long vi4), .second, .unset, .unset, .unset, .unset, .unset, .unset, .unset, .unset] []))) (fun t_ k_ => XS.lstore X0.here hx rfl (hb hby at_20) rfl (l' := #[.val (.long p0), .second, .val (.int p1), .val (.int p2), .val (.long (9007199254740992 : Int64)), .second, .val (.int vi1), .val (.long vi4), .second, .unset, .unset, .unset, .unset, .unset, .unset, .unset, .unset]) rfl k_) ?_
    refine Go.st (U := (s₁.setTop (mkF m 69 #[.val (.long p0), .second, .val (.int p1), .val (.int p2), .val (.long (9007199254740992 : Int64)), .second, .val (.int vi1), .val (.long vi4), .second, .unset, .unset, .unset, .unset, .unset, .unset, .unset, .unset] []))) (fun t_ k_ => XS.goto X0.here hx rfl (pc0 := 22) (pc' := 69) rfl (hb hby at_22) (by decide) (by decide) k_) ?_
    exact J69 vi4 
  · refine Go.st (U := (s₁.setTop (mkF m 25 #[.val (.long p0), .second, .val (.int p1), .val (.int p2), .val (.long (9007199254740992 : Int64)), .second, .val (.int vi1), .unset, .unset, .unset, .unset, .unset, .unset, .unset, .unset, .unset, .unset] []))) (fun t_ k_ => XS.ifYes X0.here hx rfl (pc0 := 12) (pc' := 25) rfl (hb hby at_12) rfl ((if0 _ _).trans (feq b12).2) (by decide) (by decide) k_) ?_
    refine Go.st (U := (s₁.setTop (mkF m 27 #[.val (.long p0), .second, .val (.int p1), .val (.int p2), .val (.long (9007199254740992 : Int64)), .second, .val (.int vi1), .unset, .unset, .unset, .unset, .unset, .unset, .unset, .unset, .unset, .unset] [(.int vi1)]))) (fun t_ k_ => XS.iload X0.here hx rfl (hb hby at_25) rfl k_) ?_
    refine Go.st (U := (s₁.setTop (mkF m 28 #[.val (.long p0), .second, .val (.int p1), .val (.int p2), .val (.long (9007199254740992 : Int64)), .second, .val (.int vi1), .unset, .unset, .unset, .unset, .unset, .unset, .unset, .unset, .unset, .unset] [(.int (1 : Int32)), (.int vi1)]))) (fun t_ k_ => XS.iconst X0.here hx rfl (hb hby at_27) k_) ?_
    by_cases b28 : vi1 = (1 : Int32)
    · refine Go.st (U := (s₁.setTop (mkF m 31 #[.val (.long p0), .second, .val (.int p1), .val (.int p2), .val (.long (9007199254740992 : Int64)), .second, .val (.int vi1), .unset, .unset, .unset, .unset, .unset, .unset, .unset, .unset, .unset, .unset] []))) (fun t_ k_ => XS.icmpNo X0.here hx rfl (hb hby at_28) rfl (teq b28).2 k_) ?_
      refine Go.st (U := (s₁.setTop (mkF m 32 #[.val (.long p0), .second, .val (.int p1), .val (.int p2), .val (.long (9007199254740992 : Int64)), .second, .val (.int vi1), .unset, .unset, .unset, .unset, .unset, .unset, .unset, .unset, .unset, .unset] [(.long p0)]))) (fun t_ k_ => XS.lloadN X0.here hx rfl (hb hby at_31) rfl k_) ?_
      refine Go.st (U := (s₁.setTop (mkF m 35 #[.val (.long p0), .second, .val (.int p1), .val (.int p2), .val (.long (9007199254740992 : Int64)), .second, .val (.int vi1), .unset, .unset, .unset, .unset, .unset, .unset, .unset, .unset, .unset, .unset] [(.long (9223372036854775807 : Int64)), (.long p0)]))) (X0.ldc2Long hx hown (mvT hZ (hw _ (List.mem_of_getElem? (i := 1) rfl))) (g := (mkF m 32 #[.val (.long p0), .second, .val (.int p1), .val (.int p2), .val (.long (9007199254740992 : Int64)), .second, .val (.int vi1), .unset, .unset, .unset, .unset, .unset, .unset, .unset, .unset, .unset, .unset] [(.long p0)])) rfl (hb hby at_32)) ?_
      refine Go.st (U := (s₁.setTop (mkF m 36 #[.val (.long p0), .second, .val (.int p1), .val (.int p2), .val (.long (9007199254740992 : Int64)), .second, .val (.int vi1), .unset, .unset, .unset, .unset, .unset, .unset, .unset, .unset, .unset, .unset] [(.long (p0 &&& (9223372036854775807 : Int64)))]))) (fun t_ k_ => XS.land X0.here hx rfl (hb hby at_35) rfl k_) ?_
      generalize q_vi5 : (p0 &&& (9223372036854775807 : Int64)) = vi5
      refine Go.st (U := (s₁.setTop (mkF m 38 #[.val (.long p0), .second, .val (.int p1), .val (.int p2), .val (.long (9007199254740992 : Int64)), .second, .val (.int vi1), .val (.long vi5), .second, .unset, .unset, .unset, .unset, .unset, .unset, .unset, .unset] []))) (fun t_ k_ => XS.lstore X0.here hx rfl (hb hby at_36) rfl (l' := #[.val (.long p0), .second, .val (.int p1), .val (.int p2), .val (.long (9007199254740992 : Int64)), .second, .val (.int vi1), .val (.long vi5), .second, .unset, .unset, .unset, .unset, .unset, .unset, .unset, .unset]) rfl k_) ?_
      refine Go.st (U := (s₁.setTop (mkF m 69 #[.val (.long p0), .second, .val (.int p1), .val (.int p2), .val (.long (9007199254740992 : Int64)), .second, .val (.int vi1), .val (.long vi5), .second, .unset, .unset, .unset, .unset, .unset, .unset, .unset, .unset] []))) (fun t_ k_ => XS.goto X0.here hx rfl (pc0 := 38) (pc' := 69) rfl (hb hby at_38) (by decide) (by decide) k_) ?_
      exact J69 vi5 
    · refine Go.st (U := (s₁.setTop (mkF m 41 #[.val (.long p0), .second, .val (.int p1), .val (.int p2), .val (.long (9007199254740992 : Int64)), .second, .val (.int vi1), .unset, .unset, .unset, .unset, .unset, .unset, .unset, .unset, .unset, .unset] []))) (fun t_ k_ => XS.icmpYes X0.here hx rfl (pc0 := 28) (pc' := 41) rfl (hb hby at_28) rfl (feq b28).2 (by decide) (by decide) k_) ?_
      refine Go.st (U := (s₁.setTop (mkF m 43 #[.val (.long p0), .second, .val (.int p1), .val (.int p2), .val (.long (9007199254740992 : Int64)), .second, .val (.int vi1), .unset, .unset, .unset, .unset, .unset, .unset, .unset, .unset, .unset, .unset] [(.int vi1)]))) (fun t_ k_ => XS.iload X0.here hx rfl (hb hby at_41) rfl k_) ?_
      refine Go.st (U := (s₁.setTop (mkF m 44 #[.val (.long p0), .second, .val (.int p1), .val (.int p2), .val (.long (9007199254740992 : Int64)), .second, .val (.int vi1), .unset, .unset, .unset, .unset, .unset, .unset, .unset, .unset, .unset, .unset] [(.int (2 : Int32)), (.int vi1)]))) (fun t_ k_ => XS.iconst X0.here hx rfl (hb hby at_43) k_) ?_
      by_cases b44 : vi1 = (2 : Int32)
      · refine Go.st (U := (s₁.setTop (mkF m 47 #[.val (.long p0), .second, .val (.int p1), .val (.int p2), .val (.long (9007199254740992 : Int64)), .second, .val (.int vi1), .unset, .unset, .unset, .unset, .unset, .unset, .unset, .unset, .unset, .unset] []))) (fun t_ k_ => XS.icmpNo X0.here hx rfl (hb hby at_44) rfl (teq b44).2 k_) ?_
        refine Go.st (U := (s₁.setTop (mkF m 49 #[.val (.long p0), .second, .val (.int p1), .val (.int p2), .val (.long (9007199254740992 : Int64)), .second, .val (.int vi1), .unset, .unset, .unset, .unset, .unset, .unset, .unset, .unset, .unset, .unset] [(.long (9007199254740992 : Int64))]))) (fun t_ k_ => XS.lload X0.here hx rfl (hb hby at_47) rfl k_) ?_
        refine Go.st (U := (s₁.setTop (mkF m 50 #[.val (.long p0), .second, .val (.int p1), .val (.int p2), .val (.long (9007199254740992 : Int64)), .second, .val (.int vi1), .unset, .unset, .unset, .unset, .unset, .unset, .unset, .unset, .unset, .unset] [(.long p0), (.long (9007199254740992 : Int64))]))) (fun t_ k_ => XS.lloadN X0.here hx rfl (hb hby at_49) rfl k_) ?_
        refine Go.st (U := (s₁.setTop (mkF m 53 #[.val (.long p0), .second, .val (.int p1), .val (.int p2), .val (.long (9007199254740992 : Int64)), .second, .val (.int vi1), .unset, .unset, .unset, .unset, .unset, .unset, .unset, .unset, .unset, .unset] [(.long (3 : Int64)), (.long p0), (.long (9007199254740992 : Int64))]))) (X0.ldc2Long hx hown (mvT hZ (hw _ (List.mem_of_getElem? (i := 21) rfl))) (g := (mkF m 50 #[.val (.long p0), .second, .val (.int p1), .val (.int p2), .val (.long (9007199254740992 : Int64)), .second, .val (.int vi1), .unset, .unset, .unset, .unset, .unset, .unset, .unset, .unset, .unset, .unset] [(.long p0), (.long (9007199254740992 : Int64))])) rfl (hb hby at_50)) ?_
        refine Go.st (U := (s₁.setTop (mkF m 54 #[.val (.long p0), .second, .val (.int p1), .val (.int p2), .val (.long (9007199254740992 : Int64)), .second, .val (.int vi1), .unset, .unset, .unset, .unset, .unset, .unset, .unset, .unset, .unset, .unset] [(.long (p0 &&& (3 : Int64))), (.long (9007199254740992 : Int64))]))) (fun t_ k_ => XS.land X0.here hx rfl (hb hby at_53) rfl k_) ?_
        refine Go.st (U := (s₁.setTop (mkF m 55 #[.val (.long p0), .second, .val (.int p1), .val (.int p2), .val (.long (9007199254740992 : Int64)), .second, .val (.int vi1), .unset, .unset, .unset, .unset, .unset, .unset, .unset, .unset, .unset, .unset] [(.long (1 : Int64)), (.long (p0 &&& (3 : Int64))), (.long (9007199254740992 : Int64))]))) (fun t_ k_ => XS.lconst X0.here hx rfl (hb hby at_54) k_) ?_
        refine Go.st (U := (s₁.setTop (mkF m 56 #[.val (.long p0), .second, .val (.int p1), .val (.int p2), .val (.long (9007199254740992 : Int64)), .second, .val (.int vi1), .unset, .unset, .unset, .unset, .unset, .unset, .unset, .unset, .unset, .unset] [(.long ((p0 &&& (3 : Int64)) - (1 : Int64))), (.long (9007199254740992 : Int64))]))) (fun t_ k_ => XS.lsub X0.here hx rfl (hb hby at_55) rfl k_) ?_
        refine Go.st (U := (s₁.setTop (mkF m 57 #[.val (.long p0), .second, .val (.int p1), .val (.int p2), .val (.long (9007199254740992 : Int64)), .second, .val (.int vi1), .unset, .unset, .unset, .unset, .unset, .unset, .unset, .unset, .unset, .unset] [(.long ((9007199254740992 : Int64) + ((p0 &&& (3 : Int64)) - (1 : Int64))))]))) (fun t_ k_ => XS.ladd X0.here hx rfl (hb hby at_56) rfl k_) ?_
        generalize q_vi6 : ((9007199254740992 : Int64) + ((p0 &&& (3 : Int64)) - (1 : Int64))) = vi6
        refine Go.st (U := (s₁.setTop (mkF m 59 #[.val (.long p0), .second, .val (.int p1), .val (.int p2), .val (.long (9007199254740992 : Int64)), .second, .val (.int vi1), .val (.long vi6), .second, .unset, .unset, .unset, .unset, .unset, .unset, .unset, .unset] []))) (fun t_ k_ => XS.lstore X0.here hx rfl (hb hby at_57) rfl (l' := #[.val (.long p0), .second, .val (.int p1), .val (.int p2), .val (.long (9007199254740992 : Int64)), .second, .val (.int vi1), .val (.long vi6), .second, .unset, .unset, .unset, .unset, .unset, .unset, .unset, .unset]) rfl k_) ?_
        refine Go.st (U := (s₁.setTop (mkF m 69 #[.val (.long p0), .second, .val (.int p1), .val (.int p2), .val (.long (9007199254740992 : Int64)), .second, .val (.int vi1), .val (.long vi6), .second, .unset, .unset, .unset, .unset, .unset, .unset, .unset, .unset] []))) (fun t_ k_ => XS.goto X0.here hx rfl (pc0 := 59) (pc' := 69) rfl (hb hby at_59) (by decide) (by decide) k_) ?_
        exact J69 vi6 
      · refine Go.st (U := (s₁.setTop (mkF m 62 #[.val (.long p0), .second, .val (.int p1), .val (.int p2), .val (.long (9007199254740992 : Int64)), .second, .val (.int vi1), .unset, .unset, .unset, .unset, .unset, .unset, .unset, .unset, .unset, .unset] []))) (fun t_ k_ => XS.icmpYes X0.here hx rfl (pc0 := 44) (pc' := 62) rfl (hb hby at_44) rfl (feq b44).2 (by decide) (by decide) k_) ?_
        refine Go.st (U := (s₁.setTop (mkF m 63 #[.val (.long p0), .second, .val (.int p1), .val (.int p2), .val (.long (9007199254740992 : Int64)), .second, .val (.int vi1), .unset, .unset, .unset, .unset, .unset, .unset, .unset, .unset, .unset, .unset] [(.long p0)]))) (fun t_ k_ => XS.lloadN X0.here hx rfl (hb hby at_62) rfl k_) ?_
        refine Go.st (U := (s₁.setTop (mkF m 66 #[.val (.long p0), .second, .val (.int p1), .val (.int p2), .val (.long (9007199254740992 : Int64)), .second, .val (.int vi1), .unset, .unset, .unset, .unset, .unset, .unset, .unset, .unset, .unset, .unset] [(.long (1048575 : Int64)), (.long p0)]))) (X0.ldc2Long hx hown (mvT hZ (hw _ (List.mem_of_getElem? (i := 15) rfl))) (g := (mkF m 63 #[.val (.long p0), .second, .val (.int p1), .val (.int p2), .val (.long (9007199254740992 : Int64)), .second, .val (.int vi1), .unset, .unset, .unset, .unset, .unset, .unset, .unset, .unset, .unset, .unset] [(.long p0)])) rfl (hb hby at_63)) ?_
        refine Go.st (U := (s₁.setTop (mkF m 67 #[.val (.long p0), .second, .val (.int p1), .val (.int p2), .val (.long (9007199254740992 : Int64)), .second, .val (.int vi1), .unset, .unset, .unset, .unset, .unset, .unset, .unset, .unset, .unset, .unset] [(.long (p0 &&& (1048575 : Int64)))]))) (fun t_ k_ => XS.land X0.here hx rfl (hb hby at_66) rfl k_) ?_
        generalize q_vi7 : (p0 &&& (1048575 : Int64)) = vi7
        refine Go.st (U := (s₁.setTop (mkF m 69 #[.val (.long p0), .second, .val (.int p1), .val (.int p2), .val (.long (9007199254740992 : Int64)), .second, .val (.int vi1), .val (.long vi7), .second, .unset, .unset, .unset, .unset, .unset, .unset, .unset, .unset] []))) (fun t_ k_ => XS.lstore X0.here hx rfl (hb hby at_67) rfl (l' := #[.val (.long p0), .second, .val (.int p1), .val (.int p2), .val (.long (9007199254740992 : Int64)), .second, .val (.int vi1), .val (.long vi7), .second, .unset, .unset, .unset, .unset, .unset, .unset, .unset, .unset]) rfl k_) ?_
        exact J69 vi7 
set_option maxRecDepth 65536 in
set_option maxHeartbeats 40000000 in
theorem comes_1 {Post : Tables → Env → Array Value → State → Outcome → State → Prop} (hpost : ∀ tb e args s v u, (limb_1_1.after args s (.returned v) u = true ∧ limb_1_2.after args s (.returned v) u = true ∧ True) → FrameEnd s (.returned v) u (Jvm.fieldLocs frame_1_writes args s ++ Jvm.arrayLocs frame_1_arrays args s ++ Jvm.staticLocs frame_1_statics s) 0 0 → Post tb e args s (.returned v) u) :
    ArmFor flags0 classFile x code maxLocals ret World_1 tables_1 room_1 Calls_1 rest_1 Pre_1 Post := by
  intro l hfl _ _ p e ha hc hk s m args below hf hA hF happ hP
  obtain ⟨hcalls, hrest, hpre⟩ := hP
  obtain ⟨-, -, -, hnamed, -, -, -, hat⟩ := (Spec.applies_iff hf).mp happ
  obtain ⟨hg, hn⟩ := and_e (Cond.before_iff.mp (show (Jvm.Cond.and given_1 narrow_1).before args s = true from hpre))
  obtain ⟨hcnt, k0⟩ := and_e hg
  obtain ⟨j0, k1⟩ := and_e k0
  obtain ⟨j1, k2⟩ := and_e k1
  have j2 := k2
  obtain ⟨w0, w1, w2, rfl⟩ : ∃ w0 w1 w2 : Value, args = #[w0, w1, w2] := by
    have hs : args.size = 3 := by simpa [Cond.value, given_1] using hcnt
    obtain ⟨L⟩ := args
    match L, hs with
    | [w0, w1, w2], _ => exact ⟨w0, w1, w2, rfl⟩
  have hw := fun d (hd : d ∈ tables_1) => atoms_spec (ws := Jvm.Cond.code x code maxLocals ret :: tables_1) hat d (List.mem_cons_of_mem _ hd)
  have hfit : Fit s := fun {y c} hc i hi => by
    obtain ⟨ha, rfl⟩ := Array.getElem?_eq_some_iff.mp hc
    have q := List.all_eq_true.mp ((Array.all_eq_true_iff_forall_mem.mp hF) _ (Array.getElem_mem ha)) i (List.mem_range.mpr hi)
    simpa [Array.getElem?_eq_getElem hi] using q
  obtain ⟨i0, e0⟩ := isL_v j0
  obtain rfl : w0 = (.long i0) := Option.some.inj e0
  obtain ⟨i1, e1⟩ := is_v j1
  obtain rfl : w1 = (.int i1) := Option.some.inj e1
  obtain ⟨i2, e2⟩ := is_v j2
  obtain rfl : w2 = (.int i2) := Option.some.inj e2
  obtain ⟨c0, n1⟩ := and_e hn
  obtain ⟨rr, en⟩ := arr_v c0
  obtain ⟨cl, AA⟩ := Arr.start en c0
  obtain ⟨c1, n2⟩ := and_e n1
  obtain ⟨z1, z2⟩ := own_len c1 en AA
  obtain ⟨d0, n3⟩ := and_e n2
  obtain ⟨d1, n4⟩ := and_e n3
  obtain ⟨d2, n5⟩ := and_e n4
  obtain ⟨d3, n6⟩ := and_e n5
  obtain ⟨d4, n7⟩ := and_e n6
  obtain ⟨d5, n8⟩ := and_e n7
  obtain ⟨d6, n9⟩ := and_e n8
  obtain ⟨d7, n10⟩ := and_e n9
  obtain ⟨d8, n11⟩ := and_e n10
  obtain ⟨d9, n12⟩ := and_e n11
  obtain ⟨d10, n13⟩ := and_e n12
  obtain ⟨d11, n14⟩ := and_e n13
  obtain ⟨d12, n15⟩ := and_e n14
  obtain ⟨d13, n16⟩ := and_e n15
  obtain ⟨d14, n17⟩ := and_e n16
  obtain ⟨d15, n18⟩ := and_e n17
  obtain ⟨d16, n19⟩ := and_e n18
  obtain ⟨d17, n20⟩ := and_e n19
  obtain ⟨d18, n21⟩ := and_e n20
  obtain ⟨d19, n22⟩ := and_e n21
  obtain ⟨d20, n23⟩ := and_e n22
  obtain ⟨d21, n24⟩ := and_e n23
  have d22 := n24
  have S0 : Sta s s.heap "com/example/order_hits/orderhits/text/Fields" "EXACT_POWERS_OF_TEN" "[D" (.ref rr) := Sta.start en (Or.inr ⟨hw _ (List.mem_of_getElem? (i := 5) rfl), hw _ (List.mem_of_getElem? (i := 9) rfl)⟩)
  have V0 : Arv s s.heap rr cl.cls .double 23 (own_vs.map Value.double) (.double 0) := Arv.start hfit AA z1 z2 (by decide) (by decide) ⟨own_el d0 en AA 0 4607182418800017408 (by decide) (by decide) (by decide), own_el d1 en AA 1 4621819117588971520 (by decide) (by decide) (by decide), own_el d2 en AA 2 4636737291354636288 (by decide) (by decide) (by decide), own_el d3 en AA 3 4652007308841189376 (by decide) (by decide) (by decide), own_el d4 en AA 4 4666723172467343360 (by decide) (by decide) (by decide), own_el d5 en AA 5 4681608360884174848 (by decide) (by decide) (by decide), own_el d6 en AA 6 4696837146684686336 (by decide) (by decide) (by decide), own_el d7 en AA 7 4711630319722168320 (by decide) (by decide) (by decide), own_el d8 en AA 8 4726483295884279808 (by decide) (by decide) (by decide), own_el d9 en AA 9 4741671816366391296 (by decide) (by decide) (by decide), own_el d10 en AA 10 4756540486875873280 (by decide) (by decide) (by decide), own_el d11 en AA 11 4771362005757984768 (by decide) (by decide) (by decide), own_el d12 en AA 12 4786511204640096256 (by decide) (by decide) (by decide), own_el d13 en AA 13 4801453603149578240 (by decide) (by decide) (by decide), own_el d14 en AA 14 4816244402031689728 (by decide) (by decide) (by decide), own_el d15 en AA 15 4831355200913801216 (by decide) (by decide) (by decide), own_el d16 en AA 16 4846369599423283200 (by decide) (by decide) (by decide), own_el d17 en AA 17 4861130398305394688 (by decide) (by decide) (by decide), own_el d18 en AA 18 4876203697187506176 (by decide) (by decide) (by decide), own_el d19 en AA 19 4891288408196988160 (by decide) (by decide) (by decide), own_el d20 en AA 20 4906019910204099648 (by decide) (by decide) (by decide), own_el d21 en AA 21 4921056587992461136 (by decide) (by decide) (by decide), own_el d22 en AA 22 4936209963552724370 (by decide) (by decide) (by decide), trivial⟩
  obtain ⟨n, o, h1, h2, h3, _, L, rfl, ⟨rfl, N⟩, hq⟩ := rm_law l s _ hw tables_1 i0 i1 i2 rr cl.cls s.heap s.heap.size (Nat.le_refl _) S0 V0 p e ha hc hk s m _ below hf ((Spec.applies_iff_loose hf).mp happ).1 ⟨rfl, State.Warmed39.refl s, rfl⟩ trivial
  refine ⟨n, _, h1, h2, h3, hpost _ _ _ _ _ _ ⟨Cond.after_iff.mpr rfl, Cond.after_iff.mpr (eq_i res_at (Term.int_eval (1)) rfl), trivial⟩ ⟨hq.1, hq.2.1, (hq.2.2.sift fun y hy => Or.inr (N y hy)).mono (by decide) (by decide)⟩⟩
theorem main_1_1 : Claimed_1_1 := comes_1 fun _ _ _ _ _ _ h hF => ⟨h.1, hF⟩
theorem main_1_2 : Claimed_1_2 := comes_1 fun _ _ _ _ _ _ h hF => ⟨h.2.1, hF⟩
end Jvm.Pilot.@@N@@
namespace Jvm.Pilot.@@N@@
open Jvm Jvm.ClassFile Sem Op Lib Jvm.Free Jvm.Stand Jvm.Pilot.@@N@@.Jvm.D
/-! MADE BY PROGRAM (witnessworld.py) out of the Statement's table words and the real class files: 11 classes; the members and pool entries that the words name. The judged class is class 1, her method 2. -/
namespace start1
open Jvm.ClassFile
def u (s : String) : CpInfo := .utf8 (stringToUtf16 s)
/-- a pool by its gaps: so many unusable entries, then the entry; so many at the end -/
def gap : Nat → List CpInfo → List CpInfo
  | 0, r => r
  | n + 1, r => .unusable :: gap n r
def poolList (es : List (Nat × CpInfo)) (last : Nat) : List CpInfo := es.foldr (fun e r => gap e.1 (e.2 :: r)) (gap last [])
def pool (es : List (Nat × CpInfo)) (last : Nat) : Array CpInfo := ⟨poolList es last⟩
def fileOf (pool : Array CpInfo) (this : Nat) (attrs : Array Attribute := #[]) (ms : Array MethodInfo := #[]) (fl : Nat := 33) (sup : Nat := 0) (ifs : Array Nat := #[]) (fds : Array FieldInfo := #[]) : ClassFile where
  minorVersion := 0
  majorVersion := 65
  constantPool := pool
  accessFlags := fl
  thisClass := this
  superClass := sup
  interfaces := ifs
  fields := fds
  methods := ms
  attributes := attrs
def plain (name : String) (sup : Option ClassId) : Class where
  name := name
  kind := .ordinary
  loader := none
  accessFlags := 33
  super := sup
  interfaces := #[]
  cf := none
  fields := #[]
  methods := #[]
  instanceTypes := #[]
  staticTypes := #[]
  resolved := #[]
  callSites := []
  init := .initialized
  statics := none
  mirror := none

def pool0 : Array CpInfo := pool [(5, u "<init>"), (0, u "()V"), (1, .class_ 10), (1, u "java/lang/Object")] 113

def k0m0 : Method := { name := "<init>", desc := "()V", sig := { parameters := [], returnType := none }, accessFlags := 1, code := none }
/-- java/lang/Object -/
def k0 : Class := { plain "java/lang/Object" none with
  accessFlags := 33
  interfaces := #[]
  cf := some (fileOf pool0 8 #[] #[{ accessFlags := 1, nameIndex := 5, descriptorIndex := 6, attributes := #[] }] 33 0 #[] #[])
  fields := #[]
  methods := #[k0m0]
  instanceTypes := #[]
  staticTypes := #[]
  resolved := Array.replicate 124 none
  statics := none }

def pool1 : Array CpInfo := pool [(2, .class_ 4), (1, u "java/lang/Object"), (0, u "<init>"), (0, u "()V"), (0, .double 4621819117588971520), (1, .double 4636737291354636288), (1, .double 4666723172467343360), (1, .double 4726483295884279808), (1, .double 4846369599423283200), (1, .long 9007199254740992), (1, .long 18014398509481983), (3, .long 9223372036854775807), (1, .long 3), (1, .long 1048575), (1, .integer 2147483647), (0, .methodref 31 32), (0, .class_ 33), (0, .nameAndType 34 35), (0, u "com/example/order_hits/orderhits/text/Fields"), (0, u "exactDecimal"), (0, u "(JIZ)D"), (0, .methodref 37 38), (0, .class_ 39), (0, .nameAndType 40 41), (0, u "com/example/order_hits/orderhits/text/FieldsExactDecimalPinLaw"), (0, u "tenTo"), (0, u "(I)D"), (3, u "law"), (0, u "(JII)Z")] 2

def k1m0 : Method := { name := "<init>", desc := "()V", sig := { parameters := [], returnType := none }, accessFlags := 2, code := none }
def k1c1 : Code := { maxStack := 4, maxLocals := 3, code := method_2_code, exceptionTable := #[], attributes := #[] }
def k1m1 : Method := { name := "tenTo", desc := "(I)D", sig := { parameters := [.int], returnType := some .double }, accessFlags := 10, code := some k1c1 }
def k1c2 : Code := { maxStack := 6, maxLocals := 17, code := code, exceptionTable := #[], attributes := #[] }
def k1m2 : Method := { name := "law", desc := "(JII)Z", sig := { parameters := [.long, .int, .int], returnType := some .boolean }, accessFlags := 9, code := some k1c2 }
/-- com/example/order_hits/orderhits/text/FieldsExactDecimalPinLaw -/
def k1 : Class := { plain "com/example/order_hits/orderhits/text/FieldsExactDecimalPinLaw" (some 0) with
  accessFlags := 49
  interfaces := #[]
  cf := some (fileOf pool1 37 #[] #[{ accessFlags := 2, nameIndex := 5, descriptorIndex := 6, attributes := #[] }, { accessFlags := 10, nameIndex := 40, descriptorIndex := 41, attributes := #[] }, { accessFlags := 9, nameIndex := 45, descriptorIndex := 46, attributes := #[] }] 49 2 #[] #[])
  fields := #[]
  methods := #[k1m0, k1m1, k1m2]
  instanceTypes := #[]
  staticTypes := #[]
  resolved := Array.replicate 49 none
  statics := none }

def pool2 : Array CpInfo := pool [(2, .class_ 4), (1, u "java/lang/Object"), (0, u "<init>"), (0, u "()V"), (54, .class_ 63), (1, u "com/example/order_hits/orderhits/text/Fields"), (40, u "UTC_TIME"), (0, u "Ljava/util/regex/Pattern;"), (31, .long 9007199254740992), (1, .double 9221120237041090560), (3, u "exactDecimal"), (0, u "(JIZ)D"), (0, .fieldref 61 146), (0, .nameAndType 147 148), (0, u "EXACT_POWERS_OF_TEN"), (0, u "[D"), (50, u "EXACT_WHOLE_LIMIT"), (0, u "J")] 47

def k2m0 : Method := { name := "<init>", desc := "()V", sig := { parameters := [], returnType := none }, accessFlags := 2, code := none }
def k2c1 : Code := { maxStack := 4, maxLocals := 6, code := prog_65_method_10_code, exceptionTable := #[], attributes := #[] }
def k2m1 : Method := { name := "exactDecimal", desc := "(JIZ)D", sig := { parameters := [.long, .int, .boolean], returnType := some .double }, accessFlags := 8, code := some k2c1 }
/-- com/example/order_hits/orderhits/text/Fields -/
def k2 : Class := { plain "com/example/order_hits/orderhits/text/Fields" (some 0) with
  accessFlags := 33
  interfaces := #[]
  cf := some (fileOf pool2 61 #[] #[{ accessFlags := 2, nameIndex := 5, descriptorIndex := 6, attributes := #[] }, { accessFlags := 8, nameIndex := 143, descriptorIndex := 144, attributes := #[] }] 33 2 #[] #[{ accessFlags := 26, nameIndex := 104, descriptorIndex := 105, attributes := #[] }, { accessFlags := 24, nameIndex := 199, descriptorIndex := 200, attributes := #[] }, { accessFlags := 26, nameIndex := 147, descriptorIndex := 148, attributes := #[] }])
  fields := #[{ name := "UTC_TIME", type := (.object "java/util/regex/Pattern"), accessFlags := 26, slot := 0, constantValue := 0 }, { name := "EXACT_WHOLE_LIMIT", type := .long, accessFlags := 24, slot := 1, constantValue := 0 }, { name := "EXACT_POWERS_OF_TEN", type := (.array .double), accessFlags := 26, slot := 2, constantValue := 0 }]
  methods := #[k2m0, k2m1]
  instanceTypes := #[]
  staticTypes := #[(.object "java/util/regex/Pattern"), .long, (.array .double)]
  resolved := Array.replicate 248 none
  statics := some 0 }

def pool3 : Array CpInfo := pool [(1, u "java/lang/Cloneable"), (0, .class_ 1), (0, u "java/lang/Object"), (0, .class_ 3)] 3

/-- java/lang/Cloneable -/
def k3 : Class := { plain "java/lang/Cloneable" (some 0) with
  accessFlags := 1537
  interfaces := #[]
  cf := some (fileOf pool3 2 #[] #[] 1537 4 #[] #[])
  fields := #[]
  methods := #[]
  instanceTypes := #[]
  staticTypes := #[]
  resolved := Array.replicate 8 none
  statics := none }

def pool4 : Array CpInfo := pool [(1, u "java/io/Serializable"), (0, .class_ 1), (0, u "java/lang/Object"), (0, .class_ 3)] 3

/-- java/io/Serializable -/
def k4 : Class := { plain "java/io/Serializable" (some 0) with
  accessFlags := 1537
  interfaces := #[]
  cf := some (fileOf pool4 2 #[] #[] 1537 4 #[] #[])
  fields := #[]
  methods := #[]
  instanceTypes := #[]
  staticTypes := #[]
  resolved := Array.replicate 8 none
  statics := none }

/-- the primitive byte -/
def k5 : Class := { plain "byte" none with kind := .primitive 'B', accessFlags := 0x411 }
/-- [B -/
def k6 : Class := { plain "[B" (some 0) with kind := .array 5 .byte, interfaces := #[3, 4], accessFlags := 1041 }

/-- the primitive double -/
def k7 : Class := { plain "double" none with kind := .primitive 'D', accessFlags := 0x411 }
/-- [D -/
def k8 : Class := { plain "[D" (some 0) with kind := .array 7 .double, interfaces := #[3, 4], accessFlags := 1041 }

/-- the primitive int -/
def k9 : Class := { plain "int" none with kind := .primitive 'I', accessFlags := 0x411 }
/-- [I -/
def k10 : Class := { plain "[I" (some 0) with kind := .array 9 .int, interfaces := #[3, 4], accessFlags := 1041 }

def heap : Heap := #[{ cls := 2, slots := #[.null, .long 0, .ref 1], vm := .statics 2 },
  { cls := 8, slots := #[.double 4607182418800017408, .double 4621819117588971520, .double 4636737291354636288, .double 4652007308841189376, .double 4666723172467343360, .double 4681608360884174848, .double 4696837146684686336, .double 4711630319722168320, .double 4726483295884279808, .double 4741671816366391296, .double 4756540486875873280, .double 4771362005757984768, .double 4786511204640096256, .double 4801453603149578240, .double 4816244402031689728, .double 4831355200913801216, .double 4846369599423283200, .double 4861130398305394688, .double 4876203697187506176, .double 4891288408196988160, .double 4906019910204099648, .double 4921056587992461136, .double 4936209963552724370], vm := .none }]
def classes : Array Class := #[k0, k1, k2, k3, k4, k5, k6, k7, k8, k9, k10]
def interned : List (Array UInt16 × Addr) := []
def slotsUsed : Nat := 26
def theMethod : MethodId := ⟨1, 2⟩
def args0 : Array Value := #[.long 5, .int 7, .int 9]
def aboutOver (below : List Frame) : State where
  vm := { classes := classes, interned := interned.toArray }
  heap := heap
  slotsUsed := slotsUsed
  threads := #[{ frames := .invoking theMethod args0 :: below }]
def below0 : List Frame := [.native { method := ⟨0, 0⟩, args := #[] }]
def about1 : State := aboutOver below0
def p0 : Program := .bare "" "" ""
def e0 : Env := launch0.env 0 0 0
theorem w_frames : about1.frames = Frame.invoking theMethod args0 :: below0 := rfl
set_option maxRecDepth 65536 in
theorem w_args : argsFit about1.vm theMethod args0 = true := by decide +kernel
set_option maxRecDepth 65536 in
theorem w_heap : heapFits about1 = true := by decide +kernel
set_option maxRecDepth 65536 in
theorem w_runnable : about1.curStatus? = some .runnable := by decide +kernel
set_option maxRecDepth 65536 in
theorem w_alone : about1.alone = true := by decide +kernel
set_option maxRecDepth 65536 in
theorem w_named : about1.methodNamed? x = some theMethod := by decide +kernel
set_option maxRecDepth 65536 in
theorem w_hears : about1.hears theMethod below0 = true := by decide +kernel
set_option maxRecDepth 65536 in
theorem w_ripe : about1.ripe theMethod args0 below0 = true := by decide +kernel
theorem w_running : about1.status = .running := rfl
set_option maxRecDepth 65536 in
theorem w_room : about1.hasRoom e0.platform room_1 = true :=
  launch0.hasRoom_least _ room_1 (by decide +kernel) (by decide +kernel) (by decide +kernel) (by decide +kernel) (by decide +kernel) (by decide +kernel)
theorem allAtoms_all (ts : List Jvm.Cond) (a : Array Jvm.Value) (st : Jvm.State) : (allAtoms ts).before a st = ts.all (fun c => c.before a st) := by
  induction ts with
  | nil => rfl
  | cons c t ih =>
    show (Jvm.Cond.and c (allAtoms t)).before a st = _
    rw [Jvm.Cond.before_and, ih, List.all_cons]
def words1 : List Jvm.Cond := Jvm.Cond.code x code maxLocals ret :: tables_1
/-- a 'code' word, met by the world's own term for the bytes: nothing is compared byte by byte -/
theorem code_word {y : MethodName} {bytes : ByteArray} {mx : Nat} {rt : Option FieldType} {a : Array Value} {s : State} {m : MethodId} {meth : Method} {c : Code} (h1 : s.methodNamed? y = some m) (h2 : s.vm.method? m = some meth) (h3 : meth.code = some c) (h4 : c.code = bytes)
    (h5 : (c.maxLocals == mx && c.exceptionTable.isEmpty && decide (c.maxStack ≤ mostOperands) && decide (meth.sig.returnType = rt) && !meth.locks && decide (parseMethodDescriptor y.desc = some meth.sig)) = true) : (Jvm.Cond.code y bytes mx rt).before a s = true := by
  simp only [Bool.and_eq_true, beq_iff_eq, Bool.not_eq_true', decide_eq_true_eq] at h5
  obtain ⟨⟨⟨⟨⟨g1, g2⟩, g3⟩, g4⟩, g5⟩, g6⟩ := h5
  simp [Cond.before, Cond.holds, Cond.value, h1, h2, h3, h4, g1, g2, g3, g4, g5, g6]
def isCode : Jvm.Cond → Bool
  | .code _ _ _ _ => true
  | _ => false
theorem all_split {L : List Jvm.Cond} {P : Jvm.Cond → Bool} (h1 : L.all (fun c => isCode c || P c) = true) (h2 : ∀ c ∈ L.filter isCode, P c = true) : L.all P = true := by
  refine List.all_eq_true.mpr fun c hc => ?_
  have h := List.all_eq_true.mp h1 c hc
  rcases Bool.eq_false_or_eq_true (isCode c) with hi | hi
  · exact h2 c (List.mem_filter.mpr ⟨hc, hi⟩)
  · simpa [hi] using h
set_option maxRecDepth 65536 in
theorem w_c0 : (Jvm.Cond.code x code maxLocals ret).before args0 about1 = true := code_word (m := ⟨1, 2⟩) (meth := k1m2) (c := k1c2) (by decide +kernel) rfl rfl rfl (by decide +kernel)
set_option maxRecDepth 65536 in
theorem w_c1 : (Jvm.Cond.code ({ cls := "com/example/order_hits/orderhits/text/Fields", name := "exactDecimal", desc := "(JIZ)D" } : Jvm.MethodName) prog_65_method_10_code (6 : Nat) (Option.some Jvm.ClassFile.FieldType.double)).before args0 about1 = true := code_word (m := ⟨2, 1⟩) (meth := k2m1) (c := k2c1) (by decide +kernel) rfl rfl rfl (by decide +kernel)
set_option maxRecDepth 65536 in
theorem w_c2 : (Jvm.Cond.code ({ cls := "com/example/order_hits/orderhits/text/FieldsExactDecimalPinLaw", name := "tenTo", desc := "(I)D" } : Jvm.MethodName) method_2_code (3 : Nat) (Option.some Jvm.ClassFile.FieldType.double)).before args0 about1 = true := code_word (m := ⟨1, 1⟩) (meth := k1m1) (c := k1c1) (by decide +kernel) rfl rfl rfl (by decide +kernel)
def codes1 : List Jvm.Cond := [Jvm.Cond.code x code maxLocals ret, Jvm.Cond.code ({ cls := "com/example/order_hits/orderhits/text/Fields", name := "exactDecimal", desc := "(JIZ)D" } : Jvm.MethodName) prog_65_method_10_code (6 : Nat) (Option.some Jvm.ClassFile.FieldType.double), Jvm.Cond.code ({ cls := "com/example/order_hits/orderhits/text/FieldsExactDecimalPinLaw", name := "tenTo", desc := "(I)D" } : Jvm.MethodName) method_2_code (3 : Nat) (Option.some Jvm.ClassFile.FieldType.double)]
set_option maxRecDepth 65536 in
theorem codes_eq : words1.filter isCode = codes1 := rfl
theorem w_codes : ∀ c ∈ words1.filter isCode, c.before args0 about1 = true := by
  rw [codes_eq]
  intro c hc
  simp only [codes1, List.mem_cons, List.not_mem_nil, or_false] at hc
  rcases hc with rfl | rfl | rfl
  · exact w_c0
  · exact w_c1
  · exact w_c2
set_option maxRecDepth 65536 in
theorem w_t1 : words1.all (fun c => isCode c || c.before args0 about1) = true := by decide +kernel
theorem w_tables : (allAtoms (Jvm.Cond.code x code maxLocals ret :: tables_1)).before args0 about1 = true := by
  rw [allAtoms_all]
  show words1.all (fun c => c.before args0 about1) = true
  refine all_split ?_ w_codes
  rw [w_t1]
set_option maxRecDepth 65536 in
theorem w_case : (Jvm.Cond.and given_1 narrow_1).before args0 about1 = true := by decide +kernel
theorem w_applies : (headSpec (Jvm.Cond.code x code maxLocals ret :: tables_1) room_1).applies x e0.platform about1 = true :=
  (Spec.applies_iff w_frames).mpr ⟨w_running, w_runnable, w_alone, w_named, w_hears, w_ripe, w_room, w_tables⟩
theorem atStart : AtStart classFile x code maxLocals ret World_1 tables_1 room_1 Calls_1 rest_1 Pre_1 launch0 p0 e0 about1 theMethod args0 below0 :=
  ⟨lists_1, trivial, launch0.admits_env _ _ _, launch0.least_env, fairChoices_fair.cas, fairChoices_fair.clock, w_frames, w_args, w_heap, w_applies, trivial, trivial, w_case⟩
end start1
theorem witness_1 : WitnessClaimed_1 := ⟨start1.p0, start1.e0, start1.about1, start1.theMethod, start1.args0, start1.below0, start1.atStart⟩
end Jvm.Pilot.@@N@@
