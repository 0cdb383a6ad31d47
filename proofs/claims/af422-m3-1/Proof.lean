import JvmDerived
import JvmDerived.Pilot.@@N@@Statement
import JvmDerived.Pilot.@@N@@Code
set_option linter.unusedVariables false
set_option linter.unusedSimpArgs false
@@BLOCK:NumsL.lean.txt@@
namespace Jvm.RoadKit
open Sem ClassFile Op Lib Jvm.Stand Jvm.Free Jvm.LawKit
section Go
variable {p : Program} {l : Launch} {e : Env} {R : Room} {s : State} {m : MethodId} {args : Array Value} {below : List Frame} {meth : Method} {c : Code} {T : State} {locs : List Loc} {cells slots : Nat} {Z : State} {a0 : Array Value} {h : Heap}
/-- the run from U comes to its return, and leaves what Qv says -/
def Go (p : Program) (e : Env) (below : List Frame) (s : State) (R : Room) (Qv : Option Value → Heap → List Loc → Prop) (U : State) : Prop :=
  ∃ s₂ o, Steps p.tables e below U s₂ ∧ s₂.status = .running ∧ Ended s₂ below o ∧ ∃ v L, o = .returned v ∧ Qv v s₂.heap L ∧ FrameEnd s o s₂ L R.cells R.slots
variable {Qv : Option Value → Heap → List Loc → Prop} {U V : State}
theorem Go.st (h : ∀ t, Steps p.tables e below U t → Steps p.tables e below V t) (k : Go p e below s R Qv U) : Go p e below s R Qv V := by
  obtain ⟨t, o, h1, r⟩ := k
  exact ⟨t, o, h t h1, r⟩
theorem Go.ret (X : Stand p l e R s m args below meth c T locs cells slots) (hlk : meth.locks = false) {v : Option Value} (hv : meth.sig.returnType = none → v = none) (hc : cells ≤ R.cells) (hs : slots ≤ R.slots) (hq : Qv v T.heap locs)
    (st : ∀ fs, (∀ (f : JFrame) (acts : List Action), f.method = m → f.locked = none → f.entered = [] → (doReturn e (T.setTop f) acts v).1 = T.setFrames fs) → Steps p.tables e below V (T.setFrames fs)) : Go p e below s R Qv V := by
  obtain ⟨fs, hr, hrun, hended, hW, hsame⟩ := X.leave (v := v) hv hlk
  exact ⟨_, _, st fs hr, hrun, hended, _, _, rfl, hq, ⟨_, rfl⟩, hW, hsame.mono hc hs⟩
theorem Go.retD (X : Stand p l e R s m args below meth c T locs cells slots) (hx : p.tables.exec = Jvm.exec) (hlk : meth.locks = false) (hret : meth.sig.returnType = some .double) {pc : Nat} {Ls : Array Slot} {z : UInt64} {rest : List Value} (hd : decode c.code pc = .ok (.dreturn, 1)) (hc : cells ≤ R.cells) (hs : slots ≤ R.slots)
    (hq : Qv (some (.double z)) T.heap locs) : Go p e below s R Qv (T.setTop (mkF m pc Ls (.double z :: rest))) :=
  Go.ret X hlk (v := some (.double z)) (fun q => by rw [hret] at q; cases q) hc hs hq fun fs hr => retOut X hx hret rfl (Or.inr (Or.inr (Or.inl ⟨rfl, rfl, _, rfl⟩))) hd hr
theorem Go.retJ (X : Stand p l e R s m args below meth c T locs cells slots) (hx : p.tables.exec = Jvm.exec) (hlk : meth.locks = false) (hret : meth.sig.returnType = some .long) {pc : Nat} {Ls : Array Slot} {z : Int64} {rest : List Value} (hd : decode c.code pc = .ok (.lreturn, 1)) (hc : cells ≤ R.cells) (hs : slots ≤ R.slots)
    (hq : Qv (some (.long z)) T.heap locs) : Go p e below s R Qv (T.setTop (mkF m pc Ls (.long z :: rest))) :=
  Go.ret X hlk (v := some (.long z)) (fun q => by rw [hret] at q; cases q) hc hs hq fun fs hr => retOut X hx hret rfl (Or.inr (Or.inl ⟨rfl, rfl, _, rfl⟩)) hd hr
theorem Go.retI (X : Stand p l e R s m args below meth c T locs cells slots) (hx : p.tables.exec = Jvm.exec) (hlk : meth.locks = false) (hret : meth.sig.returnType = some .int) {pc : Nat} {Ls : Array Slot} {z : Int32} {rest : List Value} (hd : decode c.code pc = .ok (.ireturn, 1)) (hc : cells ≤ R.cells) (hs : slots ≤ R.slots)
    (hq : Qv (some (.int z)) T.heap locs) : Go p e below s R Qv (T.setTop (mkF m pc Ls (.int z :: rest))) :=
  Go.ret X hlk (v := some (.int z)) (fun q => by rw [hret] at q; cases q) hc hs hq fun fs hr => retOut X hx hret rfl (Or.inl ⟨rfl, Or.inl rfl, _, rfl⟩) hd hr
theorem Go.retZ (X : Stand p l e R s m args below meth c T locs cells slots) (hx : p.tables.exec = Jvm.exec) (hlk : meth.locks = false) (hret : meth.sig.returnType = some .boolean) {pc : Nat} {Ls : Array Slot} {z : Int32} {rest : List Value} (hd : decode c.code pc = .ok (.ireturn, 1)) (hc : cells ≤ R.cells) (hs : slots ≤ R.slots)
    (hq : Qv (some (.int (nar .boolean z))) T.heap locs) : Go p e below s R Qv (T.setTop (mkF m pc Ls (.int z :: rest))) :=
  Go.ret X hlk (v := some (.int (nar .boolean z))) (fun q => by rw [hret] at q; cases q) hc hs hq fun fs hr => retN X hx hret (Or.inl rfl) hd hr
theorem Go.retV (X : Stand p l e R s m args below meth c T locs cells slots) (hx : p.tables.exec = Jvm.exec) (hlk : meth.locks = false) (hret : meth.sig.returnType = none) {pc : Nat} {Ls : Array Slot} {st : List Value} (hd : decode c.code pc = .ok (.return_, 1)) (hc : cells ≤ R.cells) (hs : slots ≤ R.slots)
    (hq : Qv none T.heap locs) : Go p e below s R Qv (T.setTop (mkF m pc Ls [])) :=
  Go.ret X hlk (v := none) (fun _ => rfl) hc hs hq fun fs hr => X.returnOut hx hret hd hr
theorem Go.callS (X : Stand p l e R s m args below meth c T locs cells slots) (hx : p.tables.exec = Jvm.exec) (hZ : Z.Warmed39 s.vm) {own : String} {index : Nat} {y : MethodName} {bytes : ByteArray} {maxL : Nat} {ret : Option FieldType} (hown : s.vm.findClass own = some m.cls)
    (w1 : (Cond.methodLink own index y).before a0 Z = true) (w2 : (Cond.static y).before a0 Z = true) (w3 : (Cond.initialized y.cls).before a0 Z = true) (w4 : (Cond.code y bytes maxL ret).before a0 Z = true) (hy : y.cls ≠ "java/lang/invoke/MethodHandle" ∧ y.cls ≠ "java/lang/invoke/VarHandle")
    {rm : Room} {as' : Array Value} {Q : Option Value → Heap → List Loc → Prop}
    (hM : MetFree l y (head1 [Cond.code y bytes maxL ret] rm) (fun a U => a = as' ∧ Z.Warmed39 U.vm ∧ U.heap = h) (fun _ _ _ _ _ => True) (fun _ U o U' => ∃ v L, o = .returned v ∧ Q v U'.heap L ∧ FrameEnd U o U' L rm.cells rm.slots))
    (eT : T.heap = h) (W : Nat) (hf : rm.frames + 1 ≤ R.frames) (hl : W + (maxL + 11) + rm.locals ≤ R.locals) {g : JFrame} (hg : g.method = m) (hsize : g.locals.size = c.maxLocals) (argsL rest : List Value) (ha : as' = argsL.toArray)
    (hlen : ∀ sig, parseMethodDescriptor y.desc = some sig → argsL.length = sig.parameters.length) (hst : g.stack = argsL.reverse ++ rest) (hW : 2 * g.monitorRoom + (rest.map fun v => v.category).sum ≤ W) (hd : decode c.code g.pc = .ok (.invokestatic index, 3)) (hc : cells + rm.cells ≤ R.cells) (hs : slots + rm.slots ≤ R.slots)
    (k : ∀ v T' L, Q v T'.heap L → Stand p l e R s m args below meth c T' (locs ++ L) (cells + rm.cells) (slots + rm.slots) → Go p e below s R Qv (T'.setTop { g with pc := g.pc + 3, stack := v.toList ++ rest })) : Go p e below s R Qv (T.setTop g) := by
  subst ha
  obtain ⟨v, vm1, ⟨T', L', c', n'⟩, -, X', ⟨L, hQ, l1, y1, z1⟩, st⟩ := Jvm.LawKit.callS X hx hown (mvT hZ w1) (mvT hZ w2) (mvT hZ w3) (mvT hZ w4) hy (backOf (W := W) hM hZ w4 w3 hf hl) hg hsize (argsL := argsL) (rest := rest) hlen hst hW hd (fun _ _ => ⟨rfl, eT, hc, hs⟩)
  dsimp only [Pt.U, Pt.locs, Pt.cells, Pt.slots] at X' l1 y1 z1 st hQ
  subst l1 y1 z1
  exact Go.st st (k v T' L hQ X')
theorem Go.callI (X : Stand p l e R s m args below meth c T locs cells slots) (hx : p.tables.exec = Jvm.exec) (hZ : Z.Warmed39 s.vm) {own : String} {index : Nat} {y : MethodName} {bytes : ByteArray} {maxL : Nat} (hown : s.vm.findClass own = some m.cls) (hy1 : y.name = "<init>")
    (w1 : (Cond.methodLink own index y).before a0 Z = true) (w2 : (Cond.instanceMethod y).before a0 Z = true) (w3 : (Cond.initialized y.cls).before a0 Z = true) (w4 : (Cond.code y bytes maxL none).before a0 Z = true) (hy : y.cls ≠ "java/lang/invoke/MethodHandle" ∧ y.cls ≠ "java/lang/invoke/VarHandle")
    {rm : Room} {as' : Array Value} {Q : Option Value → Heap → List Loc → Prop}
    (hM : MetFree l y (head1 [Cond.code y bytes maxL none] rm) (fun a U => a = as' ∧ Z.Warmed39 U.vm ∧ U.heap = h) (fun _ _ _ _ _ => True) (fun _ U o U' => ∃ v L, o = .returned v ∧ Q v U'.heap L ∧ FrameEnd U o U' L rm.cells rm.slots))
    (eT : T.heap = h) (W : Nat) (hf : rm.frames + 1 ≤ R.frames) (hl : W + (maxL + 11) + rm.locals ≤ R.locals) {g : JFrame} (hg : g.method = m) (hsize : g.locals.size = c.maxLocals) (a : Addr) (argsL rest : List Value) (ha : as' = (.ref a :: argsL).toArray)
    (hlen : ∀ sig, parseMethodDescriptor y.desc = some sig → argsL.length = sig.parameters.length) (hst : g.stack = argsL.reverse ++ .ref a :: rest) (hW : 2 * g.monitorRoom + (rest.map fun v => v.category).sum ≤ W) (hd : decode c.code g.pc = .ok (.invokespecial index, 3)) (hc : cells + rm.cells ≤ R.cells) (hs : slots + rm.slots ≤ R.slots)
    (k : ∀ v T' L, Q v T'.heap L → Stand p l e R s m args below meth c T' (locs ++ L) (cells + rm.cells) (slots + rm.slots) → Go p e below s R Qv (T'.setTop { g with pc := g.pc + 3, stack := v.toList ++ rest })) : Go p e below s R Qv (T.setTop g) := by
  subst ha
  obtain ⟨v, vm1, ⟨T', L', c', n'⟩, -, X', ⟨L, hQ, l1, y1, z1⟩, st⟩ := X.specialBack hx hy1 hown (mvT hZ w1) (mvT hZ w2) (mvT hZ w4) hy (backOf (W := W) hM hZ w4 w3 hf hl) hg hsize (Steps.refl _) (a := a) (argsL := argsL) (rest := rest) hlen hst hW hd (fun _ _ => ⟨rfl, eT, hc, hs⟩)
  dsimp only [Pt.U, Pt.locs, Pt.cells, Pt.slots] at X' l1 y1 z1 st hQ
  subst l1 y1 z1
  exact Go.st (fun t k => st.trans k) (k v T' L hQ X')
theorem Go.callV (X : Stand p l e R s m args below meth c T locs cells slots) (hx : p.tables.exec = Jvm.exec) (hZ : Z.Warmed39 s.vm) {own C : String} {index : Nat} {y : MethodName} {bytes : ByteArray} {maxL : Nat} {ret : Option FieldType} (hown : s.vm.findClass own = some m.cls)
    (w1 : (Cond.methodLink own index y).before a0 Z = true) (w2 : (Cond.declares y).before a0 Z = true) (w5 : (Cond.selects C y y).before a0 Z = true) (w6 : (Cond.instanceMethod y).before a0 Z = true) (w3 : (Cond.initialized y.cls).before a0 Z = true) (w4 : (Cond.code y bytes maxL ret).before a0 Z = true) (hy : y.cls ≠ "java/lang/invoke/MethodHandle" ∧ y.cls ≠ "java/lang/invoke/VarHandle")
    {rm : Room} {as' : Array Value} {Q : Option Value → Heap → List Loc → Prop}
    (hM : MetFree l y (head1 [Cond.code y bytes maxL ret] rm) (fun a U => a = as' ∧ Z.Warmed39 U.vm ∧ U.heap = h) (fun _ _ _ _ _ => True) (fun _ U o U' => ∃ v L, o = .returned v ∧ Q v U'.heap L ∧ FrameEnd U o U' L rm.cells rm.slots))
    (eT : T.heap = h) (a : Addr) (E : Exa Z h a C) (W : Nat) (hf : rm.frames + 1 ≤ R.frames) (hl : W + (maxL + 11) + rm.locals ≤ R.locals) {g : JFrame} (hg : g.method = m) (hsize : g.locals.size = c.maxLocals) (argsL rest : List Value) (ha : as' = (.ref a :: argsL).toArray)
    (hlen : ∀ sig, parseMethodDescriptor y.desc = some sig → argsL.length = sig.parameters.length) (hst : g.stack = argsL.reverse ++ .ref a :: rest) (hW : 2 * g.monitorRoom + (rest.map fun v => v.category).sum ≤ W) (hd : decode c.code g.pc = .ok (.invokevirtual index, 3)) (hc : cells + rm.cells ≤ R.cells) (hs : slots + rm.slots ≤ R.slots)
    (k : ∀ v T' L, Q v T'.heap L → Stand p l e R s m args below meth c T' (locs ++ L) (cells + rm.cells) (slots + rm.slots) → Go p e below s R Qv (T'.setTop { g with pc := g.pc + 3, stack := v.toList ++ rest })) : Go p e below s R Qv (T.setTop g) := by
  subst ha
  obtain ⟨cB, kB, q1, q2, q3⟩ := isOf hZ eT E
  obtain ⟨v, vm1, ⟨T', L', c', n'⟩, -, X', ⟨L, hQ, l1, y1, z1⟩, st⟩ := X.virtualBack hx hown (mvT hZ w1) (mvT hZ w2) (notFace_of_selects (args := #[]) (mvT hZ w5)) (mvT hZ w5) (mvT hZ w6) hy (backOf (W := W) hM hZ w4 w3 hf hl) q1 q3 hg hsize (Steps.refl _) (argsL := argsL) (rest := rest) hlen hst hW hd (fun _ _ => ⟨rfl, eT, hc, hs⟩)
  dsimp only [Pt.U, Pt.locs, Pt.cells, Pt.slots] at X' l1 y1 z1 st hQ
  subst l1 y1 z1
  exact Go.st (fun t k => st.trans k) (k v T' L hQ X')
/-- a body's contract, by its walk -/
theorem Go.met {y : MethodName} {bytes : ByteArray} {maxL : Nat} {ret : Option FieldType} {ws : List Cond} {rm : Room} {as' : Array Value} {Q : Option Value → Heap → List Loc → Prop} (hn : plainFor y = true)
    (body : ∀ (p : Program) (e : Env) (s : State) (m : MethodId) (below : List Frame) (meth : Method) (c : Code) (s₁ : State), p.tables.exec = Jvm.exec → c.code = bytes → c.maxLocals = maxL → s.vm.findClass y.cls = some m.cls → meth.name = y.name → meth.sig.returnType = ret → meth.locks = false → Z.Warmed39 s.vm → s₁.heap = h →
      Stand p l e rm s m as' below meth c s₁ [] 0 0 → Go p e below s rm Q (s₁.setTop (entryFrame m as' maxL))) :
    MetFree l y (head1 (Cond.code y bytes maxL ret :: ws) rm) (fun a U => a = as' ∧ Z.Warmed39 U.vm ∧ U.heap = h) (fun _ _ _ _ _ => True) (fun _ U o U' => ∃ v L, o = .returned v ∧ Q v U'.heap L ∧ FrameEnd U o U' L rm.cells rm.slots) := by
  refine MetFree.of_bodySF hn hisR ?_
  intro p e s m args below meth c s₁ Bd hml hP hK
  obtain ⟨rfl, hZ, hh⟩ := hP
  exact body p e s m below meth c s₁ Bd.exec Bd.bytes hml (findClass_of_methodNamed Bd.named) (name_of_methodNamed Bd.named Bd.method).1 Bd.returns Bd.notSynchronized hZ (by rw [← hh, Bd.state]; rfl) (Stand.of_body Bd)
theorem Keep.size_le {h0 h : Heap} {ws : List Addr} (K : Keep h0 h ws) : h0.size ≤ h.size := K.1
theorem Go.cast {g g' : JFrame} (q : g = g') (k : Go p e below s R Qv (T.setTop g')) : Go p e below s R Qv (T.setTop g) := q ▸ k
end Go
end Jvm.RoadKit
namespace Jvm.RoadKit
open Sem ClassFile Op Lib Jvm.Stand Jvm.Free Jvm.LawKit Jvm.Free.Fl
section GoFin
variable {p : Program} {l : Launch} {e : Env} {R : Room} {s : State} {m : MethodId} {args : Array Value} {below : List Frame} {meth : Method} {c : Code} {T : State} {locs : List Loc} {cells slots : Nat} {Z : State} {a0 : Array Value} {h : Heap} {Qv : Option Value → Heap → List Loc → Prop}
/-- Double.isFinite of a finite double, by the library's own law -/
theorem Go.isFin (X : Stand p l e R s m args below meth c T locs cells slots) (hx : p.tables.exec = Jvm.exec) (hZ : Z.Warmed39 s.vm) {own : String} {index : Nat} {b1 b2 : ByteArray} (hown : s.vm.findClass own = some m.cls)
    (w1 : (Cond.methodLink own index IsFinite.yN).before a0 Z = true) (w2 : (Cond.static IsFinite.yN).before a0 Z = true) (w3 : (Cond.initialized DC).before a0 Z = true) (w4 : (Cond.code IsFinite.yN b1 2 (some .boolean)).before a0 Z = true) (eb1 : b1 = IsFinite.yB)
    (u1 : (Cond.methodLink DC 38 Abs.absDN).before a0 Z = true) (u2 : (Cond.static Abs.absDN).before a0 Z = true) (u3 : (Cond.initialized "java/lang/Math").before a0 Z = true) (u4 : (Cond.code Abs.absDN b2 2 (some .double)).before a0 Z = true) (eb2 : b2 = Abs.absDCode) (u5 : (Cond.constantDouble DC 111 maxD).before a0 Z = true)
    {v : UInt64} (hf : Fin64 v) (eT : T.heap = h) (W : Nat) (hfr : 1 + 1 ≤ R.frames) (hlo : W + (2 + 11) + 13 ≤ R.locals) {g : JFrame} (hg : g.method = m) (hsize : g.locals.size = c.maxLocals) (rest : List Value) (hst : g.stack = .double v :: rest) (hW : 2 * g.monitorRoom + (rest.map fun v => v.category).sum ≤ W)
    (hd : decode c.code g.pc = .ok (.invokestatic index, 3)) (hc : cells ≤ R.cells) (hs : slots ≤ R.slots)
    (k : ∀ T', T'.heap = h → Stand p l e R s m args below meth c T' locs cells slots → Go p e below s R Qv (T'.setTop { g with pc := g.pc + 3, stack := .int 1 :: rest })) : Go p e below s R Qv (T.setTop g) := by
  subst eb1 eb2
  have htab : IsFinite.tab.before args s = true := by
    unfold IsFinite.tab
    simp only [Cond.before_and, Bool.and_eq_true]
    exact ⟨mvT hZ w4, mvT hZ u1, mvT hZ u2, mvT hZ u3, mvT hZ u4, mvT hZ u5⟩
  obtain ⟨vv, vm1, ⟨T', L', c', n'⟩, -, X', ⟨⟨h1, h2, h3, h4⟩, hv⟩, st⟩ := Jvm.LawKit.callS X hx hown (mvT hZ w1) (mvT hZ w2) (mvT hZ w3) (mvT hZ w4) (by decide) (IsFinite.pays (W := W) hfr hlo htab (mvT hZ w3)) hg hsize (argsL := [.double v]) (rest := rest) (fun sig q => by
    have : parseMethodDescriptor IsFinite.yN.desc = some ⟨[.double], some .boolean⟩ := by decide +kernel
    rw [this] at q; cases q; rfl) hst hW hd (fun _ _ => ⟨hc, hs, v, rfl, hf.noNaN⟩)
  dsimp only [Pt.U, Pt.locs, Pt.cells, Pt.slots] at X' h1 h2 h3 h4 st
  subst h2 h3 h4
  have e1 := hv v ⟨rfl, hf.noNaN⟩
  rw [if_pos ((le_max_iff hf.noNaN).mpr hf)] at e1
  subst e1
  exact Go.st st (k T' (h1.trans eT) X')
end GoFin
end Jvm.RoadKit
namespace Jvm.OwnFl
open Jvm Jvm.FP Jvm.FP.Core Jvm.Free.Fl Op
/-- a double as a whole number of the least doubles -/
abbrev zv (a : UInt64) : Int := zval b64 (val64 a)
theorem zv_def (a : UInt64) : zv a = zval b64 (val64 a) := rfl
theorem nn_int {i : Int} {a : UInt64} (h : DInt i a) : NoNaN64 a := val64_no.mpr (DInt_ne_nan h)
theorem nn_fin {a : UInt64} (h : DFin a) : NoNaN64 a := val64_no.mpr h.ne_nan
theorem fin_int {i : Int} {a : UInt64} (h : DInt i a) : DFin a := by
  unfold DInt at h
  cases hv : val64 a with
  | nan => rw [hv] at h; exact h.elim
  | inf s => rw [hv] at h; exact h.elim
  | fin s c q => exact ⟨s, c, q, hv⟩
/-! what a comparison pushes -/
theorem cv_lt {a b : UInt64} (ha : NoNaN64 a) (hb : NoNaN64 b) (h : zv a < zv b) (o : ClassFile.CmpOp) : cmpValue (FP.dcmp a b) o = -1 := by
  rw [show FP.dcmp a b = some .lt by
    show Core.dcmp a b = _
    rw [dcmp_zval (val64_no.mp ha) (val64_no.mp hb)]; exact congrArg some ((compare_lt_iff _ _).mpr h)]
  cases o <;> rfl
theorem cv_eq {a b : UInt64} (ha : NoNaN64 a) (hb : NoNaN64 b) (h : zv a = zv b) (o : ClassFile.CmpOp) : cmpValue (FP.dcmp a b) o = 0 := by
  rw [show FP.dcmp a b = some .eq by
    show Core.dcmp a b = _
    rw [dcmp_zval (val64_no.mp ha) (val64_no.mp hb)]; exact congrArg some ((compare_eq_iff _ _).mpr h)]
  cases o <;> rfl
theorem cv_gt {a b : UInt64} (ha : NoNaN64 a) (hb : NoNaN64 b) (h : zv b < zv a) (o : ClassFile.CmpOp) : cmpValue (FP.dcmp a b) o = 1 := by
  rw [show FP.dcmp a b = some .gt by
    show Core.dcmp a b = _
    rw [dcmp_zval (val64_no.mp ha) (val64_no.mp hb)]; exact congrArg some ((compare_gt_iff _ _).mpr h)]
  cases o <;> rfl
theorem cv_ge {a b : UInt64} (ha : NoNaN64 a) (hb : NoNaN64 b) (h : zv b ≤ zv a) (o : ClassFile.CmpOp) : ¬ (cmpValue (FP.dcmp a b) o < 0) := by
  rcases Int.lt_or_eq_of_le h with h | h
  · rw [cv_gt ha hb h o]; decide
  · rw [cv_eq ha hb h.symm o]; decide
theorem cv_le {a b : UInt64} (ha : NoNaN64 a) (hb : NoNaN64 b) (h : zv a ≤ zv b) (o : ClassFile.CmpOp) : ¬ (0 < cmpValue (FP.dcmp a b) o) := by
  rcases Int.lt_or_eq_of_le h with h | h
  · rw [cv_lt ha hb h o]; decide
  · rw [cv_eq ha hb h o]; decide
theorem cv_lt' {a b : UInt64} (ha : NoNaN64 a) (hb : NoNaN64 b) (h : zv a < zv b) (o : ClassFile.CmpOp) : cmpValue (FP.dcmp a b) o < 0 := by rw [cv_lt ha hb h o]; decide
theorem cv_gt' {a b : UInt64} (ha : NoNaN64 a) (hb : NoNaN64 b) (h : zv b < zv a) (o : ClassFile.CmpOp) : 0 < cmpValue (FP.dcmp a b) o := by rw [cv_gt ha hb h o]; decide
theorem cv_ne {a b : UInt64} (ha : NoNaN64 a) (hb : NoNaN64 b) (h : zv a ≠ zv b) (o : ClassFile.CmpOp) : ¬ (cmpValue (FP.dcmp a b) o = 0) := by
  rcases Int.lt_or_gt_of_ne h with h | h
  · rw [cv_lt ha hb h o]; decide
  · rw [cv_gt ha hb h o]; decide
/-! what lcmp pushes -/
theorem lc_eq {x y : Int64} : Jvm.RoadKit.lcmpW x y = 0 ↔ x.toInt = y.toInt := by
  rw [Int64.toInt_inj]
  unfold Jvm.RoadKit.lcmpW
  by_cases h : x > y
  · rw [if_pos h]; constructor
    · intro h1; exact absurd h1 (by decide)
    · rintro rfl; exact absurd h (Int64.lt_irrefl)
  · rw [if_neg h]
    by_cases h2 : x = y
    · rw [if_pos h2]; simp [h2]
    · rw [if_neg h2]; constructor
      · intro h1; exact absurd h1 (by decide)
      · intro h1; exact absurd h1 h2
theorem lc_gt {x y : Int64} : 0 < Jvm.RoadKit.lcmpW x y ↔ y.toInt < x.toInt := by
  rw [← Int64.lt_iff_toInt_lt]
  unfold Jvm.RoadKit.lcmpW
  by_cases h : x > y
  · rw [if_pos h]; exact ⟨fun _ => h, fun _ => by decide⟩
  · rw [if_neg h]
    by_cases h2 : x = y
    · rw [if_pos h2]; exact ⟨fun h1 => absurd h1 (by decide), fun h1 => absurd h1 h⟩
    · rw [if_neg h2]; exact ⟨fun h1 => absurd h1 (by decide), fun h1 => absurd h1 h⟩
theorem lc_lt {x y : Int64} : Jvm.RoadKit.lcmpW x y < 0 ↔ x.toInt < y.toInt := by
  by_cases h : x > y
  · have h3 := Int64.lt_iff_toInt_lt.mp h
    unfold Jvm.RoadKit.lcmpW
    rw [if_pos h]; exact ⟨fun h1 => absurd h1 (by decide), fun h1 => by omega⟩
  · have h3 : ¬ (y.toInt < x.toInt) := fun q => h (Int64.lt_iff_toInt_lt.mpr q)
    unfold Jvm.RoadKit.lcmpW
    rw [if_neg h]
    by_cases h2 : x = y
    · rw [if_pos h2]; subst h2; exact ⟨fun h1 => absurd h1 (by decide), fun h1 => by omega⟩
    · rw [if_neg h2]
      have h4 : x.toInt ≠ y.toInt := fun q => h2 (Int64.toInt_inj.mp q)
      exact ⟨fun _ => by omega, fun _ => by decide⟩
/-! whole numbers -/
theorem zv_int {i : Int} {a : UInt64} (h : DInt i a) : zv a = i * (one64 : Int) := DInt_zval h
theorem one_pos : (0 : Int) < (one64 : Int) := Int.ofNat_lt.mpr one64_pos
theorem cvi_eq {i j : Int} {a b : UInt64} (ha : DInt i a) (hb : DInt j b) (h : i = j) (o : ClassFile.CmpOp) : cmpValue (FP.dcmp a b) o = 0 :=
  cv_eq (nn_int ha) (nn_int hb) (by rw [zv_int ha, zv_int hb, h]) o
theorem cvi_lt {i j : Int} {a b : UInt64} (ha : DInt i a) (hb : DInt j b) (h : i < j) (o : ClassFile.CmpOp) : cmpValue (FP.dcmp a b) o = -1 :=
  cv_lt (nn_int ha) (nn_int hb) (by rw [zv_int ha, zv_int hb]; exact Int.mul_lt_mul_of_pos_right h one_pos) o
theorem cvi_gt {i j : Int} {a b : UInt64} (ha : DInt i a) (hb : DInt j b) (h : j < i) (o : ClassFile.CmpOp) : cmpValue (FP.dcmp a b) o = 1 :=
  cv_gt (nn_int ha) (nn_int hb) (by rw [zv_int ha, zv_int hb]; exact Int.mul_lt_mul_of_pos_right h one_pos) o
theorem zint : DInt 0 (0 : UInt64) := by unfold DInt; rw [val64_zero]; show signed false (0 * _) = 0 * _; simp [signed]
theorem l2dI {x : Int64} (h1 : -9007199254740992 ≤ x.toInt) (h2 : x.toInt ≤ 9007199254740992) : DInt x.toInt (FP.l2d x) := l2d_int (by omega)
theorem i2dI (x : Int32) : DInt x.toInt (FP.i2d x) := i2d_int x
theorem mulI {i j : Int} {a b : UInt64} (ha : DInt i a) (hb : DInt j b) (h : (i * j).natAbs ≤ 9007199254740992) : DInt (i * j) (FP.dmul a b) := dmul_int ha hb h
theorem addI {i j : Int} {a b : UInt64} (ha : DInt i a) (hb : DInt j b) (h : (i + j).natAbs ≤ 9007199254740992) : DInt (i + j) (FP.dadd a b) := dadd_int ha hb h
theorem subI {i j : Int} {a b : UInt64} (ha : DInt i a) (hb : DInt j b) (h : (i - j).natAbs ≤ 9007199254740992) : DInt (i - j) (FP.dsub a b) := dsub_int ha hb h
theorem absMul {i j : Int} {A B : Nat} (h1 : i.natAbs ≤ A) (h2 : j.natAbs ≤ B) : (i * j).natAbs ≤ A * B := by rw [Int.natAbs_mul]; exact Nat.mul_le_mul h1 h2
end Jvm.OwnFl
namespace Jvm.OwnFl
open Jvm Jvm.FP Jvm.FP.Core Jvm.Free.Fl Op
/-! ROUNDING: rz A B: the double nearest A / B, as a whole number of the least doubles -/
def rz (A B : Nat) : Nat := zmag b64 (roundRatio b64 false A B 0)
/-- v least doubles are a double -/
def Rep (v : Nat) : Prop := ∃ c q, Core.fits b64 (.fin false c q) ∧ inUnits c q b64.qmin = v
theorem qz : b64.qmin = -1074 := by decide
theorem rep_of {c k : Nat} (hc : c < 2 ^ 53) (hk : k ≤ 2045) : Rep (c * 2 ^ k) := by
  obtain ⟨c', q', h1, h2⟩ := round_exact good_b64 false (c := c) (q := b64.qmin + k) hc (by omega) (by have : b64.qmax = 971 := by decide
                                                                                                       rw [qz, this]; omega)
  refine ⟨c', q', ?_, ?_⟩
  · rw [← h1]; exact round_fits good_b64 _
  · rw [h2]; unfold inUnits; rw [show (b64.qmin + (k : Int) - b64.qmin).toNat = k by omega]
theorem rep_le {n k : Nat} (hn : n ≤ 2 ^ 53) (hk : k ≤ 2044) : Rep (n * 2 ^ k) := by
  rcases Nat.lt_or_eq_of_le hn with h | h
  · exact rep_of h (by omega)
  · have := rep_of (c := 2 ^ 52) (k := k + 1) (by decide) (by omega)
    rw [h]; rw [Nat.pow_succ] at this
    rw [show (2 : Nat) ^ 53 * 2 ^ k = 2 ^ 52 * (2 ^ k * 2) by rw [show (2 : Nat) ^ 53 = 2 ^ 52 * 2 from rfl]; grind]
    exact this
theorem rep_int {n : Nat} (hn : n ≤ 2 ^ 53) : Rep (n * one64) := rep_le hn (by decide)
theorem inU (A : Nat) : inUnits A 0 b64.qmin = A * one64 := by
  unfold inUnits; rw [← pow_qmin64, show (0 - b64.qmin : Int) = -b64.qmin by omega]
theorem rz_le {A B v : Nat} (hB : 0 < B) (hv : Rep v) (h : A * one64 ≤ v * B) : rz A B ≤ v := by
  obtain ⟨c, q, hf, rfl⟩ := hv
  refine zmag_roundRatio_le good_b64 hB hf (by simp) (e0 := b64.qmin) (Int.le_refl _) (by rw [qz]; decide) ?_
  rw [inU, show (b64.qmin - b64.qmin : Int).toNat = 0 by omega, Nat.pow_zero, Nat.mul_one]
  exact h
theorem rz_ge {A B v : Nat} (hB : 0 < B) (hv : Rep v) (h : v * B ≤ A * one64) : v ≤ rz A B := by
  obtain ⟨c, q, hf, rfl⟩ := hv
  refine zmag_roundRatio_ge good_b64 hB hf (e0 := b64.qmin) (Int.le_refl _) (by rw [qz]; decide) ?_
  rw [inU, show (b64.qmin - b64.qmin : Int).toNat = 0 by omega, Nat.pow_zero, Nat.mul_one]
  exact h
theorem rz_exact {A B v : Nat} (hB : 0 < B) (hv : Rep v) (h : A * one64 = v * B) : rz A B = v :=
  Nat.le_antisymm (rz_le hB hv (Nat.le_of_eq h)) (rz_ge hB hv (Nat.le_of_eq h.symm))
theorem rz_congr {A B A' B' : Nat} (hB : 0 < B) (hB' : 0 < B') (h : A * B' = A' * B) : rz A B = rz A' B' := by
  unfold rz
  rw [roundRatio_congr (f := b64) (s := false) (e := 0) (e' := 0) hB hB' (by simpa using h)]
theorem rz_zero (B : Nat) : rz 0 B = 0 := by
  unfold rz roundRatio; simp [zmag, inUnits]
theorem zmag_sign (s : Bool) (A B : Nat) (e : Int) : zmag b64 (roundRatio b64 s A B e) = zmag b64 (roundRatio b64 false A B e) := by
  unfold roundRatio roundAt settle bound
  split
  · rfl
  · split
    · split <;> rfl
    · split <;> rfl
/-- the quotient of two finite doubles -/
theorem val_ddiv {a b : UInt64} (ha : DFin a) (hb : DFin b) (h0 : zv b ≠ 0) :
    ∃ s A B, 0 < B ∧ zv a = signed (sgn (val64 a)) A ∧ zv b = signed (sgn (val64 b)) B ∧ s = (sgn (val64 a) != sgn (val64 b)) ∧ val64 (FP.ddiv a b) = roundRatio b64 s A B 0 := by
  obtain ⟨s, c, q, e1⟩ := ha
  obtain ⟨t, d, r, e2⟩ := hb
  have f1 := val64_fits a
  have f2 := val64_fits b
  have hzb : zv b = signed t (inUnits d r b64.qmin) := by rw [zv_def, e2]; rfl
  have hd : d ≠ 0 := by
    intro hd; apply h0; rw [hzb, hd]; unfold inUnits; rw [Nat.zero_mul, signed_zero]
  rw [e1] at f1; rw [e2] at f2
  have q1 := f1.2.1; have q2 := f2.2.1
  refine ⟨s != t, inUnits c q b64.qmin, inUnits d r b64.qmin, Nat.mul_pos (Nat.pos_of_ne_zero hd) (Nat.two_pow_pos _), by rw [zv_def, e1]; rfl, by rw [zv_def, e2]; rfl, by rw [e1, e2]; rfl, ?_⟩
  show val64 (Core.ddiv a b) = _
  rw [val64_ddiv, e1, e2]
  show (if d = 0 then _ else roundRatio b64 (s != t) c d (q - r)) = _
  rw [if_neg hd]
  refine roundRatio_congr (Nat.pos_of_ne_zero hd) (Nat.mul_pos (Nat.pos_of_ne_zero hd) (Nat.two_pow_pos _)) ?_
  unfold inUnits
  have e3 : (r - b64.qmin).toNat + (q - r - 0).toNat = (q - b64.qmin).toNat + (0 - (q - r)).toNat := by omega
  rw [show c * (d * 2 ^ (r - b64.qmin).toNat) * 2 ^ (q - r - 0).toNat = c * d * (2 ^ (r - b64.qmin).toNat * 2 ^ (q - r - 0).toNat) by grind, ← Nat.pow_add, e3, Nat.pow_add]
  grind
theorem zv_round (s : Bool) (A B : Nat) : zval b64 (roundRatio b64 s A B 0) = signed s (rz A B) := by
  unfold zval; rw [sgn_roundRatio, zmag_sign]; rfl
theorem nn_ddiv {a b : UInt64} (ha : DFin a) (hb : DFin b) (h0 : zv b ≠ 0) : NoNaN64 (FP.ddiv a b) := by
  obtain ⟨s, A, B, -, -, -, -, h⟩ := val_ddiv ha hb h0
  refine val64_no.mpr ?_
  rw [h]; exact roundRatio_ne_nan _ _ _ _ _
/-- where both are positive, or the dividend nought -/
theorem zv_ddiv {a b : UInt64} {A B : Nat} (ha : DFin a) (hb : DFin b) (h1 : zv a = (A : Int)) (h2 : zv b = (B : Int)) (hB : 0 < B) : zv (FP.ddiv a b) = (rz A B : Int) := by
  obtain ⟨s, A', B', p, q1, q2, hs, h⟩ := val_ddiv ha hb (by omega)
  have e1 : A' = A := by
    have := natAbs_signed (sgn (val64 a)) A'
    rw [← q1, h1] at this; omega
  have e2 : B' = B := by
    have := natAbs_signed (sgn (val64 b)) B'
    rw [← q2, h2] at this; omega
  subst e1 e2
  rw [zv_def, h, zv_round]
  by_cases z : A' = 0
  · subst z; rw [rz_zero, signed_zero]; rfl
  · have s1 : sgn (val64 a) = false := by
      cases hq : sgn (val64 a) with
      | false => rfl
      | true => rw [hq, h1] at q1; simp only [signed, if_true] at q1; omega
    have s2 : sgn (val64 b) = false := by
      cases hq : sgn (val64 b) with
      | false => rfl
      | true => rw [hq, h2] at q2; simp only [signed, if_true] at q2; omega
    rw [hs, s1, s2]; rfl
/-- the quotient of two whole numbers, the divisor positive -/
theorem zv_divI {i j : Nat} {a b : UInt64} (ha : DInt i a) (hb : DInt j b) (hj : 0 < j) : zv (FP.ddiv a b) = (rz i j : Int) := by
  have h1 : zv a = ((i * one64 : Nat) : Int) := by rw [zv_int ha]; rfl
  have h2 : zv b = ((j * one64 : Nat) : Int) := by rw [zv_int hb]; rfl
  rw [zv_ddiv (fin_int ha) (fin_int hb) h1 h2 (Nat.mul_pos hj one64_pos)]
  exact congrArg Int.ofNat (rz_congr (Nat.mul_pos hj one64_pos) hj (by grind))
theorem nn_divI {i j : Int} {a b : UInt64} (ha : DInt i a) (hb : DInt j b) (hj : j ≠ 0) : NoNaN64 (FP.ddiv a b) :=
  nn_ddiv (fin_int ha) (fin_int hb) (by rw [zv_int hb]; have := one_pos; intro h; rcases Int.mul_eq_zero.mp h with h | h <;> omega)
theorem sgn_key {k : Int} {t : Bool} {K : Nat} (hk : k * (one64 : Int) = signed t K) (h0 : k ≠ 0) : t = decide (k < 0) := by
  rcases Int.lt_or_gt_of_ne h0 with h | h
  · have h1 := Int.mul_neg_of_neg_of_pos h one_pos
    cases t with
    | true => simp [h]
    | false => rw [hk] at h1; simp only [signed] at h1; exfalso; simp at h1; omega
  · have h1 := Int.mul_pos h one_pos
    cases t with
    | false => simp; omega
    | true => rw [hk] at h1; simp only [signed, if_true] at h1; exfalso; omega
/-- the quotient of two whole numbers, by their signs -/
theorem zv_divS {i j : Int} {a b : UInt64} (ha : DInt i a) (hb : DInt j b) (hj : j ≠ 0) : ((0 ≤ i ∧ 0 < j) ∨ (i ≤ 0 ∧ j < 0) → zv (FP.ddiv a b) = (rz i.natAbs j.natAbs : Int)) ∧ ((0 ≤ i ∧ j < 0) ∨ (i ≤ 0 ∧ 0 < j) → zv (FP.ddiv a b) = -(rz i.natAbs j.natAbs : Int)) := by
  have hz : zv b ≠ 0 := by rw [zv_int hb]; have := one_pos; intro h; rcases Int.mul_eq_zero.mp h with h | h <;> omega
  obtain ⟨s, A, B, hB, h1, h2, hs, h⟩ := val_ddiv (fin_int ha) (fin_int hb) hz
  rw [zv_int ha] at h1; rw [zv_int hb] at h2
  have eA : i.natAbs * one64 = A := by have := congrArg Int.natAbs h1; rw [natAbs_signed, Int.natAbs_mul, Int.natAbs_natCast] at this; exact this
  have eB : j.natAbs * one64 = B := by have := congrArg Int.natAbs h2; rw [natAbs_signed, Int.natAbs_mul, Int.natAbs_natCast] at this; exact this
  have hr : rz A B = rz i.natAbs j.natAbs := by subst eA eB; exact rz_congr hB (by omega) (by generalize one64 = o; ac_rfl)
  have hv : zv (FP.ddiv a b) = signed s (rz A B) := by rw [zv_def, h, zv_round]
  have sb := sgn_key h2 hj
  by_cases hi : i = 0
  · have : rz A B = 0 := by rw [hr, hi]; exact rz_zero _
    rw [hv, this, signed_zero]
    rw [this] at hr
    omega
  · have sa := sgn_key h1 hi
    rw [sa, sb] at hs
    rw [hv, hr, hs]
    constructor
    · rintro (⟨q1, q2⟩ | ⟨q1, q2⟩)
      · have : ¬ i < 0 := by omega
        have : ¬ j < 0 := by omega
        simp [*, signed]
      · have : i < 0 := by omega
        simp [*, signed]
    · rintro (⟨q1, q2⟩ | ⟨q1, q2⟩)
      · have : ¬ i < 0 := by omega
        simp [*, signed]
      · have : i < 0 := by omega
        have : ¬ j < 0 := by omega
        simp [*, signed]
end Jvm.OwnFl
namespace Jvm.OwnFl
open Jvm Jvm.FP Jvm.FP.Core Jvm.Free.Fl Op
/-! sums, differences, products: rounded between the doubles that bound them -/
theorem repz {v : Int} (h : Rep v.natAbs) : ∃ V, Core.fits b64 V ∧ V ≠ .nan ∧ zval b64 V = v := by
  obtain ⟨c, q, hf, hq⟩ := h
  refine ⟨.fin (decide (v < 0)) c q, hf, by simp, ?_⟩
  show signed (decide (v < 0)) (inUnits c q b64.qmin) = v
  rw [hq]; unfold signed
  by_cases h : v < 0 <;> simp [h] <;> omega
theorem q0 : ((2 ^ (b64.qmin - b64.qmin).toNat : Nat) : Int) = 1 := by rw [show (b64.qmin - b64.qmin).toNat = 0 by omega]; rfl
theorem zadd_le {a b : UInt64} {v : Int} (ha : DFin a) (hb : DFin b) (hv : Rep v.natAbs) (h : zv a + zv b ≤ v) : zv (FP.dadd a b) ≤ v := by
  obtain ⟨V, h1, h2, rfl⟩ := repz hv
  obtain ⟨s, c, q, e1⟩ := ha
  obtain ⟨t, d, r, e2⟩ := hb
  have f1 := val64_fits a
  have f2 := val64_fits b
  rw [zv_def, zv_def, e1, e2] at h
  rw [e1] at f1; rw [e2] at f2
  obtain ⟨sg, n, e, k1, k2, k3⟩ := sum_units f1 f2
  show zval b64 (val64 (Core.dadd a b)) ≤ _
  rw [val64_dadd, e1, e2, k1]
  exact zval_round_le good_b64 h1 h2 (Int.le_refl _) k2 (by rw [k3, q0, Int.mul_one]; exact h)
theorem zadd_ge {a b : UInt64} {v : Int} (ha : DFin a) (hb : DFin b) (hv : Rep v.natAbs) (h : v ≤ zv a + zv b) : v ≤ zv (FP.dadd a b) := by
  obtain ⟨V, h1, h2, rfl⟩ := repz hv
  obtain ⟨s, c, q, e1⟩ := ha
  obtain ⟨t, d, r, e2⟩ := hb
  have f1 := val64_fits a
  have f2 := val64_fits b
  rw [zv_def, zv_def, e1, e2] at h
  rw [e1] at f1; rw [e2] at f2
  obtain ⟨sg, n, e, k1, k2, k3⟩ := sum_units f1 f2
  show _ ≤ zval b64 (val64 (Core.dadd a b))
  rw [val64_dadd, e1, e2, k1]
  exact zval_round_ge good_b64 h1 h2 (Int.le_refl _) k2 (by rw [k3, q0, Int.mul_one]; exact h)
theorem zadd {a b : UInt64} (ha : DFin a) (hb : DFin b) (hv : Rep (zv a + zv b).natAbs) : zv (FP.dadd a b) = zv a + zv b :=
  Int.le_antisymm (zadd_le ha hb hv (Int.le_refl _)) (zadd_ge ha hb hv (Int.le_refl _))
theorem zneg (a : UInt64) : zv (Core.dneg a) = -zv a := by
  show zval b64 (val64 (Core.dneg a)) = _
  rw [Core.val64_dneg]; exact zval_negate _ _
theorem neg_fin {a : UInt64} (ha : DFin a) : DFin (Core.dneg a) := by
  obtain ⟨s, c, q, e1⟩ := ha
  exact ⟨!s, c, q, by rw [Core.val64_dneg, e1]; rfl⟩
theorem zsub_le {a b : UInt64} {v : Int} (ha : DFin a) (hb : DFin b) (hv : Rep v.natAbs) (h : zv a - zv b ≤ v) : zv (FP.dsub a b) ≤ v := by
  show zv (Core.dsub a b) ≤ v
  rw [Core.dsub_eq]
  exact zadd_le ha (neg_fin hb) hv (by rw [zneg]; omega)
theorem zsub_ge {a b : UInt64} {v : Int} (ha : DFin a) (hb : DFin b) (hv : Rep v.natAbs) (h : v ≤ zv a - zv b) : v ≤ zv (FP.dsub a b) := by
  show v ≤ zv (Core.dsub a b)
  rw [Core.dsub_eq]
  exact zadd_ge ha (neg_fin hb) hv (by rw [zneg]; omega)
theorem zsub {a b : UInt64} (ha : DFin a) (hb : DFin b) (hv : Rep (zv a - zv b).natAbs) : zv (FP.dsub a b) = zv a - zv b :=
  Int.le_antisymm (zsub_le ha hb hv (Int.le_refl _)) (zsub_ge ha hb hv (Int.le_refl _))
theorem q2 : ((2 ^ (b64.qmin - 2 * b64.qmin).toNat : Nat) : Int) = (one64 : Int) := by rw [← pow_qmin64, show (b64.qmin - 2 * b64.qmin) = -b64.qmin by omega]
theorem zmul_le {a b : UInt64} {v : Int} (ha : DFin a) (hb : DFin b) (hv : Rep v.natAbs) (h : zv a * zv b ≤ v * (one64 : Int)) : zv (FP.dmul a b) ≤ v := by
  obtain ⟨V, h1, h2, rfl⟩ := repz hv
  obtain ⟨s, c, q, e1⟩ := ha
  obtain ⟨t, d, r, e2⟩ := hb
  have f1 := val64_fits a
  have f2 := val64_fits b
  rw [zv_def, zv_def, e1, e2] at h
  rw [e1] at f1; rw [e2] at f2
  obtain ⟨k1, k2, k3⟩ := product_units f1 f2
  show zval b64 (val64 (Core.dmul a b)) ≤ _
  rw [val64_dmul, e1, e2, k1]
  exact zval_round_le good_b64 h1 h2 (e0 := 2 * b64.qmin) (by rw [qz]; decide) k2 (by rw [k3, q2, signed_xor]; exact h)
theorem zmul_ge {a b : UInt64} {v : Int} (ha : DFin a) (hb : DFin b) (hv : Rep v.natAbs) (h : v * (one64 : Int) ≤ zv a * zv b) : v ≤ zv (FP.dmul a b) := by
  obtain ⟨V, h1, h2, rfl⟩ := repz hv
  obtain ⟨s, c, q, e1⟩ := ha
  obtain ⟨t, d, r, e2⟩ := hb
  have f1 := val64_fits a
  have f2 := val64_fits b
  rw [zv_def, zv_def, e1, e2] at h
  rw [e1] at f1; rw [e2] at f2
  obtain ⟨k1, k2, k3⟩ := product_units f1 f2
  show _ ≤ zval b64 (val64 (Core.dmul a b))
  rw [val64_dmul, e1, e2, k1]
  exact zval_round_ge good_b64 h1 h2 (e0 := 2 * b64.qmin) (by rw [qz]; decide) k2 (by rw [k3, q2, signed_xor]; exact h)
theorem zmul {a b : UInt64} {v : Int} (ha : DFin a) (hb : DFin b) (hv : Rep v.natAbs) (h : zv a * zv b = v * (one64 : Int)) : zv (FP.dmul a b) = v :=
  Int.le_antisymm (zmul_le ha hb hv (Int.le_of_eq h)) (zmul_ge ha hb hv (Int.le_of_eq h.symm))
theorem fin_le {a : UInt64} (hn : NoNaN64 a) (h : (zv a).natAbs ≤ 2 ^ 1974) : DFin a := by
  cases hv : val64 a with
  | nan => exact absurd hv (val64_no.mp hn)
  | fin s c q => exact ⟨s, c, q, hv⟩
  | inf s =>
    exfalso
    rw [zv_def, hv] at h
    have h1 : (zval b64 (.inf s)).natAbs = b64.tails * 2 ^ (b64.exps - 2) := natAbs_signed _ _
    rw [h1] at h
    have h3 : (2 : Nat) ^ 1974 < b64.tails * 2 ^ (b64.exps - 2) := by decide +kernel
    exact absurd (Nat.lt_of_le_of_lt h h3) (Nat.lt_irrefl _)
theorem nn_add {a b : UInt64} (ha : DFin a) (hb : DFin b) : NoNaN64 (FP.dadd a b) := noNaN64_no.mpr (Core.dadd_out ha.notNaN hb)
theorem nn_sub {a b : UInt64} (ha : DFin a) (hb : DFin b) : NoNaN64 (FP.dsub a b) := noNaN64_no.mpr (Core.dsub_out ha.notNaN hb)
theorem nn_mul {a b : UInt64} (ha : DFin a) (hb : DFin b) : NoNaN64 (FP.dmul a b) := noNaN64_no.mpr (Core.dmul_out ha hb)
end Jvm.OwnFl
namespace Jvm.OwnFl
open Jvm Jvm.FP Jvm.FP.Core Jvm.Free.Fl Op
/-- a whole number by a power of two: exact -/
theorem divP {i : Int} {k : Nat} {a b : UInt64} (ha : DInt i a) (hb : DInt ((2 ^ k : Nat) : Int) b) (hi : i.natAbs ≤ 9007199254740992) (hk : k ≤ 1000) : NoNaN64 (FP.ddiv a b) ∧ DFin (FP.ddiv a b) ∧ zv (FP.ddiv a b) = i * ((2 ^ (1074 - k) : Nat) : Int) := by
  have hp : 0 < 2 ^ k := Nat.two_pow_pos k
  have hj : ((2 ^ k : Nat) : Int) ≠ 0 := by omega
  have hn := nn_divI ha hb hj
  have hr : rz i.natAbs (((2 ^ k : Nat) : Int)).natAbs = i.natAbs * 2 ^ (1074 - k) := by
    rw [Int.natAbs_natCast]
    refine rz_exact hp (rep_le hi (by omega)) ?_
    unfold one64
    rw [Nat.mul_assoc, ← Nat.pow_add, show 1074 - k + k = 1074 by omega]
  have hz : zv (FP.ddiv a b) = i * ((2 ^ (1074 - k) : Nat) : Int) := by
    obtain ⟨h1, h2⟩ := zv_divS ha hb hj
    rw [hr, Int.natCast_mul] at h1 h2
    rcases Int.lt_or_le i 0 with h | h
    · rw [h2 (Or.inr ⟨by omega, by omega⟩), show ((i.natAbs : Nat) : Int) = -i by omega, Int.neg_mul, Int.neg_neg]
    · rw [h1 (Or.inl ⟨h, by omega⟩), show ((i.natAbs : Nat) : Int) = i by omega]
  refine ⟨hn, fin_le hn ?_, hz⟩
  rw [hz, Int.natAbs_mul, Int.natAbs_natCast]
  refine Nat.le_trans (Nat.mul_le_mul hi (Nat.pow_le_pow_right (by decide) (show 1074 - k ≤ 1074 by omega))) ?_
  rw [show (9007199254740992 : Nat) = 2 ^ 53 from rfl, ← Nat.pow_add]; exact Nat.pow_le_pow_right (by decide) (by decide)
theorem f64 {a : UInt64} (h : DFin a) : Fin64 a := fin64_core.mpr h
end Jvm.OwnFl
namespace Jvm.Pilot.@@N@@
open Jvm Jvm.ClassFile Sem Op Lib Jvm.Free Jvm.Stand Jvm.LawKit Jvm.RoadKit Bundle Jvm.Pilot.@@N@@.Jvm.D
section Own
open Jvm.OwnFl Jvm.FP.Core Jvm.Free.Fl
theorem own_2 : DInt ((2 ^ 1 : Nat) : Int) (4611686018427387904 : UInt64) := by
  unfold DInt; rw [show val64 4611686018427387904 = .fin false (2 ^ 52) (-51) from by decide +kernel]; show signed false _ = _; decide
theorem own_1024 : DInt ((2 ^ 10 : Nat) : Int) (4652218415073722368 : UInt64) := by
  unfold DInt; rw [show val64 4652218415073722368 = .fin false (2 ^ 52) (-42) from by decide +kernel]; show signed false _ = _; decide
theorem own_2048 : DInt ((2 ^ 11 : Nat) : Int) (4656722014701092864 : UInt64) := by
  unfold DInt; rw [show val64 4656722014701092864 = .fin false (2 ^ 52) (-41) from by decide +kernel]; show signed false _ = _; decide
theorem own_cl {x v : Int32} (q : ((x &&& (2147483647 : Int32)) - (x &&& (2147483647 : Int32)) / (536870911 : Int32) * (536870911 : Int32)) + (1 : Int32) = v) : 1 ≤ v.toInt ∧ v.toInt ≤ 536870911 := by
  have m1 := Jvm.Kit.i32_mask x 2147483647 (k := 31) (by decide) (by decide)
  have m2 : 0 ≤ (x &&& (2147483647 : Int32)).toInt := by rw [m1]; omega
  rw [irem_eq_mod] at q
  have e : (536870911 : Int32).toInt = 536870911 := by decide
  have e1 : (1 : Int32).toInt = 1 := by decide
  have r := Jvm.Kit.i32_rem_nonneg (y := (536870911 : Int32)) m2
  rw [e] at r
  rw [← q, Jvm.Kit.i32_add (by rw [e1]; omega) (by rw [e1]; omega), e1]; omega
theorem own_qq {x : Int32} {v : Int64} (q : (x &&& (1048575 : Int32)).toInt64 + (1 : Int64) = v) : 1 ≤ v.toInt ∧ v.toInt ≤ 1048576 := by
  have m1 := Jvm.Kit.i32_mask x 1048575 (k := 20) (by decide) (by decide)
  have h := Jvm.Kit.i64_of_i32 (x &&& (1048575 : Int32))
  rw [← q, Jvm.Kit.i64_add (by rw [Int64.toInt_one]; omega) (by rw [Int64.toInt_one]; omega), Int64.toInt_one]; omega
theorem own_px {k : Int64} (h : 1 ≤ k.toInt ∧ k.toInt ≤ 1048576) : NoNaN64 (FP.ddiv (FP.l2d k) (4652218415073722368 : UInt64)) ∧ DFin (FP.ddiv (FP.l2d k) (4652218415073722368 : UInt64)) ∧ zv (FP.ddiv (FP.l2d k) (4652218415073722368 : UInt64)) = k.toInt * ((2 ^ 1064 : Nat) : Int) := by
  have := divP (l2dI (x := k) (by omega) (by omega)) own_1024 (by omega) (by decide)
  rw [show 1074 - 10 = 1064 from rfl] at this
  exact this
theorem own_pos {k : Int64} (h : 1 ≤ k.toInt ∧ k.toInt ≤ 1048576) : 0 < cmpValue (FP.dcmp (FP.ddiv (FP.l2d k) (4652218415073722368 : UInt64)) (0 : UInt64)) .l := by
  refine cv_gt' (own_px h).1 (nn_int zint) ?_ .l
  rw [(own_px h).2.2, zv_int zint, Int.zero_mul]
  exact Int.mul_pos (by omega) (Int.ofNat_lt.mpr (Nat.two_pow_pos _))
theorem own_c1 {v : Int32} (h : 1 ≤ v.toInt ∧ v.toInt ≤ 536870911) : ¬ v < (1 : Int32) := by
  intro q
  have := Int32.lt_iff_toInt_lt.mp q
  have e1 : (1 : Int32).toInt = 1 := by decide
  omega
theorem own_sz {v : Int32} (h : 1 ≤ v.toInt ∧ v.toInt ≤ 536870911) : ¬ 0 < lcmpW (v.toInt64 * (1 : Int32).toInt64) (536870911 : Int64) := by
  intro q
  have := lc_gt.mp q
  have e : (536870911 : Int64).toInt = 536870911 := by decide
  have e1 : ((1 : Int32).toInt64).toInt = 1 := by decide
  rw [Jvm.Kit.i64_mul (by rw [e1, Jvm.Kit.i64_of_i32]; omega) (by rw [e1, Jvm.Kit.i64_of_i32]; omega), e, e1, Jvm.Kit.i64_of_i32] at this
  omega
theorem own_sub1 {v : Int32} (h : 1 ≤ v.toInt ∧ v.toInt ≤ 536870911) : (v - (1 : Int32)).toInt = v.toInt - 1 := by
  have e1 : (1 : Int32).toInt = 1 := by decide
  rw [Jvm.Kit.i32_sub (by rw [e1]; omega) (by rw [e1]; omega), e1]
theorem own_hw {v : Int32} (h : 1 ≤ v.toInt ∧ v.toInt ≤ 536870911) : NoNaN64 (FP.ddiv (FP.i2d (v - (1 : Int32))) (4611686018427387904 : UInt64)) ∧ DFin (FP.ddiv (FP.i2d (v - (1 : Int32))) (4611686018427387904 : UInt64)) ∧ zv (FP.ddiv (FP.i2d (v - (1 : Int32))) (4611686018427387904 : UInt64)) = (v.toInt - 1) * ((2 ^ 1073 : Nat) : Int) := by
  have e := own_sub1 h
  have := divP (i2dI (v - (1 : Int32))) own_2 (by omega) (by decide)
  rw [e] at this; exact this
theorem own_O : (one64 : Int) = 2 * ((2 ^ 1073 : Nat) : Int) := by
  unfold one64; rw [show (1074 : Nat) = 1073 + 1 from rfl, Nat.pow_succ]; omega
theorem own_sb {v u : Int32} (h : 1 ≤ v.toInt ∧ v.toInt ≤ 536870911) : NoNaN64 (FP.dsub (FP.i2d u) (FP.ddiv (FP.i2d (v - (1 : Int32))) (4611686018427387904 : UInt64))) ∧ DFin (FP.dsub (FP.i2d u) (FP.ddiv (FP.i2d (v - (1 : Int32))) (4611686018427387904 : UInt64))) ∧ zv (FP.dsub (FP.i2d u) (FP.ddiv (FP.i2d (v - (1 : Int32))) (4611686018427387904 : UInt64))) = (2 * u.toInt - (v.toInt - 1)) * ((2 ^ 1073 : Nat) : Int) := by
  have u1 := u.le_toInt; have u2 := u.toInt_lt
  obtain ⟨n1, f1, z1⟩ := own_hw h
  have e : zv (FP.i2d u) - zv (FP.ddiv (FP.i2d (v - (1 : Int32))) (4611686018427387904 : UInt64)) = (2 * u.toInt - (v.toInt - 1)) * ((2 ^ 1073 : Nat) : Int) := by
    rw [zv_int (i2dI u), z1, own_O]; grind
  have hn := nn_sub (fin_int (i2dI u)) f1
  have hz : zv (FP.dsub (FP.i2d u) (FP.ddiv (FP.i2d (v - (1 : Int32))) (4611686018427387904 : UInt64))) = (2 * u.toInt - (v.toInt - 1)) * ((2 ^ 1073 : Nat) : Int) := by
    rw [zsub (fin_int (i2dI u)) f1 ?_, e]
    rw [e, Int.natAbs_mul, Int.natAbs_natCast]
    exact rep_le (by omega) (by decide)
  refine ⟨hn, fin_le hn ?_, hz⟩
  rw [hz, Int.natAbs_mul, Int.natAbs_natCast]
  refine Nat.le_trans (Nat.mul_le_mul_right _ (show (2 * u.toInt - (v.toInt - 1)).natAbs ≤ 2 ^ 53 by omega)) ?_
  rw [← Nat.pow_add]; exact Nat.pow_le_pow_right (by decide) (by decide)
theorem own_d {v u : Int32} {d : Int64} (h : 1 ≤ v.toInt ∧ v.toInt ≤ 536870911) (q : (2 : Int64) * u.toInt64 - (v - (1 : Int32)).toInt64 = d) : d.toInt = 2 * u.toInt - (v.toInt - 1) := by
  have u1 := u.le_toInt; have u2 := u.toInt_lt
  have e := own_sub1 h
  have e2 : (2 : Int64).toInt = 2 := by decide
  have a1 := Jvm.Kit.i64_of_i32 u
  have a2 := Jvm.Kit.i64_of_i32 (v - (1 : Int32))
  have m : ((2 : Int64) * u.toInt64).toInt = 2 * u.toInt := by rw [Jvm.Kit.i64_mul (by rw [e2, a1]; omega) (by rw [e2, a1]; omega), e2, a1]
  rw [← q, Jvm.Kit.i64_sub (by omega) (by omega), m, a2, e]
theorem own_all {v u : Int32} {d k : Int64} (h : 1 ≤ v.toInt ∧ v.toInt ≤ 536870911) (hk : 1 ≤ k.toInt ∧ k.toInt ≤ 1048576) (q : (2 : Int64) * u.toInt64 - (v - (1 : Int32)).toInt64 = d) :
    NoNaN64 (FP.dmul (FP.dsub (FP.i2d u) (FP.ddiv (FP.i2d (v - (1 : Int32))) (4611686018427387904 : UInt64))) (FP.ddiv (FP.l2d k) (4652218415073722368 : UInt64))) ∧ NoNaN64 (FP.ddiv (FP.l2d (d * k)) (4656722014701092864 : UInt64)) ∧
    cmpValue (FP.dcmp (FP.dmul (FP.dsub (FP.i2d u) (FP.ddiv (FP.i2d (v - (1 : Int32))) (4611686018427387904 : UInt64))) (FP.ddiv (FP.l2d k) (4652218415073722368 : UInt64))) (FP.ddiv (FP.l2d (d * k)) (4656722014701092864 : UInt64))) .l = 0 := by
  have u1 := u.le_toInt; have u2 := u.toInt_lt
  have hd := own_d h q
  obtain ⟨n1, f1, z1⟩ := own_sb (u := u) h
  obtain ⟨n2, f2, z2⟩ := own_px hk
  have bd := absMul (A := 4831838208) (B := 1048576) (i := d.toInt) (j := k.toInt) (by omega) (by omega)
  have em : (d * k).toInt = d.toInt * k.toInt := Jvm.Kit.i64_mul (by omega) (by omega)
  have dk := l2dI (x := d * k) (by omega) (by omega)
  obtain ⟨n3, f3, z3⟩ := divP dk own_2048 (by omega) (by decide)
  have n4 := nn_mul f1 f2
  refine ⟨n4, n3, cv_eq n4 n3 ?_ .l⟩
  rw [z3, em]
  refine zmul f1 f2 ?_ ?_
  · rw [Int.natAbs_mul, Int.natAbs_natCast]
    exact rep_le (Nat.le_trans bd (by decide)) (by decide)
  · rw [z1, z2, ← hd]
    have e : ((2 ^ 1073 : Nat) : Int) * ((2 ^ 1064 : Nat) : Int) = ((2 ^ (1074 - 11) : Nat) : Int) * (one64 : Int) := by
      unfold one64
      rw [← Int.natCast_mul, ← Int.natCast_mul, ← Nat.pow_add, ← Nat.pow_add]
    generalize ((2 ^ 1073 : Nat) : Int) = a at *
    generalize ((2 ^ 1064 : Nat) : Int) = b at *
    generalize ((2 ^ (1074 - 11) : Nat) : Int) = f at *
    generalize (one64 : Int) = o at *
    have : d.toInt * a * (k.toInt * b) = d.toInt * k.toInt * (a * b) := by grind
    rw [this, e]; grind
end Own
theorem d1_0 : decode jdk_30_method_1_code 0 = .ok (.aload_n 0, 1) := by decide +kernel
theorem d1_1 : decode jdk_30_method_1_code 1 = .ok (.invokespecial 1, 3) := by decide +kernel
theorem d1_4 : decode jdk_30_method_1_code 4 = .ok (.return_, 1) := by decide +kernel
theorem pn0 : plainName "java/lang/Record" = true := by first | (simp [plainName, overriddenIn]; done) | decide +kernel
def Q_rec (Z : State) (a : Addr) (h0 : Heap) (n0 : Nat) (v : Option Value) (h : Heap) (L : List Loc) : Prop := v = none ∧ Fr n0 L ∧ h = h0
theorem ef_rec (m : MethodId) (y0 : Addr) : entryFrame m #[(.ref y0)] 1 = mkF m 0 #[.val (.ref y0)] [] := by first | (simp [entryFrame, mkF, argsToLocals, Value.category, maxLocals]; done) | rfl
set_option maxRecDepth 65536 in
set_option maxHeartbeats 40000000 in
theorem rm_rec (l : Launch) (Z : State) (a0 : Array Value) (hw : ∀ d ∈ tables_1, d.before a0 Z = true) (ws : List Jvm.Cond) (a : Addr) (h0 : Heap) (n0 : Nat) (Z0 : n0 ≤ h0.size)  :
    MetFree l (⟨"java/lang/Record", "<init>", "()V"⟩ : MethodName) (head1 (Jvm.Cond.code (⟨"java/lang/Record", "<init>", "()V"⟩ : MethodName) jdk_30_method_1_code 1 none :: ws) ({ frames := 1, cells := 0, slots := 0, locals := 12 } : Room)) (fun aa_ U => aa_ = #[(.ref a)] ∧ Z.Warmed39 U.vm ∧ U.heap = h0) (fun _ _ _ _ _ => True) (fun _ U o U' => ∃ v L, o = .returned v ∧ Q_rec Z a h0 n0 v U'.heap L ∧ FrameEnd U o U' L (({ frames := 1, cells := 0, slots := 0, locals := 12 } : Room)).cells (({ frames := 1, cells := 0, slots := 0, locals := 12 } : Room)).slots) := by
  refine Go.met (plainFor_of_name pn0) ?_
  intro p e s m below meth c s₁ hx hby hml hown hnm hret hlk hZ e0 X0
  have N0 := Fr.nil n0
  refine Go.cast (ef_rec m a) ?_
  refine Go.st (U := (s₁.setTop (mkF m 1 #[.val (.ref a)] [(.ref a)]))) (fun t_ k_ => XS.aloadN X0.here hx rfl (hb hby d1_0) rfl rfl k_) ?_
  obtain ⟨Ti1, Xi1, ei1, sti1⟩ := initO X0 hx hZ hown (hw _ (List.mem_of_getElem? (i := 15) rfl)) (hw _ (List.mem_of_getElem? (i := 16) rfl)) (hw _ (List.mem_of_getElem? (i := 17) rfl)) e0 (g := (mkF m 1 #[.val (.ref a)] [(.ref a)])) rfl (by rw [hml]; rfl) rfl (hb hby d1_1) (by decide) (W := 0) (by show 2 * 0 + _ ≤ _; exact Nat.le_of_eq rfl) (by decide)
  refine Go.st (U := (Ti1.setTop (mkF m 4 #[.val (.ref a)] []))) sti1 ?_
  refine Go.retV (st := []) Xi1 hx hlk hret (hb hby d1_4) (by decide) (by decide) ?_
  show Q_rec Z a h0 n0 _ Ti1.heap _
  rw [ei1]
  exact ⟨rfl, N0, rfl⟩
theorem d0_0 : decode prog_85_method_1_code 0 = .ok (.aload_n 0, 1) := by decide +kernel
theorem d0_1 : decode prog_85_method_1_code 1 = .ok (.invokespecial 1, 3) := by decide +kernel
theorem d0_4 : decode prog_85_method_1_code 4 = .ok (.iload_n 1, 1) := by decide +kernel
theorem d0_5 : decode prog_85_method_1_code 5 = .ok (.iconst 1, 1) := by decide +kernel
theorem d0_6 : decode prog_85_method_1_code 6 = .ok (.if_icmp .lt 21, 3) := by decide +kernel
theorem d0_9 : decode prog_85_method_1_code 9 = .ok (.iload_n 2, 1) := by decide +kernel
theorem d0_10 : decode prog_85_method_1_code 10 = .ok (.iconst 1, 1) := by decide +kernel
theorem d0_11 : decode prog_85_method_1_code 11 = .ok (.if_icmp .lt 16, 3) := by decide +kernel
theorem d0_14 : decode prog_85_method_1_code 14 = .ok (.dload_n 3, 1) := by decide +kernel
theorem d0_15 : decode prog_85_method_1_code 15 = .ok (.dconst 0, 1) := by decide +kernel
theorem d0_16 : decode prog_85_method_1_code 16 = .ok (.dcmp .l, 1) := by decide +kernel
theorem d0_17 : decode prog_85_method_1_code 17 = .ok (.ifCond .le 10, 3) := by decide +kernel
theorem d0_20 : decode prog_85_method_1_code 20 = .ok (.dload_n 3, 1) := by decide +kernel
theorem d0_21 : decode prog_85_method_1_code 21 = .ok (.invokestatic 7, 3) := by decide +kernel
theorem d0_24 : decode prog_85_method_1_code 24 = .ok (.ifCond .ne 19, 3) := by decide +kernel
theorem d0_27 : decode prog_85_method_1_code 27 = .ok (.new 13, 3) := by decide +kernel
theorem d0_30 : decode prog_85_method_1_code 30 = .ok (.dup, 1) := by decide +kernel
theorem d0_31 : decode prog_85_method_1_code 31 = .ok (.iload_n 1, 1) := by decide +kernel
theorem d0_32 : decode prog_85_method_1_code 32 = .ok (.iload_n 2, 1) := by decide +kernel
theorem d0_33 : decode prog_85_method_1_code 33 = .ok (.dload_n 3, 1) := by decide +kernel
theorem d0_34 : decode prog_85_method_1_code 34 = .ok (.invokedynamic 15, 5) := by decide +kernel
theorem d0_39 : decode prog_85_method_1_code 39 = .ok (.invokespecial 19, 3) := by decide +kernel
theorem d0_42 : decode prog_85_method_1_code 42 = .ok (.athrow, 1) := by decide +kernel
theorem d0_43 : decode prog_85_method_1_code 43 = .ok (.iload_n 1, 1) := by decide +kernel
theorem d0_44 : decode prog_85_method_1_code 44 = .ok (.i2l, 1) := by decide +kernel
theorem d0_45 : decode prog_85_method_1_code 45 = .ok (.iload_n 2, 1) := by decide +kernel
theorem d0_46 : decode prog_85_method_1_code 46 = .ok (.i2l, 1) := by decide +kernel
theorem d0_47 : decode prog_85_method_1_code 47 = .ok (.lmul, 1) := by decide +kernel
theorem d0_48 : decode prog_85_method_1_code 48 = .ok (.ldc2_w 24, 3) := by decide +kernel
theorem d0_51 : decode prog_85_method_1_code 51 = .ok (.lcmp, 1) := by decide +kernel
theorem d0_52 : decode prog_85_method_1_code 52 = .ok (.ifCond .le 18, 3) := by decide +kernel
theorem d0_55 : decode prog_85_method_1_code 55 = .ok (.new 13, 3) := by decide +kernel
theorem d0_58 : decode prog_85_method_1_code 58 = .ok (.dup, 1) := by decide +kernel
theorem d0_59 : decode prog_85_method_1_code 59 = .ok (.iload_n 1, 1) := by decide +kernel
theorem d0_60 : decode prog_85_method_1_code 60 = .ok (.iload_n 2, 1) := by decide +kernel
theorem d0_61 : decode prog_85_method_1_code 61 = .ok (.invokedynamic 26, 5) := by decide +kernel
theorem d0_66 : decode prog_85_method_1_code 66 = .ok (.invokespecial 19, 3) := by decide +kernel
theorem d0_69 : decode prog_85_method_1_code 69 = .ok (.athrow, 1) := by decide +kernel
theorem d0_70 : decode prog_85_method_1_code 70 = .ok (.aload_n 0, 1) := by decide +kernel
theorem d0_71 : decode prog_85_method_1_code 71 = .ok (.iload_n 1, 1) := by decide +kernel
theorem d0_72 : decode prog_85_method_1_code 72 = .ok (.putfield 29, 3) := by decide +kernel
theorem d0_75 : decode prog_85_method_1_code 75 = .ok (.aload_n 0, 1) := by decide +kernel
theorem d0_76 : decode prog_85_method_1_code 76 = .ok (.iload_n 2, 1) := by decide +kernel
theorem d0_77 : decode prog_85_method_1_code 77 = .ok (.putfield 35, 3) := by decide +kernel
theorem d0_80 : decode prog_85_method_1_code 80 = .ok (.aload_n 0, 1) := by decide +kernel
theorem d0_81 : decode prog_85_method_1_code 81 = .ok (.dload_n 3, 1) := by decide +kernel
theorem d0_82 : decode prog_85_method_1_code 82 = .ok (.putfield 38, 3) := by decide +kernel
theorem d0_85 : decode prog_85_method_1_code 85 = .ok (.return_, 1) := by decide +kernel
theorem pn1 : plainName "org/pulsewarp/geometry/Detector" = true := by first | (simp [plainName, overriddenIn]; done) | decide +kernel
def Q_det (Z : State) (a : Addr) (x0 : Int32) (x1 : Int32) (x2 : UInt64) (o0 : Value) (o1 : Value) (o2 : Value) (h0 : Heap) (n0 : Nat) (v : Option Value) (h : Heap) (L : List Loc) : Prop := v = none ∧ Fr n0 L ∧ Keep h0 h [a] ∧ Exa Z h a "org/pulsewarp/geometry/Detector" ∧ Fld Z h a "org/pulsewarp/geometry/Detector" "columns" "I" (.int x0) ∧ Fld Z h a "org/pulsewarp/geometry/Detector" "rows" "I" (.int x1) ∧ Fld Z h a "org/pulsewarp/geometry/Detector" "pixel" "D" (.double x2)
theorem ef_det (m : MethodId) (y0 : Addr) (y1 : Int32) (y2 : Int32) (y3 : UInt64) : entryFrame m #[(.ref y0), (.int y1), (.int y2), (.double y3)] 5 = mkF m 0 #[.val (.ref y0), .val (.int y1), .val (.int y2), .val (.double y3), .second] [] := by first | (simp [entryFrame, mkF, argsToLocals, Value.category, maxLocals]; done) | rfl
theorem pd0 : parseMethodDescriptor "()V" = some ⟨[], none⟩ := by decide +kernel
set_option maxRecDepth 65536 in
set_option maxHeartbeats 40000000 in
theorem rm_det (l : Launch) (Z : State) (a0 : Array Value) (hw : ∀ d ∈ tables_1, d.before a0 Z = true) (ws : List Jvm.Cond) (a : Addr) (x0 : Int32) (x1 : Int32) (x2 : UInt64) (o0 : Value) (o1 : Value) (o2 : Value) (h0 : Heap) (n0 : Nat) (Z0 : n0 ≤ h0.size) (E0_a : Exa Z h0 a "org/pulsewarp/geometry/Detector") (ge_a : n0 ≤ a) (F0_a_columns : Fld Z h0 a "org/pulsewarp/geometry/Detector" "columns" "I" o0) (F0_a_rows : Fld Z h0 a "org/pulsewarp/geometry/Detector" "rows" "I" o1) (F0_a_pixel : Fld Z h0 a "org/pulsewarp/geometry/Detector" "pixel" "D" o2) (c6 : ¬ (x0 < (1 : Int32))) (c11 : ¬ (x1 < (1 : Int32))) (c17 : 0 < cmpValue (FP.dcmp x2 (0 : UInt64)) .l) (hfin : Jvm.Free.Fl.Fin64 x2) (c52 : ¬ (0 < lcmpW (x0.toInt64 * x1.toInt64) (536870911 : Int64))) :
    MetFree l (⟨"org/pulsewarp/geometry/Detector", "<init>", "(IID)V"⟩ : MethodName) (head1 (Jvm.Cond.code (⟨"org/pulsewarp/geometry/Detector", "<init>", "(IID)V"⟩ : MethodName) prog_85_method_1_code 5 none :: ws) ({ frames := 2, cells := 0, slots := 0, locals := 32 } : Room)) (fun aa_ U => aa_ = #[(.ref a), (.int x0), (.int x1), (.double x2)] ∧ Z.Warmed39 U.vm ∧ U.heap = h0) (fun _ _ _ _ _ => True) (fun _ U o U' => ∃ v L, o = .returned v ∧ Q_det Z a x0 x1 x2 o0 o1 o2 h0 n0 v U'.heap L ∧ FrameEnd U o U' L (({ frames := 2, cells := 0, slots := 0, locals := 32 } : Room)).cells (({ frames := 2, cells := 0, slots := 0, locals := 32 } : Room)).slots) := by
  refine Go.met (plainFor_of_name pn1) ?_
  intro p e s m below meth c s₁ hx hby hml hown hnm hret hlk hZ e0 X0
  have N0 := Fr.nil n0
  refine Go.cast (ef_det m a x0 x1 x2) ?_
  refine Go.st (U := (s₁.setTop (mkF m 1 #[.val (.ref a), .val (.int x0), .val (.int x1), .val (.double x2), .second] [(.ref a)]))) (fun t_ k_ => XS.aloadN X0.here hx rfl (hb hby d0_0) rfl rfl k_) ?_
  refine Go.callI X0 hx hZ hown rfl (hw _ (List.mem_of_getElem? (i := 10) rfl)) (hw _ (List.mem_of_getElem? (i := 11) rfl)) (hw _ (List.mem_of_getElem? (i := 13) rfl)) (hw _ (List.mem_of_getElem? (i := 14) rfl)) (by decide) (rm_rec l Z a0 hw [] a h0 n0 Z0 ) e0 0 (by decide) (by decide) (g := (mkF m 1 #[.val (.ref a), .val (.int x0), .val (.int x1), .val (.double x2), .second] [(.ref a)])) rfl (by rw [hml]; rfl) a [] [] rfl (lenOf pd0 rfl) rfl (by show 2 * 0 + _ ≤ _; exact Nat.le_of_eq rfl) (hb hby d0_1) (by decide) (by decide) ?_
  intro vi1 Ti1 Li1 hQi1 Xi1
  obtain ⟨rfl, Ni1, ei1⟩ := hQi1
  have Ni1 := Fr.app N0 Ni1
  show Go p e below s _ _ (Ti1.setTop (mkF m 4 #[.val (.ref a), .val (.int x0), .val (.int x1), .val (.double x2), .second] []))
  refine Go.st (U := (Ti1.setTop (mkF m 5 #[.val (.ref a), .val (.int x0), .val (.int x1), .val (.double x2), .second] [(.int x0)]))) (fun t_ k_ => XS.iloadN Xi1.here hx rfl (hb hby d0_4) rfl k_) ?_
  refine Go.st (U := (Ti1.setTop (mkF m 6 #[.val (.ref a), .val (.int x0), .val (.int x1), .val (.double x2), .second] [(.int (1 : Int32)), (.int x0)]))) (fun t_ k_ => XS.iconst Xi1.here hx rfl (hb hby d0_5) k_) ?_
  refine Go.st (U := (Ti1.setTop (mkF m 9 #[.val (.ref a), .val (.int x0), .val (.int x1), .val (.double x2), .second] []))) (fun t_ k_ => XS.icmpNo Xi1.here hx rfl (hb hby d0_6) rfl (flt c6).1 k_) ?_
  refine Go.st (U := (Ti1.setTop (mkF m 10 #[.val (.ref a), .val (.int x0), .val (.int x1), .val (.double x2), .second] [(.int x1)]))) (fun t_ k_ => XS.iloadN Xi1.here hx rfl (hb hby d0_9) rfl k_) ?_
  refine Go.st (U := (Ti1.setTop (mkF m 11 #[.val (.ref a), .val (.int x0), .val (.int x1), .val (.double x2), .second] [(.int (1 : Int32)), (.int x1)]))) (fun t_ k_ => XS.iconst Xi1.here hx rfl (hb hby d0_10) k_) ?_
  refine Go.st (U := (Ti1.setTop (mkF m 14 #[.val (.ref a), .val (.int x0), .val (.int x1), .val (.double x2), .second] []))) (fun t_ k_ => XS.icmpNo Xi1.here hx rfl (hb hby d0_11) rfl (flt c11).1 k_) ?_
  refine Go.st (U := (Ti1.setTop (mkF m 15 #[.val (.ref a), .val (.int x0), .val (.int x1), .val (.double x2), .second] [(.double x2)]))) (fun t_ k_ => XS.dloadN Xi1.here hx rfl (hb hby d0_14) rfl k_) ?_
  refine Go.st (U := (Ti1.setTop (mkF m 16 #[.val (.ref a), .val (.int x0), .val (.int x1), .val (.double x2), .second] [(.double (0 : UInt64)), (.double x2)]))) (fun t_ k_ => XS.dconst0 Xi1.here hx rfl (hb hby d0_15) rfl k_) ?_
  refine Go.st (U := (Ti1.setTop (mkF m 17 #[.val (.ref a), .val (.int x0), .val (.int x1), .val (.double x2), .second] [(.int (cmpValue (FP.dcmp x2 (0 : UInt64)) .l))]))) (fun t_ k_ => XS.dcmpS Xi1.here hx rfl (hb hby d0_16) rfl rfl k_) ?_
  refine Go.st (U := (Ti1.setTop (mkF m 20 #[.val (.ref a), .val (.int x0), .val (.int x1), .val (.double x2), .second] []))) (fun t_ k_ => XS.ifNo Xi1.here hx rfl (hb hby d0_17) rfl ((if0 _ _).trans (tlt c17).2.2.2) k_) ?_
  refine Go.st (U := (Ti1.setTop (mkF m 21 #[.val (.ref a), .val (.int x0), .val (.int x1), .val (.double x2), .second] [(.double x2)]))) (fun t_ k_ => XS.dloadN Xi1.here hx rfl (hb hby d0_20) rfl k_) ?_
  refine Go.isFin Xi1 hx hZ hown (hw _ (List.mem_of_getElem? (i := 18) rfl)) (hw _ (List.mem_of_getElem? (i := 19) rfl)) (hw _ (List.mem_of_getElem? (i := 20) rfl)) (hw _ (List.mem_of_getElem? (i := 21) rfl)) rfl (hw _ (List.mem_of_getElem? (i := 22) rfl)) (hw _ (List.mem_of_getElem? (i := 23) rfl)) (hw _ (List.mem_of_getElem? (i := 24) rfl)) (hw _ (List.mem_of_getElem? (i := 25) rfl)) rfl (hw _ (List.mem_of_getElem? (i := 26) rfl)) hfin ei1 0 (by decide) (by decide) (g := (mkF m 21 #[.val (.ref a), .val (.int x0), .val (.int x1), .val (.double x2), .second] [(.double x2)])) rfl (by rw [hml]; rfl) [] rfl (by show 2 * 0 + _ ≤ _; exact Nat.le_of_eq rfl) (hb hby d0_21) (by decide) (by decide) ?_
  intro Ti2 ei2 Xi2
  show Go p e below s _ _ (Ti2.setTop (mkF m 24 #[.val (.ref a), .val (.int x0), .val (.int x1), .val (.double x2), .second] [(.int (1 : Int32))]))
  refine Go.st (U := (Ti2.setTop (mkF m 43 #[.val (.ref a), .val (.int x0), .val (.int x1), .val (.double x2), .second] []))) (fun t_ k_ => XS.ifYes Xi2.here hx rfl (pc0 := 24) (pc' := 43) rfl (hb hby d0_24) rfl ((if0 _ _).trans (feq (by decide)).2) (by decide) (by decide) k_) ?_
  refine Go.st (U := (Ti2.setTop (mkF m 44 #[.val (.ref a), .val (.int x0), .val (.int x1), .val (.double x2), .second] [(.int x0)]))) (fun t_ k_ => XS.iloadN Xi2.here hx rfl (hb hby d0_43) rfl k_) ?_
  refine Go.st (U := (Ti2.setTop (mkF m 45 #[.val (.ref a), .val (.int x0), .val (.int x1), .val (.double x2), .second] [(.long (x0.toInt64))]))) (fun t_ k_ => XS.i2l Xi2.here hx rfl (hb hby d0_44) rfl k_) ?_
  refine Go.st (U := (Ti2.setTop (mkF m 46 #[.val (.ref a), .val (.int x0), .val (.int x1), .val (.double x2), .second] [(.int x1), (.long (x0.toInt64))]))) (fun t_ k_ => XS.iloadN Xi2.here hx rfl (hb hby d0_45) rfl k_) ?_
  refine Go.st (U := (Ti2.setTop (mkF m 47 #[.val (.ref a), .val (.int x0), .val (.int x1), .val (.double x2), .second] [(.long (x1.toInt64)), (.long (x0.toInt64))]))) (fun t_ k_ => XS.i2l Xi2.here hx rfl (hb hby d0_46) rfl k_) ?_
  refine Go.st (U := (Ti2.setTop (mkF m 48 #[.val (.ref a), .val (.int x0), .val (.int x1), .val (.double x2), .second] [(.long ((x0.toInt64) * (x1.toInt64)))]))) (fun t_ k_ => XS.lmul Xi2.here hx rfl (hb hby d0_47) rfl k_) ?_
  refine Go.st (U := (Ti2.setTop (mkF m 51 #[.val (.ref a), .val (.int x0), .val (.int x1), .val (.double x2), .second] [(.long (536870911 : Int64)), (.long ((x0.toInt64) * (x1.toInt64)))]))) (Xi2.ldc2Long hx hown (mvT hZ (hw _ (List.mem_of_getElem? (i := 27) rfl))) (g := (mkF m 48 #[.val (.ref a), .val (.int x0), .val (.int x1), .val (.double x2), .second] [(.long ((x0.toInt64) * (x1.toInt64)))])) rfl (hb hby d0_48)) ?_
  refine Go.st (U := (Ti2.setTop (mkF m 52 #[.val (.ref a), .val (.int x0), .val (.int x1), .val (.double x2), .second] [(.int (lcmpW ((x0.toInt64) * (x1.toInt64)) (536870911 : Int64)))]))) (fun t_ k_ => XS.lcmp Xi2.here hx rfl (hb hby d0_51) rfl k_) ?_
  refine Go.st (U := (Ti2.setTop (mkF m 70 #[.val (.ref a), .val (.int x0), .val (.int x1), .val (.double x2), .second] []))) (fun t_ k_ => XS.ifYes Xi2.here hx rfl (pc0 := 52) (pc' := 70) rfl (hb hby d0_52) rfl ((if0 _ _).trans (flt c52).2.2.2) (by decide) (by decide) k_) ?_
  refine Go.st (U := (Ti2.setTop (mkF m 71 #[.val (.ref a), .val (.int x0), .val (.int x1), .val (.double x2), .second] [(.ref a)]))) (fun t_ k_ => XS.aloadN Xi2.here hx rfl (hb hby d0_70) rfl rfl k_) ?_
  refine Go.st (U := (Ti2.setTop (mkF m 72 #[.val (.ref a), .val (.int x0), .val (.int x1), .val (.double x2), .second] [(.int x0), (.ref a)]))) (fun t_ k_ => XS.iloadN Xi2.here hx rfl (hb hby d0_71) rfl k_) ?_
  obtain ⟨Ti3, hi3, Xi3, ei3, Wi3, sti3⟩ := putF Xi2 hx hZ hown (host := "") (Or.inl (hw _ (List.mem_of_getElem? (i := 28) rfl))) Via.refl ei2 F0_a_columns E0_a (Or.inr ⟨(hw _ (List.mem_of_getElem? (i := 29) rfl)), rfl, hnm⟩) (hw _ (List.mem_of_getElem? (i := 5) rfl)) (ty := .int) (by decide) rfl rfl (g := (mkF m 72 #[.val (.ref a), .val (.int x0), .val (.int x1), .val (.double x2), .second] [(.int x0), (.ref a)])) rfl rfl (hb hby d0_72)
  have Ni3 := Fr.snoc Xi3 Ni1 ge_a
  have Zi3 : n0 ≤ hi3.size := by rw [Wi3.size]; exact Z0
  have Fi3_a_columns := Fld.same Wi3 F0_a_columns
  have Fi3_a_rows := Fld.other Wi3 F0_a_rows (Or.inr (slot_ne (Or.inr (hw _ (List.mem_of_getElem? (i := 31) rfl))) (Or.inr (hw _ (List.mem_of_getElem? (i := 29) rfl))) (by decide) (t := .int) (t' := .int) (by decide) (by decide)))
  have Fi3_a_pixel := Fld.other Wi3 F0_a_pixel (Or.inr (slot_ne (Or.inr (hw _ (List.mem_of_getElem? (i := 33) rfl))) (Or.inr (hw _ (List.mem_of_getElem? (i := 29) rfl))) (by decide) (t := .double) (t' := .int) (by decide) (by decide)))
  have Ei3_a := Exa.wr Wi3 E0_a
  have Ki3 := Keep.wr (Keep.refl h0 [a]) Wi3 (Or.inl (List.mem_of_getElem? (i := 0) rfl))
  refine Go.st (U := (Ti3.setTop (mkF m 75 #[.val (.ref a), .val (.int x0), .val (.int x1), .val (.double x2), .second] []))) sti3 ?_
  refine Go.st (U := (Ti3.setTop (mkF m 76 #[.val (.ref a), .val (.int x0), .val (.int x1), .val (.double x2), .second] [(.ref a)]))) (fun t_ k_ => XS.aloadN Xi3.here hx rfl (hb hby d0_75) rfl rfl k_) ?_
  refine Go.st (U := (Ti3.setTop (mkF m 77 #[.val (.ref a), .val (.int x0), .val (.int x1), .val (.double x2), .second] [(.int x1), (.ref a)]))) (fun t_ k_ => XS.iloadN Xi3.here hx rfl (hb hby d0_76) rfl k_) ?_
  obtain ⟨Ti4, hi4, Xi4, ei4, Wi4, sti4⟩ := putF Xi3 hx hZ hown (host := "") (Or.inl (hw _ (List.mem_of_getElem? (i := 30) rfl))) Via.refl ei3 Fi3_a_rows Ei3_a (Or.inr ⟨(hw _ (List.mem_of_getElem? (i := 31) rfl)), rfl, hnm⟩) (hw _ (List.mem_of_getElem? (i := 5) rfl)) (ty := .int) (by decide) rfl rfl (g := (mkF m 77 #[.val (.ref a), .val (.int x0), .val (.int x1), .val (.double x2), .second] [(.int x1), (.ref a)])) rfl rfl (hb hby d0_77)
  have Ni4 := Fr.snoc Xi4 Ni3 ge_a
  have Zi4 : n0 ≤ hi4.size := by rw [Wi4.size]; exact Zi3
  have Fi4_a_columns := Fld.other Wi4 Fi3_a_columns (Or.inr (slot_ne (Or.inr (hw _ (List.mem_of_getElem? (i := 29) rfl))) (Or.inr (hw _ (List.mem_of_getElem? (i := 31) rfl))) (by decide) (t := .int) (t' := .int) (by decide) (by decide)))
  have Fi4_a_rows := Fld.same Wi4 Fi3_a_rows
  have Fi4_a_pixel := Fld.other Wi4 Fi3_a_pixel (Or.inr (slot_ne (Or.inr (hw _ (List.mem_of_getElem? (i := 33) rfl))) (Or.inr (hw _ (List.mem_of_getElem? (i := 31) rfl))) (by decide) (t := .double) (t' := .int) (by decide) (by decide)))
  have Ei4_a := Exa.wr Wi4 Ei3_a
  have Ki4 := Keep.wr Ki3 Wi4 (Or.inl (List.mem_of_getElem? (i := 0) rfl))
  refine Go.st (U := (Ti4.setTop (mkF m 80 #[.val (.ref a), .val (.int x0), .val (.int x1), .val (.double x2), .second] []))) sti4 ?_
  refine Go.st (U := (Ti4.setTop (mkF m 81 #[.val (.ref a), .val (.int x0), .val (.int x1), .val (.double x2), .second] [(.ref a)]))) (fun t_ k_ => XS.aloadN Xi4.here hx rfl (hb hby d0_80) rfl rfl k_) ?_
  refine Go.st (U := (Ti4.setTop (mkF m 82 #[.val (.ref a), .val (.int x0), .val (.int x1), .val (.double x2), .second] [(.double x2), (.ref a)]))) (fun t_ k_ => XS.dloadN Xi4.here hx rfl (hb hby d0_81) rfl k_) ?_
  obtain ⟨Ti5, hi5, Xi5, ei5, Wi5, sti5⟩ := putF Xi4 hx hZ hown (host := "") (Or.inl (hw _ (List.mem_of_getElem? (i := 32) rfl))) Via.refl ei4 Fi4_a_pixel Ei4_a (Or.inr ⟨(hw _ (List.mem_of_getElem? (i := 33) rfl)), rfl, hnm⟩) (hw _ (List.mem_of_getElem? (i := 5) rfl)) (ty := .double) (by decide) rfl rfl (g := (mkF m 82 #[.val (.ref a), .val (.int x0), .val (.int x1), .val (.double x2), .second] [(.double x2), (.ref a)])) rfl rfl (hb hby d0_82)
  have Ni5 := Fr.snoc Xi5 Ni4 ge_a
  have Zi5 : n0 ≤ hi5.size := by rw [Wi5.size]; exact Zi4
  have Fi5_a_columns := Fld.other Wi5 Fi4_a_columns (Or.inr (slot_ne (Or.inr (hw _ (List.mem_of_getElem? (i := 29) rfl))) (Or.inr (hw _ (List.mem_of_getElem? (i := 33) rfl))) (by decide) (t := .int) (t' := .double) (by decide) (by decide)))
  have Fi5_a_rows := Fld.other Wi5 Fi4_a_rows (Or.inr (slot_ne (Or.inr (hw _ (List.mem_of_getElem? (i := 31) rfl))) (Or.inr (hw _ (List.mem_of_getElem? (i := 33) rfl))) (by decide) (t := .int) (t' := .double) (by decide) (by decide)))
  have Fi5_a_pixel := Fld.same Wi5 Fi4_a_pixel
  have Ei5_a := Exa.wr Wi5 Ei4_a
  have Ki5 := Keep.wr Ki4 Wi5 (Or.inl (List.mem_of_getElem? (i := 0) rfl))
  refine Go.st (U := (Ti5.setTop (mkF m 85 #[.val (.ref a), .val (.int x0), .val (.int x1), .val (.double x2), .second] []))) sti5 ?_
  refine Go.retV (st := []) Xi5 hx hlk hret (hb hby d0_85) (by decide) (by decide) ?_
  show Q_det Z a x0 x1 x2 o0 o1 o2 h0 n0 _ Ti5.heap _
  rw [ei5]
  exact ⟨rfl, Ni5, Ki5, Ei5_a, Fi5_a_columns, Fi5_a_rows, Fi5_a_pixel⟩
theorem d5_0 : decode prog_85_method_5_code 0 = .ok (.iload_n 1, 1) := by decide +kernel
theorem d5_1 : decode prog_85_method_5_code 1 = .ok (.i2d, 1) := by decide +kernel
theorem d5_2 : decode prog_85_method_5_code 2 = .ok (.aload_n 0, 1) := by decide +kernel
theorem d5_3 : decode prog_85_method_5_code 3 = .ok (.getfield 29, 3) := by decide +kernel
theorem d5_6 : decode prog_85_method_5_code 6 = .ok (.iconst 1, 1) := by decide +kernel
theorem d5_7 : decode prog_85_method_5_code 7 = .ok (.isub, 1) := by decide +kernel
theorem d5_8 : decode prog_85_method_5_code 8 = .ok (.i2d, 1) := by decide +kernel
theorem d5_9 : decode prog_85_method_5_code 9 = .ok (.ldc2_w 107, 3) := by decide +kernel
theorem d5_12 : decode prog_85_method_5_code 12 = .ok (.ddiv, 1) := by decide +kernel
theorem d5_13 : decode prog_85_method_5_code 13 = .ok (.dsub, 1) := by decide +kernel
theorem d5_14 : decode prog_85_method_5_code 14 = .ok (.aload_n 0, 1) := by decide +kernel
theorem d5_15 : decode prog_85_method_5_code 15 = .ok (.getfield 38, 3) := by decide +kernel
theorem d5_18 : decode prog_85_method_5_code 18 = .ok (.dmul, 1) := by decide +kernel
theorem d5_19 : decode prog_85_method_5_code 19 = .ok (.dreturn, 1) := by decide +kernel
def Q_cof (Z : State) (a : Addr) (u : Int32) (cl : Int32) (px : UInt64) (h0 : Heap) (n0 : Nat) (v : Option Value) (h : Heap) (L : List Loc) : Prop := v = some (.double (FP.dmul (FP.dsub (FP.i2d u) (FP.ddiv (FP.i2d (cl - (1 : Int32))) (4611686018427387904 : UInt64))) px)) ∧ Fr n0 L ∧ h = h0
theorem ef_cof (m : MethodId) (y0 : Addr) (y1 : Int32) : entryFrame m #[(.ref y0), (.int y1)] 2 = mkF m 0 #[.val (.ref y0), .val (.int y1)] [] := by first | (simp [entryFrame, mkF, argsToLocals, Value.category, maxLocals]; done) | rfl
set_option maxRecDepth 65536 in
set_option maxHeartbeats 40000000 in
theorem rm_cof (l : Launch) (Z : State) (a0 : Array Value) (hw : ∀ d ∈ tables_1, d.before a0 Z = true) (ws : List Jvm.Cond) (a : Addr) (u : Int32) (cl : Int32) (px : UInt64) (h0 : Heap) (n0 : Nat) (Z0 : n0 ≤ h0.size) (F0_a_columns : Fld Z h0 a "org/pulsewarp/geometry/Detector" "columns" "I" (.int cl)) (F0_a_pixel : Fld Z h0 a "org/pulsewarp/geometry/Detector" "pixel" "D" (.double px)) (n1 : Jvm.Free.Fl.NoNaN64 (FP.ddiv (FP.i2d (cl - (1 : Int32))) (4611686018427387904 : UInt64))) (n2 : Jvm.Free.Fl.NoNaN64 (FP.dsub (FP.i2d u) (FP.ddiv (FP.i2d (cl - (1 : Int32))) (4611686018427387904 : UInt64)))) (n3 : Jvm.Free.Fl.NoNaN64 (FP.dmul (FP.dsub (FP.i2d u) (FP.ddiv (FP.i2d (cl - (1 : Int32))) (4611686018427387904 : UInt64))) px)) :
    MetFree l (⟨"org/pulsewarp/geometry/Detector", "columnOffset", "(I)D"⟩ : MethodName) (head1 (Jvm.Cond.code (⟨"org/pulsewarp/geometry/Detector", "columnOffset", "(I)D"⟩ : MethodName) prog_85_method_5_code 2 (some .double) :: ws) ({ frames := 0, cells := 0, slots := 0, locals := 0 } : Room)) (fun aa_ U => aa_ = #[(.ref a), (.int u)] ∧ Z.Warmed39 U.vm ∧ U.heap = h0) (fun _ _ _ _ _ => True) (fun _ U o U' => ∃ v L, o = .returned v ∧ Q_cof Z a u cl px h0 n0 v U'.heap L ∧ FrameEnd U o U' L (({ frames := 0, cells := 0, slots := 0, locals := 0 } : Room)).cells (({ frames := 0, cells := 0, slots := 0, locals := 0 } : Room)).slots) := by
  refine Go.met (plainFor_of_name pn1) ?_
  intro p e s m below meth c s₁ hx hby hml hown hnm hret hlk hZ e0 X0
  have N0 := Fr.nil n0
  refine Go.cast (ef_cof m a u) ?_
  refine Go.st (U := (s₁.setTop (mkF m 1 #[.val (.ref a), .val (.int u)] [(.int u)]))) (fun t_ k_ => XS.iloadN X0.here hx rfl (hb hby d5_0) rfl k_) ?_
  refine Go.st (U := (s₁.setTop (mkF m 2 #[.val (.ref a), .val (.int u)] [(.double (FP.i2d u))]))) (fun t_ k_ => XS.i2dS X0.here hx rfl (hb hby d5_1) rfl rfl k_) ?_
  refine Go.st (U := (s₁.setTop (mkF m 3 #[.val (.ref a), .val (.int u)] [(.ref a), (.double (FP.i2d u))]))) (fun t_ k_ => XS.aloadN X0.here hx rfl (hb hby d5_2) rfl rfl k_) ?_
  obtain ⟨Ti1, Xi1, ei1, sti1⟩ := getF X0 hx hZ hown (host := "") (Or.inl (hw _ (List.mem_of_getElem? (i := 28) rfl))) Via.refl e0 F0_a_columns (g := (mkF m 3 #[.val (.ref a), .val (.int u)] [(.ref a), (.double (FP.i2d u))])) rfl rfl (hb hby d5_3)
  refine Go.st (U := (Ti1.setTop (mkF m 6 #[.val (.ref a), .val (.int u)] [(.int cl), (.double (FP.i2d u))]))) sti1 ?_
  refine Go.st (U := (Ti1.setTop (mkF m 7 #[.val (.ref a), .val (.int u)] [(.int (1 : Int32)), (.int cl), (.double (FP.i2d u))]))) (fun t_ k_ => XS.iconst Xi1.here hx rfl (hb hby d5_6) k_) ?_
  refine Go.st (U := (Ti1.setTop (mkF m 8 #[.val (.ref a), .val (.int u)] [(.int (cl - (1 : Int32))), (.double (FP.i2d u))]))) (fun t_ k_ => XS.isub Xi1.here hx rfl (hb hby d5_7) rfl k_) ?_
  refine Go.st (U := (Ti1.setTop (mkF m 9 #[.val (.ref a), .val (.int u)] [(.double (FP.i2d (cl - (1 : Int32)))), (.double (FP.i2d u))]))) (fun t_ k_ => XS.i2dS Xi1.here hx rfl (hb hby d5_8) rfl rfl k_) ?_
  refine Go.st (U := (Ti1.setTop (mkF m 12 #[.val (.ref a), .val (.int u)] [(.double (4611686018427387904 : UInt64)), (.double (FP.i2d (cl - (1 : Int32)))), (.double (FP.i2d u))]))) (Xi1.ldc2DoubleC hx hown (mvT hZ (hw _ (List.mem_of_getElem? (i := 41) rfl))) (g := (mkF m 9 #[.val (.ref a), .val (.int u)] [(.double (FP.i2d (cl - (1 : Int32)))), (.double (FP.i2d u))])) rfl (hb hby d5_9)) ?_
  refine Go.st (U := (Ti1.setTop (mkF m 13 #[.val (.ref a), .val (.int u)] [(.double (FP.ddiv (FP.i2d (cl - (1 : Int32))) (4611686018427387904 : UInt64))), (.double (FP.i2d u))]))) (fun t_ k_ => XS.ddivS Xi1.here hx rfl (hb hby d5_12) rfl n1 rfl k_) ?_
  refine Go.st (U := (Ti1.setTop (mkF m 14 #[.val (.ref a), .val (.int u)] [(.double (FP.dsub (FP.i2d u) (FP.ddiv (FP.i2d (cl - (1 : Int32))) (4611686018427387904 : UInt64))))]))) (fun t_ k_ => XS.dsubS Xi1.here hx rfl (hb hby d5_13) rfl n2 rfl k_) ?_
  refine Go.st (U := (Ti1.setTop (mkF m 15 #[.val (.ref a), .val (.int u)] [(.ref a), (.double (FP.dsub (FP.i2d u) (FP.ddiv (FP.i2d (cl - (1 : Int32))) (4611686018427387904 : UInt64))))]))) (fun t_ k_ => XS.aloadN Xi1.here hx rfl (hb hby d5_14) rfl rfl k_) ?_
  obtain ⟨Ti2, Xi2, ei2, sti2⟩ := getF Xi1 hx hZ hown (host := "") (Or.inl (hw _ (List.mem_of_getElem? (i := 32) rfl))) Via.refl ei1 F0_a_pixel (g := (mkF m 15 #[.val (.ref a), .val (.int u)] [(.ref a), (.double (FP.dsub (FP.i2d u) (FP.ddiv (FP.i2d (cl - (1 : Int32))) (4611686018427387904 : UInt64))))])) rfl rfl (hb hby d5_15)
  refine Go.st (U := (Ti2.setTop (mkF m 18 #[.val (.ref a), .val (.int u)] [(.double px), (.double (FP.dsub (FP.i2d u) (FP.ddiv (FP.i2d (cl - (1 : Int32))) (4611686018427387904 : UInt64))))]))) sti2 ?_
  refine Go.st (U := (Ti2.setTop (mkF m 19 #[.val (.ref a), .val (.int u)] [(.double (FP.dmul (FP.dsub (FP.i2d u) (FP.ddiv (FP.i2d (cl - (1 : Int32))) (4611686018427387904 : UInt64))) px))]))) (fun t_ k_ => XS.dmulS Xi2.here hx rfl (hb hby d5_18) rfl n3 rfl k_) ?_
  refine Go.retD Xi2 hx hlk hret (hb hby d5_19) (by decide) (by decide) ?_
  show Q_cof Z a u cl px h0 n0 _ Ti2.heap _
  rw [ei2]
  exact ⟨rfl, N0, rfl⟩
theorem pn2 : plainName "org/pulsewarp/geometry/DetectorColumnOffsetPinLaw" = true := by first | (simp [plainName, overriddenIn]; done) | decide +kernel
def Q_law (Z : State) (p0 : Int32) (p1 : Int32) (p2 : Int32) (h0 : Heap) (n0 : Nat) (v : Option Value) (h : Heap) (L : List Loc) : Prop := v = some (.int 1) ∧ Fr n0 L
theorem ef_law (m : MethodId) (y0 : Int32) (y1 : Int32) (y2 : Int32) : entryFrame m #[(.int y0), (.int y1), (.int y2)] maxLocals = mkF m 0 #[.val (.int y0), .val (.int y1), .val (.int y2), .unset, .unset, .unset, .unset, .unset, .unset, .unset, .unset, .unset, .unset, .unset, .unset] [] := by first | (simp [entryFrame, mkF, argsToLocals, Value.category, maxLocals]; done) | rfl
theorem pd1 : parseMethodDescriptor "(IID)V" = some ⟨[.int, .int, .double], none⟩ := by decide +kernel
theorem pd2 : parseMethodDescriptor "(I)D" = some ⟨[.int], some .double⟩ := by decide +kernel
set_option maxRecDepth 65536 in
set_option maxHeartbeats 40000000 in
theorem rm_law (l : Launch) (Z : State) (a0 : Array Value) (hw : ∀ d ∈ tables_1, d.before a0 Z = true) (ws : List Jvm.Cond) (p0 : Int32) (p1 : Int32) (p2 : Int32) (h0 : Heap) (n0 : Nat) (Z0 : n0 ≤ h0.size)  :
    MetFree l x (head1 (Jvm.Cond.code x code maxLocals ret :: ws) room_1) (fun aa_ U => aa_ = #[(.int p0), (.int p1), (.int p2)] ∧ Z.Warmed39 U.vm ∧ U.heap = h0) (fun _ _ _ _ _ => True) (fun _ U o U' => ∃ v L, o = .returned v ∧ Q_law Z p0 p1 p2 h0 n0 v U'.heap L ∧ FrameEnd U o U' L (room_1).cells (room_1).slots) := by
  refine Go.met (plainFor_of_name pn2) ?_
  intro p e s m below meth c s₁ hx hby hml hown hnm hret hlk hZ e0 X0
  have hml : c.maxLocals = 15 := hml
  have N0 := Fr.nil n0
  refine Go.cast (ef_law m p0 p1 p2) ?_
  refine Go.st (U := (s₁.setTop (mkF m 1 #[.val (.int p0), .val (.int p1), .val (.int p2), .unset, .unset, .unset, .unset, .unset, .unset, .unset, .unset, .unset, .unset, .unset, .unset] [(.int p0)]))) (fun t_ k_ => XS.iloadN X0.here hx rfl (hb hby at_0) rfl k_) ?_
  refine Go.st (U := (s₁.setTop (mkF m 3 #[.val (.int p0), .val (.int p1), .val (.int p2), .unset, .unset, .unset, .unset, .unset, .unset, .unset, .unset, .unset, .unset, .unset, .unset] [(.int (2147483647 : Int32)), (.int p0)]))) (X0.ldcInt hx hown (mvT hZ (hw _ (List.mem_of_getElem? (i := 0) rfl))) (g := (mkF m 1 #[.val (.int p0), .val (.int p1), .val (.int p2), .unset, .unset, .unset, .unset, .unset, .unset, .unset, .unset, .unset, .unset, .unset, .unset] [(.int p0)])) rfl (hb hby at_1)) ?_
  refine Go.st (U := (s₁.setTop (mkF m 4 #[.val (.int p0), .val (.int p1), .val (.int p2), .unset, .unset, .unset, .unset, .unset, .unset, .unset, .unset, .unset, .unset, .unset, .unset] [(.int (p0 &&& (2147483647 : Int32)))]))) (fun t_ k_ => XS.iand X0.here hx rfl (hb hby at_3) rfl k_) ?_
  refine Go.st (U := (s₁.setTop (mkF m 6 #[.val (.int p0), .val (.int p1), .val (.int p2), .unset, .unset, .unset, .unset, .unset, .unset, .unset, .unset, .unset, .unset, .unset, .unset] [(.int (536870911 : Int32)), (.int (p0 &&& (2147483647 : Int32)))]))) (X0.ldcInt hx hown (mvT hZ (hw _ (List.mem_of_getElem? (i := 1) rfl))) (g := (mkF m 4 #[.val (.int p0), .val (.int p1), .val (.int p2), .unset, .unset, .unset, .unset, .unset, .unset, .unset, .unset, .unset, .unset, .unset, .unset] [(.int (p0 &&& (2147483647 : Int32)))])) rfl (hb hby at_4)) ?_
  refine Go.st (U := (s₁.setTop (mkF m 7 #[.val (.int p0), .val (.int p1), .val (.int p2), .unset, .unset, .unset, .unset, .unset, .unset, .unset, .unset, .unset, .unset, .unset, .unset] [(.int ((p0 &&& (2147483647 : Int32)) - (p0 &&& (2147483647 : Int32)) / (536870911 : Int32) * (536870911 : Int32)))]))) (fun t_ k_ => XS.irem X0.here hx rfl (hb hby at_6) rfl (by decide) k_) ?_
  refine Go.st (U := (s₁.setTop (mkF m 8 #[.val (.int p0), .val (.int p1), .val (.int p2), .unset, .unset, .unset, .unset, .unset, .unset, .unset, .unset, .unset, .unset, .unset, .unset] [(.int (1 : Int32)), (.int ((p0 &&& (2147483647 : Int32)) - (p0 &&& (2147483647 : Int32)) / (536870911 : Int32) * (536870911 : Int32)))]))) (fun t_ k_ => XS.iconst X0.here hx rfl (hb hby at_7) k_) ?_
  refine Go.st (U := (s₁.setTop (mkF m 9 #[.val (.int p0), .val (.int p1), .val (.int p2), .unset, .unset, .unset, .unset, .unset, .unset, .unset, .unset, .unset, .unset, .unset, .unset] [(.int (((p0 &&& (2147483647 : Int32)) - (p0 &&& (2147483647 : Int32)) / (536870911 : Int32) * (536870911 : Int32)) + (1 : Int32)))]))) (fun t_ k_ => XS.iadd X0.here hx rfl (hb hby at_8) rfl k_) ?_
  generalize q_cl : (((p0 &&& (2147483647 : Int32)) - (p0 &&& (2147483647 : Int32)) / (536870911 : Int32) * (536870911 : Int32)) + (1 : Int32)) = cl
  refine Go.st (U := (s₁.setTop (mkF m 10 #[.val (.int p0), .val (.int p1), .val (.int p2), .val (.int cl), .unset, .unset, .unset, .unset, .unset, .unset, .unset, .unset, .unset, .unset, .unset] []))) (fun t_ k_ => XS.istoreN X0.here hx rfl (hb hby at_9) rfl (l' := #[.val (.int p0), .val (.int p1), .val (.int p2), .val (.int cl), .unset, .unset, .unset, .unset, .unset, .unset, .unset, .unset, .unset, .unset, .unset]) rfl k_) ?_
  have B_c := own_cl q_cl
  refine Go.st (U := (s₁.setTop (mkF m 11 #[.val (.int p0), .val (.int p1), .val (.int p2), .val (.int cl), .unset, .unset, .unset, .unset, .unset, .unset, .unset, .unset, .unset, .unset, .unset] [(.int p2)]))) (fun t_ k_ => XS.iloadN X0.here hx rfl (hb hby at_10) rfl k_) ?_
  refine Go.st (U := (s₁.setTop (mkF m 13 #[.val (.int p0), .val (.int p1), .val (.int p2), .val (.int cl), .unset, .unset, .unset, .unset, .unset, .unset, .unset, .unset, .unset, .unset, .unset] [(.int (1048575 : Int32)), (.int p2)]))) (X0.ldcInt hx hown (mvT hZ (hw _ (List.mem_of_getElem? (i := 2) rfl))) (g := (mkF m 11 #[.val (.int p0), .val (.int p1), .val (.int p2), .val (.int cl), .unset, .unset, .unset, .unset, .unset, .unset, .unset, .unset, .unset, .unset, .unset] [(.int p2)])) rfl (hb hby at_11)) ?_
  refine Go.st (U := (s₁.setTop (mkF m 14 #[.val (.int p0), .val (.int p1), .val (.int p2), .val (.int cl), .unset, .unset, .unset, .unset, .unset, .unset, .unset, .unset, .unset, .unset, .unset] [(.int (p2 &&& (1048575 : Int32)))]))) (fun t_ k_ => XS.iand X0.here hx rfl (hb hby at_13) rfl k_) ?_
  refine Go.st (U := (s₁.setTop (mkF m 15 #[.val (.int p0), .val (.int p1), .val (.int p2), .val (.int cl), .unset, .unset, .unset, .unset, .unset, .unset, .unset, .unset, .unset, .unset, .unset] [(.long ((p2 &&& (1048575 : Int32)).toInt64))]))) (fun t_ k_ => XS.i2l X0.here hx rfl (hb hby at_14) rfl k_) ?_
  refine Go.st (U := (s₁.setTop (mkF m 16 #[.val (.int p0), .val (.int p1), .val (.int p2), .val (.int cl), .unset, .unset, .unset, .unset, .unset, .unset, .unset, .unset, .unset, .unset, .unset] [(.long (1 : Int64)), (.long ((p2 &&& (1048575 : Int32)).toInt64))]))) (fun t_ k_ => XS.lconst X0.here hx rfl (hb hby at_15) k_) ?_
  refine Go.st (U := (s₁.setTop (mkF m 17 #[.val (.int p0), .val (.int p1), .val (.int p2), .val (.int cl), .unset, .unset, .unset, .unset, .unset, .unset, .unset, .unset, .unset, .unset, .unset] [(.long (((p2 &&& (1048575 : Int32)).toInt64) + (1 : Int64)))]))) (fun t_ k_ => XS.ladd X0.here hx rfl (hb hby at_16) rfl k_) ?_
  generalize q_qq : (((p2 &&& (1048575 : Int32)).toInt64) + (1 : Int64)) = qq
  refine Go.st (U := (s₁.setTop (mkF m 19 #[.val (.int p0), .val (.int p1), .val (.int p2), .val (.int cl), .val (.long qq), .second, .unset, .unset, .unset, .unset, .unset, .unset, .unset, .unset, .unset] []))) (fun t_ k_ => XS.lstore X0.here hx rfl (hb hby at_17) rfl (l' := #[.val (.int p0), .val (.int p1), .val (.int p2), .val (.int cl), .val (.long qq), .second, .unset, .unset, .unset, .unset, .unset, .unset, .unset, .unset, .unset]) rfl k_) ?_
  have B_q := own_qq q_qq
  refine Go.st (U := (s₁.setTop (mkF m 21 #[.val (.int p0), .val (.int p1), .val (.int p2), .val (.int cl), .val (.long qq), .second, .unset, .unset, .unset, .unset, .unset, .unset, .unset, .unset, .unset] [(.long qq)]))) (fun t_ k_ => XS.lload X0.here hx rfl (hb hby at_19) rfl k_) ?_
  refine Go.st (U := (s₁.setTop (mkF m 22 #[.val (.int p0), .val (.int p1), .val (.int p2), .val (.int cl), .val (.long qq), .second, .unset, .unset, .unset, .unset, .unset, .unset, .unset, .unset, .unset] [(.double (FP.l2d qq))]))) (fun t_ k_ => XS.l2dS X0.here hx rfl (hb hby at_21) rfl rfl k_) ?_
  refine Go.st (U := (s₁.setTop (mkF m 25 #[.val (.int p0), .val (.int p1), .val (.int p2), .val (.int cl), .val (.long qq), .second, .unset, .unset, .unset, .unset, .unset, .unset, .unset, .unset, .unset] [(.double (4652218415073722368 : UInt64)), (.double (FP.l2d qq))]))) (X0.ldc2DoubleC hx hown (mvT hZ (hw _ (List.mem_of_getElem? (i := 3) rfl))) (g := (mkF m 22 #[.val (.int p0), .val (.int p1), .val (.int p2), .val (.int cl), .val (.long qq), .second, .unset, .unset, .unset, .unset, .unset, .unset, .unset, .unset, .unset] [(.double (FP.l2d qq))])) rfl (hb hby at_22)) ?_
  refine Go.st (U := (s₁.setTop (mkF m 26 #[.val (.int p0), .val (.int p1), .val (.int p2), .val (.int cl), .val (.long qq), .second, .unset, .unset, .unset, .unset, .unset, .unset, .unset, .unset, .unset] [(.double (FP.ddiv (FP.l2d qq) (4652218415073722368 : UInt64)))]))) (fun t_ k_ => XS.ddivS X0.here hx rfl (hb hby at_25) rfl (own_px B_q).1 rfl k_) ?_
  refine Go.st (U := (s₁.setTop (mkF m 28 #[.val (.int p0), .val (.int p1), .val (.int p2), .val (.int cl), .val (.long qq), .second, .val (.double (FP.ddiv (FP.l2d qq) (4652218415073722368 : UInt64))), .second, .unset, .unset, .unset, .unset, .unset, .unset, .unset] []))) (fun t_ k_ => XS.dstore X0.here hx rfl (hb hby at_26) rfl (l' := #[.val (.int p0), .val (.int p1), .val (.int p2), .val (.int cl), .val (.long qq), .second, .val (.double (FP.ddiv (FP.l2d qq) (4652218415073722368 : UInt64))), .second, .unset, .unset, .unset, .unset, .unset, .unset, .unset]) rfl k_) ?_
  obtain ⟨Ti1, hi1, Xi1, ei1, Gi1, Ai1, Di1, -, sti1⟩ := newO X0 hx hZ hown (hw _ (List.mem_of_getElem? (i := 4) rfl)) (hw _ (List.mem_of_getElem? (i := 5) rfl)) (hw _ (List.mem_of_getElem? (i := 6) rfl)) e0 (g := (mkF m 28 #[.val (.int p0), .val (.int p1), .val (.int p2), .val (.int cl), .val (.long qq), .second, .val (.double (FP.ddiv (FP.l2d qq) (4652218415073722368 : UInt64))), .second, .unset, .unset, .unset, .unset, .unset, .unset, .unset] [])) rfl (hb hby at_28) (by decide) (by decide)
  obtain ⟨bi1, gi1⟩ : ∃ z, z = h0.size := ⟨_, rfl⟩
  rw [← gi1] at Ai1 Di1 sti1
  have ge_bi1 : n0 ≤ bi1 := Nat.le_trans Z0 (Nat.le_of_eq gi1.symm)
  have sz_bi1 : h0.size ≤ bi1 := Nat.le_of_eq gi1.symm
  have sz0_bi1 : h0.size ≤ bi1 := Nat.le_trans (Keep.size_le (Keep.refl h0 [])) sz_bi1
  have Fi1_bi1_columns : Fld Z hi1 bi1 "org/pulsewarp/geometry/Detector" "columns" "I" (.int 0) := Di1 (Or.inr (hw _ (List.mem_of_getElem? (i := 29) rfl))) (ty := .int) (by decide)
  have Fi1_bi1_rows : Fld Z hi1 bi1 "org/pulsewarp/geometry/Detector" "rows" "I" (.int 0) := Di1 (Or.inr (hw _ (List.mem_of_getElem? (i := 31) rfl))) (ty := .int) (by decide)
  have Fi1_bi1_pixel : Fld Z hi1 bi1 "org/pulsewarp/geometry/Detector" "pixel" "D" (.double 0) := Di1 (Or.inr (hw _ (List.mem_of_getElem? (i := 33) rfl))) (ty := .double) (by decide)
  have Zi1 : n0 ≤ hi1.size := Nat.le_trans Z0 Gi1.1
  have Ki1 := Keep.ext (Keep.refl h0 []) Gi1
  refine Go.st (U := (Ti1.setTop (mkF m 31 #[.val (.int p0), .val (.int p1), .val (.int p2), .val (.int cl), .val (.long qq), .second, .val (.double (FP.ddiv (FP.l2d qq) (4652218415073722368 : UInt64))), .second, .unset, .unset, .unset, .unset, .unset, .unset, .unset] [(.ref bi1)]))) sti1 ?_
  refine Go.st (U := (Ti1.setTop (mkF m 32 #[.val (.int p0), .val (.int p1), .val (.int p2), .val (.int cl), .val (.long qq), .second, .val (.double (FP.ddiv (FP.l2d qq) (4652218415073722368 : UInt64))), .second, .unset, .unset, .unset, .unset, .unset, .unset, .unset] [(.ref bi1), (.ref bi1)]))) (fun t_ k_ => XS.dup Xi1.here hx rfl (hb hby at_31) rfl rfl k_) ?_
  refine Go.st (U := (Ti1.setTop (mkF m 33 #[.val (.int p0), .val (.int p1), .val (.int p2), .val (.int cl), .val (.long qq), .second, .val (.double (FP.ddiv (FP.l2d qq) (4652218415073722368 : UInt64))), .second, .unset, .unset, .unset, .unset, .unset, .unset, .unset] [(.int cl), (.ref bi1), (.ref bi1)]))) (fun t_ k_ => XS.iloadN Xi1.here hx rfl (hb hby at_32) rfl k_) ?_
  refine Go.st (U := (Ti1.setTop (mkF m 34 #[.val (.int p0), .val (.int p1), .val (.int p2), .val (.int cl), .val (.long qq), .second, .val (.double (FP.ddiv (FP.l2d qq) (4652218415073722368 : UInt64))), .second, .unset, .unset, .unset, .unset, .unset, .unset, .unset] [(.int (1 : Int32)), (.int cl), (.ref bi1), (.ref bi1)]))) (fun t_ k_ => XS.iconst Xi1.here hx rfl (hb hby at_33) k_) ?_
  refine Go.st (U := (Ti1.setTop (mkF m 36 #[.val (.int p0), .val (.int p1), .val (.int p2), .val (.int cl), .val (.long qq), .second, .val (.double (FP.ddiv (FP.l2d qq) (4652218415073722368 : UInt64))), .second, .unset, .unset, .unset, .unset, .unset, .unset, .unset] [(.double (FP.ddiv (FP.l2d qq) (4652218415073722368 : UInt64))), (.int (1 : Int32)), (.int cl), (.ref bi1), (.ref bi1)]))) (fun t_ k_ => XS.dload Xi1.here hx rfl (hb hby at_34) rfl k_) ?_
  refine Go.callI Xi1 hx hZ hown rfl (hw _ (List.mem_of_getElem? (i := 7) rfl)) (hw _ (List.mem_of_getElem? (i := 8) rfl)) (hw _ (List.mem_of_getElem? (i := 6) rfl)) (hw _ (List.mem_of_getElem? (i := 9) rfl)) (by decide) (rm_det l Z a0 hw [] bi1 cl (1 : Int32) (FP.ddiv (FP.l2d qq) (4652218415073722368 : UInt64)) (.int 0) (.int 0) (.double 0) hi1 n0 Zi1 Ai1 ge_bi1 Fi1_bi1_columns Fi1_bi1_rows Fi1_bi1_pixel ((own_c1 B_c)) ((by decide)) ((own_pos B_q)) ((Jvm.OwnFl.f64 (own_px B_q).2.1)) ((own_sz B_c))) ei1 1 (by decide) (by decide) (g := (mkF m 36 #[.val (.int p0), .val (.int p1), .val (.int p2), .val (.int cl), .val (.long qq), .second, .val (.double (FP.ddiv (FP.l2d qq) (4652218415073722368 : UInt64))), .second, .unset, .unset, .unset, .unset, .unset, .unset, .unset] [(.double (FP.ddiv (FP.l2d qq) (4652218415073722368 : UInt64))), (.int (1 : Int32)), (.int cl), (.ref bi1), (.ref bi1)])) rfl (by rw [hml]; rfl) bi1 [(.int cl), (.int (1 : Int32)), (.double (FP.ddiv (FP.l2d qq) (4652218415073722368 : UInt64)))] [(.ref bi1)] rfl (lenOf pd1 rfl) rfl (by show 2 * 0 + _ ≤ _; exact Nat.le_of_eq rfl) (hb hby at_36) (by decide) (by decide) ?_
  intro vi2 Ti2 Li2 hQi2 Xi2
  obtain ⟨rfl, Ni2, Ki2, Ei2_bi1, Fi2_bi1_columns, Fi2_bi1_rows, Fi2_bi1_pixel⟩ := hQi2
  have Ni2 := Fr.app N0 Ni2
  have Zi2 : n0 ≤ Ti2.heap.size := Nat.le_trans Zi1 Ki2.1
  have Ki2 := Keep.trans Ki1 Ki2 (allS (Or.inr sz0_bi1) all0)
  show Go p e below s _ _ (Ti2.setTop (mkF m 39 #[.val (.int p0), .val (.int p1), .val (.int p2), .val (.int cl), .val (.long qq), .second, .val (.double (FP.ddiv (FP.l2d qq) (4652218415073722368 : UInt64))), .second, .unset, .unset, .unset, .unset, .unset, .unset, .unset] [(.ref bi1)]))
  refine Go.st (U := (Ti2.setTop (mkF m 41 #[.val (.int p0), .val (.int p1), .val (.int p2), .val (.int cl), .val (.long qq), .second, .val (.double (FP.ddiv (FP.l2d qq) (4652218415073722368 : UInt64))), .second, .val (.ref bi1), .unset, .unset, .unset, .unset, .unset, .unset] []))) (fun t_ k_ => XS.astore Xi2.here hx rfl (hb hby at_39) rfl rfl (l' := #[.val (.int p0), .val (.int p1), .val (.int p2), .val (.int cl), .val (.long qq), .second, .val (.double (FP.ddiv (FP.l2d qq) (4652218415073722368 : UInt64))), .second, .val (.ref bi1), .unset, .unset, .unset, .unset, .unset, .unset]) rfl k_) ?_
  refine Go.st (U := (Ti2.setTop (mkF m 44 #[.val (.int p0), .val (.int p1), .val (.int p2), .val (.int cl), .val (.long qq), .second, .val (.double (FP.ddiv (FP.l2d qq) (4652218415073722368 : UInt64))), .second, .val (.ref bi1), .unset, .unset, .unset, .unset, .unset, .unset] [(.long (2 : Int64))]))) (Xi2.ldc2Long hx hown (mvT hZ (hw _ (List.mem_of_getElem? (i := 34) rfl))) (g := (mkF m 41 #[.val (.int p0), .val (.int p1), .val (.int p2), .val (.int cl), .val (.long qq), .second, .val (.double (FP.ddiv (FP.l2d qq) (4652218415073722368 : UInt64))), .second, .val (.ref bi1), .unset, .unset, .unset, .unset, .unset, .unset] [])) rfl (hb hby at_41)) ?_
  refine Go.st (U := (Ti2.setTop (mkF m 45 #[.val (.int p0), .val (.int p1), .val (.int p2), .val (.int cl), .val (.long qq), .second, .val (.double (FP.ddiv (FP.l2d qq) (4652218415073722368 : UInt64))), .second, .val (.ref bi1), .unset, .unset, .unset, .unset, .unset, .unset] [(.int p1), (.long (2 : Int64))]))) (fun t_ k_ => XS.iloadN Xi2.here hx rfl (hb hby at_44) rfl k_) ?_
  refine Go.st (U := (Ti2.setTop (mkF m 46 #[.val (.int p0), .val (.int p1), .val (.int p2), .val (.int cl), .val (.long qq), .second, .val (.double (FP.ddiv (FP.l2d qq) (4652218415073722368 : UInt64))), .second, .val (.ref bi1), .unset, .unset, .unset, .unset, .unset, .unset] [(.long (p1.toInt64)), (.long (2 : Int64))]))) (fun t_ k_ => XS.i2l Xi2.here hx rfl (hb hby at_45) rfl k_) ?_
  refine Go.st (U := (Ti2.setTop (mkF m 47 #[.val (.int p0), .val (.int p1), .val (.int p2), .val (.int cl), .val (.long qq), .second, .val (.double (FP.ddiv (FP.l2d qq) (4652218415073722368 : UInt64))), .second, .val (.ref bi1), .unset, .unset, .unset, .unset, .unset, .unset] [(.long ((2 : Int64) * (p1.toInt64)))]))) (fun t_ k_ => XS.lmul Xi2.here hx rfl (hb hby at_46) rfl k_) ?_
  refine Go.st (U := (Ti2.setTop (mkF m 48 #[.val (.int p0), .val (.int p1), .val (.int p2), .val (.int cl), .val (.long qq), .second, .val (.double (FP.ddiv (FP.l2d qq) (4652218415073722368 : UInt64))), .second, .val (.ref bi1), .unset, .unset, .unset, .unset, .unset, .unset] [(.int cl), (.long ((2 : Int64) * (p1.toInt64)))]))) (fun t_ k_ => XS.iloadN Xi2.here hx rfl (hb hby at_47) rfl k_) ?_
  refine Go.st (U := (Ti2.setTop (mkF m 49 #[.val (.int p0), .val (.int p1), .val (.int p2), .val (.int cl), .val (.long qq), .second, .val (.double (FP.ddiv (FP.l2d qq) (4652218415073722368 : UInt64))), .second, .val (.ref bi1), .unset, .unset, .unset, .unset, .unset, .unset] [(.int (1 : Int32)), (.int cl), (.long ((2 : Int64) * (p1.toInt64)))]))) (fun t_ k_ => XS.iconst Xi2.here hx rfl (hb hby at_48) k_) ?_
  refine Go.st (U := (Ti2.setTop (mkF m 50 #[.val (.int p0), .val (.int p1), .val (.int p2), .val (.int cl), .val (.long qq), .second, .val (.double (FP.ddiv (FP.l2d qq) (4652218415073722368 : UInt64))), .second, .val (.ref bi1), .unset, .unset, .unset, .unset, .unset, .unset] [(.int (cl - (1 : Int32))), (.long ((2 : Int64) * (p1.toInt64)))]))) (fun t_ k_ => XS.isub Xi2.here hx rfl (hb hby at_49) rfl k_) ?_
  refine Go.st (U := (Ti2.setTop (mkF m 51 #[.val (.int p0), .val (.int p1), .val (.int p2), .val (.int cl), .val (.long qq), .second, .val (.double (FP.ddiv (FP.l2d qq) (4652218415073722368 : UInt64))), .second, .val (.ref bi1), .unset, .unset, .unset, .unset, .unset, .unset] [(.long ((cl - (1 : Int32)).toInt64)), (.long ((2 : Int64) * (p1.toInt64)))]))) (fun t_ k_ => XS.i2l Xi2.here hx rfl (hb hby at_50) rfl k_) ?_
  refine Go.st (U := (Ti2.setTop (mkF m 52 #[.val (.int p0), .val (.int p1), .val (.int p2), .val (.int cl), .val (.long qq), .second, .val (.double (FP.ddiv (FP.l2d qq) (4652218415073722368 : UInt64))), .second, .val (.ref bi1), .unset, .unset, .unset, .unset, .unset, .unset] [(.long (((2 : Int64) * (p1.toInt64)) - ((cl - (1 : Int32)).toInt64)))]))) (fun t_ k_ => XS.lsub Xi2.here hx rfl (hb hby at_51) rfl k_) ?_
  generalize q_dd : (((2 : Int64) * (p1.toInt64)) - ((cl - (1 : Int32)).toInt64)) = dd
  refine Go.st (U := (Ti2.setTop (mkF m 54 #[.val (.int p0), .val (.int p1), .val (.int p2), .val (.int cl), .val (.long qq), .second, .val (.double (FP.ddiv (FP.l2d qq) (4652218415073722368 : UInt64))), .second, .val (.ref bi1), .val (.long dd), .second, .unset, .unset, .unset, .unset] []))) (fun t_ k_ => XS.lstore Xi2.here hx rfl (hb hby at_52) rfl (l' := #[.val (.int p0), .val (.int p1), .val (.int p2), .val (.int cl), .val (.long qq), .second, .val (.double (FP.ddiv (FP.l2d qq) (4652218415073722368 : UInt64))), .second, .val (.ref bi1), .val (.long dd), .second, .unset, .unset, .unset, .unset]) rfl k_) ?_
  obtain ⟨H1, H2, H3⟩ := own_all B_c B_q q_dd
  refine Go.st (U := (Ti2.setTop (mkF m 56 #[.val (.int p0), .val (.int p1), .val (.int p2), .val (.int cl), .val (.long qq), .second, .val (.double (FP.ddiv (FP.l2d qq) (4652218415073722368 : UInt64))), .second, .val (.ref bi1), .val (.long dd), .second, .unset, .unset, .unset, .unset] [(.long dd)]))) (fun t_ k_ => XS.lload Xi2.here hx rfl (hb hby at_54) rfl k_) ?_
  refine Go.st (U := (Ti2.setTop (mkF m 58 #[.val (.int p0), .val (.int p1), .val (.int p2), .val (.int cl), .val (.long qq), .second, .val (.double (FP.ddiv (FP.l2d qq) (4652218415073722368 : UInt64))), .second, .val (.ref bi1), .val (.long dd), .second, .unset, .unset, .unset, .unset] [(.long qq), (.long dd)]))) (fun t_ k_ => XS.lload Xi2.here hx rfl (hb hby at_56) rfl k_) ?_
  refine Go.st (U := (Ti2.setTop (mkF m 59 #[.val (.int p0), .val (.int p1), .val (.int p2), .val (.int cl), .val (.long qq), .second, .val (.double (FP.ddiv (FP.l2d qq) (4652218415073722368 : UInt64))), .second, .val (.ref bi1), .val (.long dd), .second, .unset, .unset, .unset, .unset] [(.long (dd * qq))]))) (fun t_ k_ => XS.lmul Xi2.here hx rfl (hb hby at_58) rfl k_) ?_
  refine Go.st (U := (Ti2.setTop (mkF m 60 #[.val (.int p0), .val (.int p1), .val (.int p2), .val (.int cl), .val (.long qq), .second, .val (.double (FP.ddiv (FP.l2d qq) (4652218415073722368 : UInt64))), .second, .val (.ref bi1), .val (.long dd), .second, .unset, .unset, .unset, .unset] [(.double (FP.l2d (dd * qq)))]))) (fun t_ k_ => XS.l2dS Xi2.here hx rfl (hb hby at_59) rfl rfl k_) ?_
  refine Go.st (U := (Ti2.setTop (mkF m 63 #[.val (.int p0), .val (.int p1), .val (.int p2), .val (.int cl), .val (.long qq), .second, .val (.double (FP.ddiv (FP.l2d qq) (4652218415073722368 : UInt64))), .second, .val (.ref bi1), .val (.long dd), .second, .unset, .unset, .unset, .unset] [(.double (4656722014701092864 : UInt64)), (.double (FP.l2d (dd * qq)))]))) (Xi2.ldc2DoubleC hx hown (mvT hZ (hw _ (List.mem_of_getElem? (i := 35) rfl))) (g := (mkF m 60 #[.val (.int p0), .val (.int p1), .val (.int p2), .val (.int cl), .val (.long qq), .second, .val (.double (FP.ddiv (FP.l2d qq) (4652218415073722368 : UInt64))), .second, .val (.ref bi1), .val (.long dd), .second, .unset, .unset, .unset, .unset] [(.double (FP.l2d (dd * qq)))])) rfl (hb hby at_60)) ?_
  refine Go.st (U := (Ti2.setTop (mkF m 64 #[.val (.int p0), .val (.int p1), .val (.int p2), .val (.int cl), .val (.long qq), .second, .val (.double (FP.ddiv (FP.l2d qq) (4652218415073722368 : UInt64))), .second, .val (.ref bi1), .val (.long dd), .second, .unset, .unset, .unset, .unset] [(.double (FP.ddiv (FP.l2d (dd * qq)) (4656722014701092864 : UInt64)))]))) (fun t_ k_ => XS.ddivS Xi2.here hx rfl (hb hby at_63) rfl H2 rfl k_) ?_
  refine Go.st (U := (Ti2.setTop (mkF m 66 #[.val (.int p0), .val (.int p1), .val (.int p2), .val (.int cl), .val (.long qq), .second, .val (.double (FP.ddiv (FP.l2d qq) (4652218415073722368 : UInt64))), .second, .val (.ref bi1), .val (.long dd), .second, .val (.double (FP.ddiv (FP.l2d (dd * qq)) (4656722014701092864 : UInt64))), .second, .unset, .unset] []))) (fun t_ k_ => XS.dstore Xi2.here hx rfl (hb hby at_64) rfl (l' := #[.val (.int p0), .val (.int p1), .val (.int p2), .val (.int cl), .val (.long qq), .second, .val (.double (FP.ddiv (FP.l2d qq) (4652218415073722368 : UInt64))), .second, .val (.ref bi1), .val (.long dd), .second, .val (.double (FP.ddiv (FP.l2d (dd * qq)) (4656722014701092864 : UInt64))), .second, .unset, .unset]) rfl k_) ?_
  refine Go.st (U := (Ti2.setTop (mkF m 68 #[.val (.int p0), .val (.int p1), .val (.int p2), .val (.int cl), .val (.long qq), .second, .val (.double (FP.ddiv (FP.l2d qq) (4652218415073722368 : UInt64))), .second, .val (.ref bi1), .val (.long dd), .second, .val (.double (FP.ddiv (FP.l2d (dd * qq)) (4656722014701092864 : UInt64))), .second, .unset, .unset] [(.ref bi1)]))) (fun t_ k_ => XS.aload Xi2.here hx rfl (hb hby at_66) rfl rfl k_) ?_
  refine Go.st (U := (Ti2.setTop (mkF m 69 #[.val (.int p0), .val (.int p1), .val (.int p2), .val (.int cl), .val (.long qq), .second, .val (.double (FP.ddiv (FP.l2d qq) (4652218415073722368 : UInt64))), .second, .val (.ref bi1), .val (.long dd), .second, .val (.double (FP.ddiv (FP.l2d (dd * qq)) (4656722014701092864 : UInt64))), .second, .unset, .unset] [(.int p1), (.ref bi1)]))) (fun t_ k_ => XS.iloadN Xi2.here hx rfl (hb hby at_68) rfl k_) ?_
  refine Go.callV Xi2 hx hZ hown (hw _ (List.mem_of_getElem? (i := 36) rfl)) (hw _ (List.mem_of_getElem? (i := 37) rfl)) (hw _ (List.mem_of_getElem? (i := 39) rfl)) (hw _ (List.mem_of_getElem? (i := 38) rfl)) (hw _ (List.mem_of_getElem? (i := 6) rfl)) (hw _ (List.mem_of_getElem? (i := 40) rfl)) (by decide) (rm_cof l Z a0 hw [] bi1 p1 cl (FP.ddiv (FP.l2d qq) (4652218415073722368 : UInt64)) Ti2.heap n0 Zi2 Fi2_bi1_columns Fi2_bi1_pixel ((own_hw B_c).1) ((own_sb B_c).1) H1) (rfl : Ti2.heap = Ti2.heap) bi1 Ei2_bi1 0 (by decide) (by decide) (g := (mkF m 69 #[.val (.int p0), .val (.int p1), .val (.int p2), .val (.int cl), .val (.long qq), .second, .val (.double (FP.ddiv (FP.l2d qq) (4652218415073722368 : UInt64))), .second, .val (.ref bi1), .val (.long dd), .second, .val (.double (FP.ddiv (FP.l2d (dd * qq)) (4656722014701092864 : UInt64))), .second, .unset, .unset] [(.int p1), (.ref bi1)])) rfl (by rw [hml]; rfl) [(.int p1)] [] rfl (lenOf pd2 rfl) rfl (by show 2 * 0 + _ ≤ _; exact Nat.le_of_eq rfl) (hb hby at_69) (by decide) (by decide) ?_
  intro vi3 Ti3 Li3 hQi3 Xi3
  obtain ⟨rfl, Ni3, ei3⟩ := hQi3
  have Ni3 := Fr.app Ni2 Ni3
  show Go p e below s _ _ (Ti3.setTop (mkF m 72 #[.val (.int p0), .val (.int p1), .val (.int p2), .val (.int cl), .val (.long qq), .second, .val (.double (FP.ddiv (FP.l2d qq) (4652218415073722368 : UInt64))), .second, .val (.ref bi1), .val (.long dd), .second, .val (.double (FP.ddiv (FP.l2d (dd * qq)) (4656722014701092864 : UInt64))), .second, .unset, .unset] [(.double (FP.dmul (FP.dsub (FP.i2d p1) (FP.ddiv (FP.i2d (cl - (1 : Int32))) (4611686018427387904 : UInt64))) (FP.ddiv (FP.l2d qq) (4652218415073722368 : UInt64))))]))
  refine Go.st (U := (Ti3.setTop (mkF m 74 #[.val (.int p0), .val (.int p1), .val (.int p2), .val (.int cl), .val (.long qq), .second, .val (.double (FP.ddiv (FP.l2d qq) (4652218415073722368 : UInt64))), .second, .val (.ref bi1), .val (.long dd), .second, .val (.double (FP.ddiv (FP.l2d (dd * qq)) (4656722014701092864 : UInt64))), .second, .val (.double (FP.dmul (FP.dsub (FP.i2d p1) (FP.ddiv (FP.i2d (cl - (1 : Int32))) (4611686018427387904 : UInt64))) (FP.ddiv (FP.l2d qq) (4652218415073722368 : UInt64)))), .second] []))) (fun t_ k_ => XS.dstore Xi3.here hx rfl (hb hby at_72) rfl (l' := #[.val (.int p0), .val (.int p1), .val (.int p2), .val (.int cl), .val (.long qq), .second, .val (.double (FP.ddiv (FP.l2d qq) (4652218415073722368 : UInt64))), .second, .val (.ref bi1), .val (.long dd), .second, .val (.double (FP.ddiv (FP.l2d (dd * qq)) (4656722014701092864 : UInt64))), .second, .val (.double (FP.dmul (FP.dsub (FP.i2d p1) (FP.ddiv (FP.i2d (cl - (1 : Int32))) (4611686018427387904 : UInt64))) (FP.ddiv (FP.l2d qq) (4652218415073722368 : UInt64)))), .second]) rfl k_) ?_
  refine Go.st (U := (Ti3.setTop (mkF m 76 #[.val (.int p0), .val (.int p1), .val (.int p2), .val (.int cl), .val (.long qq), .second, .val (.double (FP.ddiv (FP.l2d qq) (4652218415073722368 : UInt64))), .second, .val (.ref bi1), .val (.long dd), .second, .val (.double (FP.ddiv (FP.l2d (dd * qq)) (4656722014701092864 : UInt64))), .second, .val (.double (FP.dmul (FP.dsub (FP.i2d p1) (FP.ddiv (FP.i2d (cl - (1 : Int32))) (4611686018427387904 : UInt64))) (FP.ddiv (FP.l2d qq) (4652218415073722368 : UInt64)))), .second] [(.double (FP.dmul (FP.dsub (FP.i2d p1) (FP.ddiv (FP.i2d (cl - (1 : Int32))) (4611686018427387904 : UInt64))) (FP.ddiv (FP.l2d qq) (4652218415073722368 : UInt64))))]))) (fun t_ k_ => XS.dload Xi3.here hx rfl (hb hby at_74) rfl k_) ?_
  refine Go.st (U := (Ti3.setTop (mkF m 78 #[.val (.int p0), .val (.int p1), .val (.int p2), .val (.int cl), .val (.long qq), .second, .val (.double (FP.ddiv (FP.l2d qq) (4652218415073722368 : UInt64))), .second, .val (.ref bi1), .val (.long dd), .second, .val (.double (FP.ddiv (FP.l2d (dd * qq)) (4656722014701092864 : UInt64))), .second, .val (.double (FP.dmul (FP.dsub (FP.i2d p1) (FP.ddiv (FP.i2d (cl - (1 : Int32))) (4611686018427387904 : UInt64))) (FP.ddiv (FP.l2d qq) (4652218415073722368 : UInt64)))), .second] [(.double (FP.ddiv (FP.l2d (dd * qq)) (4656722014701092864 : UInt64))), (.double (FP.dmul (FP.dsub (FP.i2d p1) (FP.ddiv (FP.i2d (cl - (1 : Int32))) (4611686018427387904 : UInt64))) (FP.ddiv (FP.l2d qq) (4652218415073722368 : UInt64))))]))) (fun t_ k_ => XS.dload Xi3.here hx rfl (hb hby at_76) rfl k_) ?_
  refine Go.st (U := (Ti3.setTop (mkF m 79 #[.val (.int p0), .val (.int p1), .val (.int p2), .val (.int cl), .val (.long qq), .second, .val (.double (FP.ddiv (FP.l2d qq) (4652218415073722368 : UInt64))), .second, .val (.ref bi1), .val (.long dd), .second, .val (.double (FP.ddiv (FP.l2d (dd * qq)) (4656722014701092864 : UInt64))), .second, .val (.double (FP.dmul (FP.dsub (FP.i2d p1) (FP.ddiv (FP.i2d (cl - (1 : Int32))) (4611686018427387904 : UInt64))) (FP.ddiv (FP.l2d qq) (4652218415073722368 : UInt64)))), .second] [(.int (cmpValue (FP.dcmp (FP.dmul (FP.dsub (FP.i2d p1) (FP.ddiv (FP.i2d (cl - (1 : Int32))) (4611686018427387904 : UInt64))) (FP.ddiv (FP.l2d qq) (4652218415073722368 : UInt64))) (FP.ddiv (FP.l2d (dd * qq)) (4656722014701092864 : UInt64))) .l))]))) (fun t_ k_ => XS.dcmpS Xi3.here hx rfl (hb hby at_78) rfl rfl k_) ?_
  refine Go.st (U := (Ti3.setTop (mkF m 82 #[.val (.int p0), .val (.int p1), .val (.int p2), .val (.int cl), .val (.long qq), .second, .val (.double (FP.ddiv (FP.l2d qq) (4652218415073722368 : UInt64))), .second, .val (.ref bi1), .val (.long dd), .second, .val (.double (FP.ddiv (FP.l2d (dd * qq)) (4656722014701092864 : UInt64))), .second, .val (.double (FP.dmul (FP.dsub (FP.i2d p1) (FP.ddiv (FP.i2d (cl - (1 : Int32))) (4611686018427387904 : UInt64))) (FP.ddiv (FP.l2d qq) (4652218415073722368 : UInt64)))), .second] []))) (fun t_ k_ => XS.ifNo Xi3.here hx rfl (hb hby at_79) rfl ((if0 _ _).trans (teq H3).2) k_) ?_
  refine Go.st (U := (Ti3.setTop (mkF m 83 #[.val (.int p0), .val (.int p1), .val (.int p2), .val (.int cl), .val (.long qq), .second, .val (.double (FP.ddiv (FP.l2d qq) (4652218415073722368 : UInt64))), .second, .val (.ref bi1), .val (.long dd), .second, .val (.double (FP.ddiv (FP.l2d (dd * qq)) (4656722014701092864 : UInt64))), .second, .val (.double (FP.dmul (FP.dsub (FP.i2d p1) (FP.ddiv (FP.i2d (cl - (1 : Int32))) (4611686018427387904 : UInt64))) (FP.ddiv (FP.l2d qq) (4652218415073722368 : UInt64)))), .second] [(.int (1 : Int32))]))) (fun t_ k_ => XS.iconst Xi3.here hx rfl (hb hby at_82) k_) ?_
  refine Go.st (U := (Ti3.setTop (mkF m 87 #[.val (.int p0), .val (.int p1), .val (.int p2), .val (.int cl), .val (.long qq), .second, .val (.double (FP.ddiv (FP.l2d qq) (4652218415073722368 : UInt64))), .second, .val (.ref bi1), .val (.long dd), .second, .val (.double (FP.ddiv (FP.l2d (dd * qq)) (4656722014701092864 : UInt64))), .second, .val (.double (FP.dmul (FP.dsub (FP.i2d p1) (FP.ddiv (FP.i2d (cl - (1 : Int32))) (4611686018427387904 : UInt64))) (FP.ddiv (FP.l2d qq) (4652218415073722368 : UInt64)))), .second] [(.int (1 : Int32))]))) (fun t_ k_ => XS.goto Xi3.here hx rfl (pc0 := 83) (pc' := 87) rfl (hb hby at_83) (by decide) (by decide) k_) ?_
  refine Go.retZ Xi3 hx hlk hret (hb hby at_87) (by decide) (by decide) ?_
  exact ⟨rfl, Ni3⟩
set_option maxRecDepth 65536 in
set_option maxHeartbeats 40000000 in
theorem comes_1 {Post : Tables → Env → Array Value → State → Outcome → State → Prop} (hpost : ∀ tb e args s v u, (limb_1_1.after args s (.returned v) u = true ∧ limb_1_2.after args s (.returned v) u = true ∧ True) → FrameEnd s (.returned v) u (Jvm.fieldLocs frame_1_writes args s ++ Jvm.arrayLocs frame_1_arrays args s ++ Jvm.staticLocs frame_1_statics s) 16 128 → Post tb e args s (.returned v) u) :
    ArmFor flags0 classFile x code maxLocals ret World_1 tables_1 room_1 Calls_1 rest_1 Pre_1 Post := by
  intro l hfl _ _ p e ha hc hk s m args below hf hA hF happ hP
  obtain ⟨hcalls, hrest, hpre⟩ := hP
  obtain ⟨-, -, -, hnamed, -, -, -, hat⟩ := (Spec.applies_iff hf).mp happ
  obtain ⟨hg, hn⟩ := and_e (Cond.before_iff.mp (show (Jvm.Cond.and given_1 narrow_1).before args s = true from hpre))
  obtain ⟨hcnt, k0⟩ := and_e hg
  obtain ⟨j0, k1⟩ := and_e k0
  obtain ⟨j1, k2⟩ := and_e k1
  have j2 := k2
  obtain ⟨w0, w1, w2, rfl⟩ : ∃ w0 w1 w2 : Value, args = #[w0, w1, w2] := by
    have hs : args.size = 3 := by simpa [Cond.value, given_1] using hcnt
    obtain ⟨L⟩ := args
    match L, hs with
    | [w0, w1, w2], _ => exact ⟨w0, w1, w2, rfl⟩
  have hw := fun d (hd : d ∈ tables_1) => atoms_spec (ws := Jvm.Cond.code x code maxLocals ret :: tables_1) hat d (List.mem_cons_of_mem _ hd)
  have hfit : Fit s := fun {y c} hc i hi => by
    obtain ⟨ha, rfl⟩ := Array.getElem?_eq_some_iff.mp hc
    have q := List.all_eq_true.mp ((Array.all_eq_true_iff_forall_mem.mp hF) _ (Array.getElem_mem ha)) i (List.mem_range.mpr hi)
    simpa [Array.getElem?_eq_getElem hi] using q
  obtain ⟨i0, e0⟩ := is_v j0
  obtain rfl : w0 = (.int i0) := Option.some.inj e0
  obtain ⟨i1, e1⟩ := is_v j1
  obtain rfl : w1 = (.int i1) := Option.some.inj e1
  obtain ⟨i2, e2⟩ := is_v j2
  obtain rfl : w2 = (.int i2) := Option.some.inj e2
  obtain ⟨n, o, h1, h2, h3, _, L, rfl, ⟨rfl, N⟩, hq⟩ := rm_law l s _ hw tables_1 i0 i1 i2  s.heap s.heap.size (Nat.le_refl _)  p e ha hc hk s m _ below hf ((Spec.applies_iff_loose hf).mp happ).1 ⟨rfl, State.Warmed39.refl s, rfl⟩ trivial
  refine ⟨n, _, h1, h2, h3, hpost _ _ _ _ _ _ ⟨Cond.after_iff.mpr rfl, Cond.after_iff.mpr (eq_i res_at (Term.int_eval (1)) rfl), trivial⟩ ⟨hq.1, hq.2.1, (hq.2.2.sift fun y hy => Or.inr (N y hy)).mono (by decide) (by decide)⟩⟩
theorem main_1_1 : Claimed_1_1 := comes_1 fun _ _ _ _ _ _ h hF => ⟨h.1, hF⟩
theorem main_1_2 : Claimed_1_2 := comes_1 fun _ _ _ _ _ _ h hF => ⟨h.2.1, hF⟩
end Jvm.Pilot.@@N@@
namespace Jvm.Pilot.@@N@@
open Jvm Jvm.ClassFile Sem Op Lib Jvm.Free Jvm.Stand Jvm.Pilot.@@N@@.Jvm.D
/-! MADE BY PROGRAM (witnessworld.py) out of the Statement's table words and the real class files: 16 classes; the members and pool entries that the words name. The judged class is class 1, her method 1. -/
namespace start1
open Jvm.ClassFile
def u (s : String) : CpInfo := .utf8 (stringToUtf16 s)
/-- a pool by its gaps: so many unusable entries, then the entry; so many at the end -/
def gap : Nat → List CpInfo → List CpInfo
  | 0, r => r
  | n + 1, r => .unusable :: gap n r
def poolList (es : List (Nat × CpInfo)) (last : Nat) : List CpInfo := es.foldr (fun e r => gap e.1 (e.2 :: r)) (gap last [])
def pool (es : List (Nat × CpInfo)) (last : Nat) : Array CpInfo := ⟨poolList es last⟩
def fileOf (pool : Array CpInfo) (this : Nat) (attrs : Array Attribute := #[]) (ms : Array MethodInfo := #[]) (fl : Nat := 33) (sup : Nat := 0) (ifs : Array Nat := #[]) (fds : Array FieldInfo := #[]) : ClassFile where
  minorVersion := 0
  majorVersion := 65
  constantPool := pool
  accessFlags := fl
  thisClass := this
  superClass := sup
  interfaces := ifs
  fields := fds
  methods := ms
  attributes := attrs
def plain (name : String) (sup : Option ClassId) : Class where
  name := name
  kind := .ordinary
  loader := none
  accessFlags := 33
  super := sup
  interfaces := #[]
  cf := none
  fields := #[]
  methods := #[]
  instanceTypes := #[]
  staticTypes := #[]
  resolved := #[]
  callSites := []
  init := .initialized
  statics := none
  mirror := none

def pool0 : Array CpInfo := pool [(5, u "<init>"), (0, u "()V"), (1, .class_ 10), (1, u "java/lang/Object")] 113

def k0c0 : Code := { maxStack := 0, maxLocals := 1, code := object_method_1_code, exceptionTable := #[], attributes := #[] }
def k0m0 : Method := { name := "<init>", desc := "()V", sig := { parameters := [], returnType := none }, accessFlags := 1, code := some k0c0 }
/-- java/lang/Object -/
def k0 : Class := { plain "java/lang/Object" none with
  accessFlags := 33
  interfaces := #[]
  cf := some (fileOf pool0 8 #[] #[{ accessFlags := 1, nameIndex := 5, descriptorIndex := 6, attributes := #[] }] 33 0 #[] #[])
  fields := #[]
  methods := #[k0m0]
  instanceTypes := #[]
  staticTypes := #[]
  resolved := Array.replicate 124 none
  statics := none }

def pool1 : Array CpInfo := pool [(2, .class_ 4), (1, u "java/lang/Object"), (0, u "<init>"), (0, u "()V"), (0, .integer 2147483647), (0, .integer 536870911), (0, .integer 1048575), (0, .double 4652218415073722368), (1, .class_ 13), (0, u "org/pulsewarp/geometry/Detector"), (0, .methodref 12 15), (0, .nameAndType 5 16), (0, u "(IID)V"), (0, .long 2), (1, .double 4656722014701092864), (1, .methodref 12 22), (0, .nameAndType 23 24), (0, u "columnOffset"), (0, u "(I)D"), (0, .class_ 26), (0, u "org/pulsewarp/geometry/DetectorColumnOffsetPinLaw"), (2, u "law"), (0, u "(III)Z")] 3

def k1m0 : Method := { name := "<init>", desc := "()V", sig := { parameters := [], returnType := none }, accessFlags := 2, code := none }
def k1c1 : Code := { maxStack := 6, maxLocals := 15, code := code, exceptionTable := #[], attributes := #[] }
def k1m1 : Method := { name := "law", desc := "(III)Z", sig := { parameters := [.int, .int, .int], returnType := some .boolean }, accessFlags := 9, code := some k1c1 }
/-- org/pulsewarp/geometry/DetectorColumnOffsetPinLaw -/
def k1 : Class := { plain "org/pulsewarp/geometry/DetectorColumnOffsetPinLaw" (some 0) with
  accessFlags := 49
  interfaces := #[]
  cf := some (fileOf pool1 25 #[] #[{ accessFlags := 2, nameIndex := 5, descriptorIndex := 6, attributes := #[] }, { accessFlags := 9, nameIndex := 29, descriptorIndex := 30, attributes := #[] }] 49 2 #[] #[])
  fields := #[]
  methods := #[k1m0, k1m1]
  instanceTypes := #[]
  staticTypes := #[]
  resolved := Array.replicate 34 none
  statics := none }

def pool2 : Array CpInfo := pool [(1, .methodref 2 3), (0, .class_ 4), (0, .nameAndType 5 6), (0, u "java/lang/Object"), (0, u "<init>"), (0, u "()V"), (0, .class_ 8), (0, u "java/lang/Record")] 13

def k2c0 : Code := { maxStack := 1, maxLocals := 1, code := jdk_30_method_1_code, exceptionTable := #[], attributes := #[] }
def k2m0 : Method := { name := "<init>", desc := "()V", sig := { parameters := [], returnType := none }, accessFlags := 4, code := some k2c0 }
/-- java/lang/Record -/
def k2 : Class := { plain "java/lang/Record" (some 0) with
  accessFlags := 1057
  interfaces := #[]
  cf := some (fileOf pool2 7 #[] #[{ accessFlags := 4, nameIndex := 5, descriptorIndex := 6, attributes := #[] }] 1057 2 #[] #[])
  fields := #[]
  methods := #[k2m0]
  instanceTypes := #[]
  staticTypes := #[]
  resolved := Array.replicate 22 none
  statics := none }

def pool3 : Array CpInfo := pool [(1, .methodref 2 3), (0, .class_ 4), (0, .nameAndType 5 6), (0, u "java/lang/Record"), (0, u "<init>"), (0, u "()V"), (0, .methodref 8 9), (0, .class_ 10), (0, .nameAndType 11 12), (0, u "java/lang/Double"), (0, u "isFinite"), (0, u "(D)Z"), (11, .long 536870911), (4, .fieldref 30 31), (0, .class_ 32), (0, .nameAndType 33 34), (0, u "org/pulsewarp/geometry/Detector"), (0, u "columns"), (0, u "I"), (0, .fieldref 30 36), (0, .nameAndType 37 34), (0, u "rows"), (0, .fieldref 30 39), (0, .nameAndType 40 41), (0, u "pixel"), (0, u "D"), (27, u "(IID)V"), (13, u "columnOffset"), (0, u "(I)D"), (22, .double 4611686018427387904), (13, u "PLACEMENT_TOLERANCE")] 45

def k3c0 : Code := { maxStack := 6, maxLocals := 5, code := prog_85_method_1_code, exceptionTable := #[], attributes := #[] }
def k3m0 : Method := { name := "<init>", desc := "(IID)V", sig := { parameters := [.int, .int, .double], returnType := none }, accessFlags := 1, code := some k3c0 }
def k3c1 : Code := { maxStack := 6, maxLocals := 2, code := prog_85_method_5_code, exceptionTable := #[], attributes := #[] }
def k3m1 : Method := { name := "columnOffset", desc := "(I)D", sig := { parameters := [.int], returnType := some .double }, accessFlags := 1, code := some k3c1 }
/-- org/pulsewarp/geometry/Detector -/
def k3 : Class := { plain "org/pulsewarp/geometry/Detector" (some 2) with
  accessFlags := 49
  interfaces := #[]
  cf := some (fileOf pool3 30 #[] #[{ accessFlags := 1, nameIndex := 5, descriptorIndex := 69, attributes := #[] }, { accessFlags := 1, nameIndex := 83, descriptorIndex := 84, attributes := #[] }] 49 2 #[] #[{ accessFlags := 18, nameIndex := 33, descriptorIndex := 34, attributes := #[] }, { accessFlags := 18, nameIndex := 37, descriptorIndex := 34, attributes := #[] }, { accessFlags := 18, nameIndex := 40, descriptorIndex := 41, attributes := #[] }, { accessFlags := 26, nameIndex := 121, descriptorIndex := 41, attributes := #[] }])
  fields := #[{ name := "columns", type := .int, accessFlags := 18, slot := 0, constantValue := 0 }, { name := "rows", type := .int, accessFlags := 18, slot := 1, constantValue := 0 }, { name := "pixel", type := .double, accessFlags := 18, slot := 2, constantValue := 0 }, { name := "PLACEMENT_TOLERANCE", type := .double, accessFlags := 26, slot := 0, constantValue := 0 }]
  methods := #[k3m0, k3m1]
  instanceTypes := #[.int, .int, .double]
  staticTypes := #[.double]
  resolved := Array.replicate 167 none
  statics := none }

def pool4 : Array CpInfo := pool [(1, .class_ 2), (0, u "java/io/Serializable"), (0, .class_ 4), (0, u "java/lang/Object")] 2

/-- java/io/Serializable -/
def k4 : Class := { plain "java/io/Serializable" (some 0) with
  accessFlags := 1537
  interfaces := #[]
  cf := some (fileOf pool4 1 #[] #[] 1537 3 #[] #[])
  fields := #[]
  methods := #[]
  instanceTypes := #[]
  staticTypes := #[]
  resolved := Array.replicate 7 none
  statics := none }

def pool5 : Array CpInfo := pool [(2, .class_ 4), (1, u "java/lang/Object"), (0, u "<init>"), (0, u "()V"), (1, .class_ 10), (1, u "java/lang/Number"), (2, .class_ 14), (0, u "java/io/Serializable"), (0, u "serialVersionUID"), (0, u "J")] 20

def k5m0 : Method := { name := "<init>", desc := "()V", sig := { parameters := [], returnType := none }, accessFlags := 1, code := none }
/-- java/lang/Number -/
def k5 : Class := { plain "java/lang/Number" (some 0) with
  accessFlags := 1057
  interfaces := #[4]
  cf := some (fileOf pool5 8 #[] #[{ accessFlags := 1, nameIndex := 5, descriptorIndex := 6, attributes := #[] }] 1057 2 #[13] #[{ accessFlags := 26, nameIndex := 15, descriptorIndex := 16, attributes := #[] }])
  fields := #[{ name := "serialVersionUID", type := .long, accessFlags := 26, slot := 0, constantValue := 0 }]
  methods := #[k5m0]
  instanceTypes := #[]
  staticTypes := #[.long]
  resolved := Array.replicate 37 none
  statics := none }

def pool6 : Array CpInfo := pool [(1, .class_ 2), (0, u "java/lang/Comparable"), (0, .class_ 4), (0, u "java/lang/Object")] 7

/-- java/lang/Comparable -/
def k6 : Class := { plain "java/lang/Comparable" (some 0) with
  accessFlags := 1537
  interfaces := #[]
  cf := some (fileOf pool6 1 #[] #[] 1537 3 #[] #[])
  fields := #[]
  methods := #[]
  instanceTypes := #[]
  staticTypes := #[]
  resolved := Array.replicate 12 none
  statics := none }

def pool7 : Array CpInfo := pool [(1, .class_ 2), (0, u "java/lang/constant/Constable"), (0, .class_ 4), (0, u "java/lang/Object")] 6

/-- java/lang/constant/Constable -/
def k7 : Class := { plain "java/lang/constant/Constable" (some 0) with
  accessFlags := 1537
  interfaces := #[]
  cf := some (fileOf pool7 1 #[] #[] 1537 3 #[] #[])
  fields := #[]
  methods := #[]
  instanceTypes := #[]
  staticTypes := #[]
  resolved := Array.replicate 11 none
  statics := none }

def pool8 : Array CpInfo := pool [(1, .class_ 2), (0, u "java/lang/constant/ConstantDesc"), (0, .class_ 4), (0, u "java/lang/Object")] 32

/-- java/lang/constant/ConstantDesc -/
def k8 : Class := { plain "java/lang/constant/ConstantDesc" (some 0) with
  accessFlags := 1537
  interfaces := #[]
  cf := some (fileOf pool8 1 #[] #[] 1537 3 #[] #[])
  fields := #[]
  methods := #[]
  instanceTypes := #[]
  staticTypes := #[]
  resolved := Array.replicate 37 none
  statics := none }

def pool9 : Array CpInfo := pool [(1, .class_ 2), (0, u "java/lang/Double"), (10, u "isFinite"), (0, u "(D)Z"), (8, .class_ 25), (1, u "java/lang/Math"), (12, .methodref 23 39), (0, .nameAndType 40 41), (0, u "abs"), (0, u "(D)D"), (69, .double 9218868437227405311), (2, .class_ 116), (1, u "java/lang/Number"), (3, u "value"), (0, u "D"), (51, u "TYPE"), (0, u "Ljava/lang/Class;"), (0, .class_ 176), (0, u "java/lang/Comparable"), (0, .class_ 178), (0, u "java/lang/constant/Constable"), (0, .class_ 180), (0, u "java/lang/constant/ConstantDesc"), (0, u "POSITIVE_INFINITY"), (3, u "NEGATIVE_INFINITY"), (2, u "NaN"), (2, u "MAX_VALUE"), (0, u "MIN_NORMAL"), (0, u "MIN_VALUE"), (2, u "SIZE"), (0, u "I"), (1, u "PRECISION"), (1, u "MAX_EXPONENT"), (1, u "MIN_EXPONENT"), (1, u "BYTES"), (3, u "serialVersionUID"), (0, u "J")] 79

def k9c0 : Code := { maxStack := 4, maxLocals := 2, code := jdk_117_method_8_code, exceptionTable := #[], attributes := #[] }
def k9m0 : Method := { name := "isFinite", desc := "(D)Z", sig := { parameters := [.double], returnType := some .boolean }, accessFlags := 9, code := some k9c0 }
/-- java/lang/Double -/
def k9 : Class := { plain "java/lang/Double" (some 5) with
  accessFlags := 49
  interfaces := #[6, 7, 8]
  cf := some (fileOf pool9 1 #[] #[{ accessFlags := 9, nameIndex := 13, descriptorIndex := 14, attributes := #[] }] 49 114 #[175, 177, 179] #[{ accessFlags := 25, nameIndex := 181, descriptorIndex := 121, attributes := #[] }, { accessFlags := 25, nameIndex := 185, descriptorIndex := 121, attributes := #[] }, { accessFlags := 25, nameIndex := 188, descriptorIndex := 121, attributes := #[] }, { accessFlags := 25, nameIndex := 191, descriptorIndex := 121, attributes := #[] }, { accessFlags := 25, nameIndex := 192, descriptorIndex := 121, attributes := #[] }, { accessFlags := 25, nameIndex := 193, descriptorIndex := 121, attributes := #[] }, { accessFlags := 25, nameIndex := 196, descriptorIndex := 197, attributes := #[] }, { accessFlags := 25, nameIndex := 199, descriptorIndex := 197, attributes := #[] }, { accessFlags := 25, nameIndex := 201, descriptorIndex := 197, attributes := #[] }, { accessFlags := 25, nameIndex := 203, descriptorIndex := 197, attributes := #[] }, { accessFlags := 25, nameIndex := 205, descriptorIndex := 197, attributes := #[] }, { accessFlags := 25, nameIndex := 173, descriptorIndex := 174, attributes := #[] }, { accessFlags := 18, nameIndex := 120, descriptorIndex := 121, attributes := #[] }, { accessFlags := 26, nameIndex := 209, descriptorIndex := 210, attributes := #[] }])
  fields := #[{ name := "POSITIVE_INFINITY", type := .double, accessFlags := 25, slot := 0, constantValue := 0 }, { name := "NEGATIVE_INFINITY", type := .double, accessFlags := 25, slot := 1, constantValue := 0 }, { name := "NaN", type := .double, accessFlags := 25, slot := 2, constantValue := 0 }, { name := "MAX_VALUE", type := .double, accessFlags := 25, slot := 3, constantValue := 0 }, { name := "MIN_NORMAL", type := .double, accessFlags := 25, slot := 4, constantValue := 0 }, { name := "MIN_VALUE", type := .double, accessFlags := 25, slot := 5, constantValue := 0 }, { name := "SIZE", type := .int, accessFlags := 25, slot := 6, constantValue := 0 }, { name := "PRECISION", type := .int, accessFlags := 25, slot := 7, constantValue := 0 }, { name := "MAX_EXPONENT", type := .int, accessFlags := 25, slot := 8, constantValue := 0 }, { name := "MIN_EXPONENT", type := .int, accessFlags := 25, slot := 9, constantValue := 0 }, { name := "BYTES", type := .int, accessFlags := 25, slot := 10, constantValue := 0 }, { name := "TYPE", type := (.object "java/lang/Class"), accessFlags := 25, slot := 11, constantValue := 0 }, { name := "value", type := .double, accessFlags := 18, slot := 0, constantValue := 0 }, { name := "serialVersionUID", type := .long, accessFlags := 26, slot := 12, constantValue := 0 }]
  methods := #[k9m0]
  instanceTypes := #[.double]
  staticTypes := #[.double, .double, .double, .double, .double, .double, .int, .int, .int, .int, .int, (.object "java/lang/Class"), .long]
  resolved := Array.replicate 290 none
  statics := none }

def pool10 : Array CpInfo := pool [(1, .class_ 2), (0, u "java/lang/Math"), (1, .class_ 6), (1, u "java/lang/Object"), (0, u "<init>"), (0, u "()V"), (5, u "(D)D"), (83, .class_ 100), (1, u "java/lang/Math$RandomNumberGeneratorHolder"), (23, u "abs"), (47, u "negativeZeroFloatBits"), (0, u "J"), (2, u "negativeZeroDoubleBits"), (68, u "$assertionsDisabled"), (0, u "Z"), (91, u "twoToTheDoubleScaleDown"), (0, u "D"), (4, u "twoToTheDoubleScaleUp"), (9, u "E"), (3, u "PI"), (2, u "TAU"), (2, u "DEGREES_TO_RADIANS"), (0, u "RADIANS_TO_DEGREES")] 94

def k10m0 : Method := { name := "<init>", desc := "()V", sig := { parameters := [], returnType := none }, accessFlags := 2, code := none }
def k10c1 : Code := { maxStack := 4, maxLocals := 2, code := jdk_29_method_64_code, exceptionTable := #[], attributes := #[] }
def k10m1 : Method := { name := "abs", desc := "(D)D", sig := { parameters := [.double], returnType := some .double }, accessFlags := 9, code := some k10c1 }
/-- java/lang/Math -/
def k10 : Class := { plain "java/lang/Math" (some 0) with
  accessFlags := 49
  interfaces := #[]
  cf := some (fileOf pool10 1 #[.nestMembers #[98]] #[{ accessFlags := 2, nameIndex := 7, descriptorIndex := 8, attributes := #[] }, { accessFlags := 9, nameIndex := 124, descriptorIndex := 14, attributes := #[] }] 49 4 #[] #[{ accessFlags := 25, nameIndex := 354, descriptorIndex := 339, attributes := #[] }, { accessFlags := 25, nameIndex := 358, descriptorIndex := 339, attributes := #[] }, { accessFlags := 25, nameIndex := 361, descriptorIndex := 339, attributes := #[] }, { accessFlags := 26, nameIndex := 364, descriptorIndex := 339, attributes := #[] }, { accessFlags := 26, nameIndex := 365, descriptorIndex := 339, attributes := #[] }, { accessFlags := 26, nameIndex := 172, descriptorIndex := 173, attributes := #[] }, { accessFlags := 26, nameIndex := 176, descriptorIndex := 173, attributes := #[] }, { accessFlags := 8, nameIndex := 344, descriptorIndex := 339, attributes := #[] }, { accessFlags := 8, nameIndex := 338, descriptorIndex := 339, attributes := #[] }, { accessFlags := 4120, nameIndex := 245, descriptorIndex := 246, attributes := #[] }])
  fields := #[{ name := "E", type := .double, accessFlags := 25, slot := 0, constantValue := 0 }, { name := "PI", type := .double, accessFlags := 25, slot := 1, constantValue := 0 }, { name := "TAU", type := .double, accessFlags := 25, slot := 2, constantValue := 0 }, { name := "DEGREES_TO_RADIANS", type := .double, accessFlags := 26, slot := 3, constantValue := 0 }, { name := "RADIANS_TO_DEGREES", type := .double, accessFlags := 26, slot := 4, constantValue := 0 }, { name := "negativeZeroFloatBits", type := .long, accessFlags := 26, slot := 5, constantValue := 0 }, { name := "negativeZeroDoubleBits", type := .long, accessFlags := 26, slot := 6, constantValue := 0 }, { name := "twoToTheDoubleScaleUp", type := .double, accessFlags := 8, slot := 7, constantValue := 0 }, { name := "twoToTheDoubleScaleDown", type := .double, accessFlags := 8, slot := 8, constantValue := 0 }, { name := "$assertionsDisabled", type := .boolean, accessFlags := 4120, slot := 9, constantValue := 0 }]
  methods := #[k10m0, k10m1]
  instanceTypes := #[]
  staticTypes := #[.double, .double, .double, .double, .double, .long, .long, .double, .double, .boolean]
  resolved := Array.replicate 460 none
  statics := none }

def pool11 : Array CpInfo := pool [(1, u "java/lang/Cloneable"), (0, .class_ 1), (0, u "java/lang/Object"), (0, .class_ 3)] 3

/-- java/lang/Cloneable -/
def k11 : Class := { plain "java/lang/Cloneable" (some 0) with
  accessFlags := 1537
  interfaces := #[]
  cf := some (fileOf pool11 2 #[] #[] 1537 4 #[] #[])
  fields := #[]
  methods := #[]
  instanceTypes := #[]
  staticTypes := #[]
  resolved := Array.replicate 8 none
  statics := none }

/-- the primitive byte -/
def k12 : Class := { plain "byte" none with kind := .primitive 'B', accessFlags := 0x411 }
/-- [B -/
def k13 : Class := { plain "[B" (some 0) with kind := .array 12 .byte, interfaces := #[11, 4], accessFlags := 1041 }

/-- the primitive int -/
def k14 : Class := { plain "int" none with kind := .primitive 'I', accessFlags := 0x411 }
/-- [I -/
def k15 : Class := { plain "[I" (some 0) with kind := .array 14 .int, interfaces := #[11, 4], accessFlags := 1041 }

def heap : Heap := #[]
def classes : Array Class := #[k0, k1, k2, k3, k4, k5, k6, k7, k8, k9, k10, k11, k12, k13, k14, k15]
def interned : List (Array UInt16 × Addr) := []
def slotsUsed : Nat := 0
def theMethod : MethodId := ⟨1, 1⟩
def args0 : Array Value := #[.int 5, .int 7, .int 9]
def aboutOver (below : List Frame) : State where
  vm := { classes := classes, interned := interned.toArray }
  heap := heap
  slotsUsed := slotsUsed
  threads := #[{ frames := .invoking theMethod args0 :: below }]
def below0 : List Frame := [.native { method := ⟨0, 0⟩, args := #[] }]
def about1 : State := aboutOver below0
def p0 : Program := .bare "" "" ""
def e0 : Env := launch0.env 0 0 0
theorem w_frames : about1.frames = Frame.invoking theMethod args0 :: below0 := rfl
set_option maxRecDepth 65536 in
theorem w_args : argsFit about1.vm theMethod args0 = true := by decide +kernel
set_option maxRecDepth 65536 in
theorem w_heap : heapFits about1 = true := by decide +kernel
set_option maxRecDepth 65536 in
theorem w_runnable : about1.curStatus? = some .runnable := by decide +kernel
set_option maxRecDepth 65536 in
theorem w_alone : about1.alone = true := by decide +kernel
set_option maxRecDepth 65536 in
theorem w_named : about1.methodNamed? x = some theMethod := by decide +kernel
set_option maxRecDepth 65536 in
theorem w_hears : about1.hears theMethod below0 = true := by decide +kernel
set_option maxRecDepth 65536 in
theorem w_ripe : about1.ripe theMethod args0 below0 = true := by decide +kernel
theorem w_running : about1.status = .running := rfl
set_option maxRecDepth 65536 in
theorem w_room : about1.hasRoom e0.platform room_1 = true :=
  launch0.hasRoom_least _ room_1 (by decide +kernel) (by decide +kernel) (by decide +kernel) (by decide +kernel) (by decide +kernel) (by decide +kernel)
theorem allAtoms_all (ts : List Jvm.Cond) (a : Array Jvm.Value) (st : Jvm.State) : (allAtoms ts).before a st = ts.all (fun c => c.before a st) := by
  induction ts with
  | nil => rfl
  | cons c t ih =>
    show (Jvm.Cond.and c (allAtoms t)).before a st = _
    rw [Jvm.Cond.before_and, ih, List.all_cons]
def words1 : List Jvm.Cond := Jvm.Cond.code x code maxLocals ret :: tables_1
/-- a 'code' word, met by the world's own term for the bytes: nothing is compared byte by byte -/
theorem code_word {y : MethodName} {bytes : ByteArray} {mx : Nat} {rt : Option FieldType} {a : Array Value} {s : State} {m : MethodId} {meth : Method} {c : Code} (h1 : s.methodNamed? y = some m) (h2 : s.vm.method? m = some meth) (h3 : meth.code = some c) (h4 : c.code = bytes)
    (h5 : (c.maxLocals == mx && c.exceptionTable.isEmpty && decide (c.maxStack ≤ mostOperands) && decide (meth.sig.returnType = rt) && !meth.locks && decide (parseMethodDescriptor y.desc = some meth.sig)) = true) : (Jvm.Cond.code y bytes mx rt).before a s = true := by
  simp only [Bool.and_eq_true, beq_iff_eq, Bool.not_eq_true', decide_eq_true_eq] at h5
  obtain ⟨⟨⟨⟨⟨g1, g2⟩, g3⟩, g4⟩, g5⟩, g6⟩ := h5
  simp [Cond.before, Cond.holds, Cond.value, h1, h2, h3, h4, g1, g2, g3, g4, g5, g6]
def isCode : Jvm.Cond → Bool
  | .code _ _ _ _ => true
  | _ => false
theorem all_split {L : List Jvm.Cond} {P : Jvm.Cond → Bool} (h1 : L.all (fun c => isCode c || P c) = true) (h2 : ∀ c ∈ L.filter isCode, P c = true) : L.all P = true := by
  refine List.all_eq_true.mpr fun c hc => ?_
  have h := List.all_eq_true.mp h1 c hc
  rcases Bool.eq_false_or_eq_true (isCode c) with hi | hi
  · exact h2 c (List.mem_filter.mpr ⟨hc, hi⟩)
  · simpa [hi] using h
set_option maxRecDepth 65536 in
theorem w_c0 : (Jvm.Cond.code x code maxLocals ret).before args0 about1 = true := code_word (m := ⟨1, 1⟩) (meth := k1m1) (c := k1c1) (by decide +kernel) rfl rfl rfl (by decide +kernel)
set_option maxRecDepth 65536 in
theorem w_c1 : (Jvm.Cond.code ({ cls := "org/pulsewarp/geometry/Detector", name := "<init>", desc := "(IID)V" } : Jvm.MethodName) prog_85_method_1_code (5 : Nat) (Option.none : Option Jvm.ClassFile.FieldType)).before args0 about1 = true := code_word (m := ⟨3, 0⟩) (meth := k3m0) (c := k3c0) (by decide +kernel) rfl rfl rfl (by decide +kernel)
set_option maxRecDepth 65536 in
theorem w_c2 : (Jvm.Cond.code ({ cls := "java/lang/Record", name := "<init>", desc := "()V" } : Jvm.MethodName) jdk_30_method_1_code (1 : Nat) (Option.none : Option Jvm.ClassFile.FieldType)).before args0 about1 = true := code_word (m := ⟨2, 0⟩) (meth := k2m0) (c := k2c0) (by decide +kernel) rfl rfl rfl (by decide +kernel)
set_option maxRecDepth 65536 in
theorem w_c3 : (Jvm.Cond.code ({ cls := "java/lang/Object", name := "<init>", desc := "()V" } : Jvm.MethodName) object_method_1_code (1 : Nat) (Option.none : Option Jvm.ClassFile.FieldType)).before args0 about1 = true := code_word (m := ⟨0, 0⟩) (meth := k0m0) (c := k0c0) (by decide +kernel) rfl rfl rfl (by decide +kernel)
set_option maxRecDepth 65536 in
theorem w_c4 : (Jvm.Cond.code ({ cls := "java/lang/Double", name := "isFinite", desc := "(D)Z" } : Jvm.MethodName) jdk_117_method_8_code (2 : Nat) (Option.some Jvm.ClassFile.FieldType.boolean)).before args0 about1 = true := code_word (m := ⟨9, 0⟩) (meth := k9m0) (c := k9c0) (by decide +kernel) rfl rfl rfl (by decide +kernel)
set_option maxRecDepth 65536 in
theorem w_c5 : (Jvm.Cond.code ({ cls := "java/lang/Math", name := "abs", desc := "(D)D" } : Jvm.MethodName) jdk_29_method_64_code (2 : Nat) (Option.some Jvm.ClassFile.FieldType.double)).before args0 about1 = true := code_word (m := ⟨10, 1⟩) (meth := k10m1) (c := k10c1) (by decide +kernel) rfl rfl rfl (by decide +kernel)
set_option maxRecDepth 65536 in
theorem w_c6 : (Jvm.Cond.code ({ cls := "org/pulsewarp/geometry/Detector", name := "columnOffset", desc := "(I)D" } : Jvm.MethodName) prog_85_method_5_code (2 : Nat) (Option.some Jvm.ClassFile.FieldType.double)).before args0 about1 = true := code_word (m := ⟨3, 1⟩) (meth := k3m1) (c := k3c1) (by decide +kernel) rfl rfl rfl (by decide +kernel)
def codes1 : List Jvm.Cond := [Jvm.Cond.code x code maxLocals ret, Jvm.Cond.code ({ cls := "org/pulsewarp/geometry/Detector", name := "<init>", desc := "(IID)V" } : Jvm.MethodName) prog_85_method_1_code (5 : Nat) (Option.none : Option Jvm.ClassFile.FieldType), Jvm.Cond.code ({ cls := "java/lang/Record", name := "<init>", desc := "()V" } : Jvm.MethodName) jdk_30_method_1_code (1 : Nat) (Option.none : Option Jvm.ClassFile.FieldType), Jvm.Cond.code ({ cls := "java/lang/Object", name := "<init>", desc := "()V" } : Jvm.MethodName) object_method_1_code (1 : Nat) (Option.none : Option Jvm.ClassFile.FieldType), Jvm.Cond.code ({ cls := "java/lang/Double", name := "isFinite", desc := "(D)Z" } : Jvm.MethodName) jdk_117_method_8_code (2 : Nat) (Option.some Jvm.ClassFile.FieldType.boolean), Jvm.Cond.code ({ cls := "java/lang/Math", name := "abs", desc := "(D)D" } : Jvm.MethodName) jdk_29_method_64_code (2 : Nat) (Option.some Jvm.ClassFile.FieldType.double), Jvm.Cond.code ({ cls := "org/pulsewarp/geometry/Detector", name := "columnOffset", desc := "(I)D" } : Jvm.MethodName) prog_85_method_5_code (2 : Nat) (Option.some Jvm.ClassFile.FieldType.double)]
set_option maxRecDepth 65536 in
theorem codes_eq : words1.filter isCode = codes1 := rfl
theorem w_codes : ∀ c ∈ words1.filter isCode, c.before args0 about1 = true := by
  rw [codes_eq]
  intro c hc
  simp only [codes1, List.mem_cons, List.not_mem_nil, or_false] at hc
  rcases hc with rfl | rfl | rfl | rfl | rfl | rfl | rfl
  · exact w_c0
  · exact w_c1
  · exact w_c2
  · exact w_c3
  · exact w_c4
  · exact w_c5
  · exact w_c6
set_option maxRecDepth 65536 in
theorem w_t1 : (words1.take 24).all (fun c => isCode c || c.before args0 about1) = true := by decide +kernel
set_option maxRecDepth 65536 in
theorem w_t2 : (words1.drop 24).all (fun c => isCode c || c.before args0 about1) = true := by decide +kernel
theorem w_tables : (allAtoms (Jvm.Cond.code x code maxLocals ret :: tables_1)).before args0 about1 = true := by
  rw [allAtoms_all]
  show words1.all (fun c => c.before args0 about1) = true
  refine all_split ?_ w_codes
  rw [← List.take_append_drop 24 words1, List.all_append, w_t1, w_t2]
  rfl
set_option maxRecDepth 65536 in
theorem w_case : (Jvm.Cond.and given_1 narrow_1).before args0 about1 = true := by decide +kernel
theorem w_applies : (headSpec (Jvm.Cond.code x code maxLocals ret :: tables_1) room_1).applies x e0.platform about1 = true :=
  (Spec.applies_iff w_frames).mpr ⟨w_running, w_runnable, w_alone, w_named, w_hears, w_ripe, w_room, w_tables⟩
theorem atStart : AtStart classFile x code maxLocals ret World_1 tables_1 room_1 Calls_1 rest_1 Pre_1 launch0 p0 e0 about1 theMethod args0 below0 :=
  ⟨lists_1, trivial, launch0.admits_env _ _ _, launch0.least_env, fairChoices_fair.cas, fairChoices_fair.clock, w_frames, w_args, w_heap, w_applies, trivial, trivial, w_case⟩
end start1
theorem witness_1 : WitnessClaimed_1 := ⟨start1.p0, start1.e0, start1.about1, start1.theMethod, start1.args0, start1.below0, start1.atStart⟩
end Jvm.Pilot.@@N@@
