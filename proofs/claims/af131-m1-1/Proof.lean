import JvmDerived
import JvmDerived.Pilot.@@N@@Statement
import JvmDerived.Pilot.@@N@@Code
set_option linter.unusedVariables false
set_option linter.unusedSimpArgs false
@@BLOCK:NumsL.lean.txt@@
namespace Jvm.RoadKit
open Sem ClassFile Op Lib Jvm.Stand Jvm.Free Jvm.LawKit
section Go
variable {p : Program} {l : Launch} {e : Env} {R : Room} {s : State} {m : MethodId} {args : Array Value} {below : List Frame} {meth : Method} {c : Code} {T : State} {locs : List Loc} {cells slots : Nat} {Z : State} {a0 : Array Value} {h : Heap}
/-- the run from U comes to its return, and leaves what Qv says -/
def Go (p : Program) (e : Env) (below : List Frame) (s : State) (R : Room) (Qv : Option Value → Heap → List Loc → Prop) (U : State) : Prop :=
  ∃ s₂ o, Steps p.tables e below U s₂ ∧ s₂.status = .running ∧ Ended s₂ below o ∧ ∃ v L, o = .returned v ∧ Qv v s₂.heap L ∧ FrameEnd s o s₂ L R.cells R.slots
variable {Qv : Option Value → Heap → List Loc → Prop} {U V : State}
theorem Go.st (h : ∀ t, Steps p.tables e below U t → Steps p.tables e below V t) (k : Go p e below s R Qv U) : Go p e below s R Qv V := by
  obtain ⟨t, o, h1, r⟩ := k
  exact ⟨t, o, h t h1, r⟩
theorem Go.ret (X : Stand p l e R s m args below meth c T locs cells slots) (hlk : meth.locks = false) {v : Option Value} (hv : meth.sig.returnType = none → v = none) (hc : cells ≤ R.cells) (hs : slots ≤ R.slots) (hq : Qv v T.heap locs)
    (st : ∀ fs, (∀ (f : JFrame) (acts : List Action), f.method = m → f.locked = none → f.entered = [] → (doReturn e (T.setTop f) acts v).1 = T.setFrames fs) → Steps p.tables e below V (T.setFrames fs)) : Go p e below s R Qv V := by
  obtain ⟨fs, hr, hrun, hended, hW, hsame⟩ := X.leave (v := v) hv hlk
  exact ⟨_, _, st fs hr, hrun, hended, _, _, rfl, hq, ⟨_, rfl⟩, hW, hsame.mono hc hs⟩
theorem Go.retD (X : Stand p l e R s m args below meth c T locs cells slots) (hx : p.tables.exec = Jvm.exec) (hlk : meth.locks = false) (hret : meth.sig.returnType = some .double) {pc : Nat} {Ls : Array Slot} {z : UInt64} {rest : List Value} (hd : decode c.code pc = .ok (.dreturn, 1)) (hc : cells ≤ R.cells) (hs : slots ≤ R.slots)
    (hq : Qv (some (.double z)) T.heap locs) : Go p e below s R Qv (T.setTop (mkF m pc Ls (.double z :: rest))) :=
  Go.ret X hlk (v := some (.double z)) (fun q => by rw [hret] at q; cases q) hc hs hq fun fs hr => retOut X hx hret rfl (Or.inr (Or.inr (Or.inl ⟨rfl, rfl, _, rfl⟩))) hd hr
theorem Go.retJ (X : Stand p l e R s m args below meth c T locs cells slots) (hx : p.tables.exec = Jvm.exec) (hlk : meth.locks = false) (hret : meth.sig.returnType = some .long) {pc : Nat} {Ls : Array Slot} {z : Int64} {rest : List Value} (hd : decode c.code pc = .ok (.lreturn, 1)) (hc : cells ≤ R.cells) (hs : slots ≤ R.slots)
    (hq : Qv (some (.long z)) T.heap locs) : Go p e below s R Qv (T.setTop (mkF m pc Ls (.long z :: rest))) :=
  Go.ret X hlk (v := some (.long z)) (fun q => by rw [hret] at q; cases q) hc hs hq fun fs hr => retOut X hx hret rfl (Or.inr (Or.inl ⟨rfl, rfl, _, rfl⟩)) hd hr
theorem Go.retI (X : Stand p l e R s m args below meth c T locs cells slots) (hx : p.tables.exec = Jvm.exec) (hlk : meth.locks = false) (hret : meth.sig.returnType = some .int) {pc : Nat} {Ls : Array Slot} {z : Int32} {rest : List Value} (hd : decode c.code pc = .ok (.ireturn, 1)) (hc : cells ≤ R.cells) (hs : slots ≤ R.slots)
    (hq : Qv (some (.int z)) T.heap locs) : Go p e below s R Qv (T.setTop (mkF m pc Ls (.int z :: rest))) :=
  Go.ret X hlk (v := some (.int z)) (fun q => by rw [hret] at q; cases q) hc hs hq fun fs hr => retOut X hx hret rfl (Or.inl ⟨rfl, Or.inl rfl, _, rfl⟩) hd hr
theorem Go.retZ (X : Stand p l e R s m args below meth c T locs cells slots) (hx : p.tables.exec = Jvm.exec) (hlk : meth.locks = false) (hret : meth.sig.returnType = some .boolean) {pc : Nat} {Ls : Array Slot} {z : Int32} {rest : List Value} (hd : decode c.code pc = .ok (.ireturn, 1)) (hc : cells ≤ R.cells) (hs : slots ≤ R.slots)
    (hq : Qv (some (.int (nar .boolean z))) T.heap locs) : Go p e below s R Qv (T.setTop (mkF m pc Ls (.int z :: rest))) :=
  Go.ret X hlk (v := some (.int (nar .boolean z))) (fun q => by rw [hret] at q; cases q) hc hs hq fun fs hr => retN X hx hret (Or.inl rfl) hd hr
theorem Go.retV (X : Stand p l e R s m args below meth c T locs cells slots) (hx : p.tables.exec = Jvm.exec) (hlk : meth.locks = false) (hret : meth.sig.returnType = none) {pc : Nat} {Ls : Array Slot} {st : List Value} (hd : decode c.code pc = .ok (.return_, 1)) (hc : cells ≤ R.cells) (hs : slots ≤ R.slots)
    (hq : Qv none T.heap locs) : Go p e below s R Qv (T.setTop (mkF m pc Ls [])) :=
  Go.ret X hlk (v := none) (fun _ => rfl) hc hs hq fun fs hr => X.returnOut hx hret hd hr
theorem Go.callS (X : Stand p l e R s m args below meth c T locs cells slots) (hx : p.tables.exec = Jvm.exec) (hZ : Z.Warmed39 s.vm) {own : String} {index : Nat} {y : MethodName} {bytes : ByteArray} {maxL : Nat} {ret : Option FieldType} (hown : s.vm.findClass own = some m.cls)
    (w1 : (Cond.methodLink own index y).before a0 Z = true) (w2 : (Cond.static y).before a0 Z = true) (w3 : (Cond.initialized y.cls).before a0 Z = true) (w4 : (Cond.code y bytes maxL ret).before a0 Z = true) (hy : y.cls ≠ "java/lang/invoke/MethodHandle" ∧ y.cls ≠ "java/lang/invoke/VarHandle")
    {rm : Room} {as' : Array Value} {Q : Option Value → Heap → List Loc → Prop}
    (hM : MetFree l y (head1 [Cond.code y bytes maxL ret] rm) (fun a U => a = as' ∧ Z.Warmed39 U.vm ∧ U.heap = h) (fun _ _ _ _ _ => True) (fun _ U o U' => ∃ v L, o = .returned v ∧ Q v U'.heap L ∧ FrameEnd U o U' L rm.cells rm.slots))
    (eT : T.heap = h) (W : Nat) (hf : rm.frames + 1 ≤ R.frames) (hl : W + (maxL + 11) + rm.locals ≤ R.locals) {g : JFrame} (hg : g.method = m) (hsize : g.locals.size = c.maxLocals) (argsL rest : List Value) (ha : as' = argsL.toArray)
    (hlen : ∀ sig, parseMethodDescriptor y.desc = some sig → argsL.length = sig.parameters.length) (hst : g.stack = argsL.reverse ++ rest) (hW : 2 * g.monitorRoom + (rest.map fun v => v.category).sum ≤ W) (hd : decode c.code g.pc = .ok (.invokestatic index, 3)) (hc : cells + rm.cells ≤ R.cells) (hs : slots + rm.slots ≤ R.slots)
    (k : ∀ v T' L, Q v T'.heap L → Stand p l e R s m args below meth c T' (locs ++ L) (cells + rm.cells) (slots + rm.slots) → Go p e below s R Qv (T'.setTop { g with pc := g.pc + 3, stack := v.toList ++ rest })) : Go p e below s R Qv (T.setTop g) := by
  subst ha
  obtain ⟨v, vm1, ⟨T', L', c', n'⟩, -, X', ⟨L, hQ, l1, y1, z1⟩, st⟩ := Jvm.LawKit.callS X hx hown (mvT hZ w1) (mvT hZ w2) (mvT hZ w3) (mvT hZ w4) hy (backOf (W := W) hM hZ w4 w3 hf hl) hg hsize (argsL := argsL) (rest := rest) hlen hst hW hd (fun _ _ => ⟨rfl, eT, hc, hs⟩)
  dsimp only [Pt.U, Pt.locs, Pt.cells, Pt.slots] at X' l1 y1 z1 st hQ
  subst l1 y1 z1
  exact Go.st st (k v T' L hQ X')
theorem Go.callI (X : Stand p l e R s m args below meth c T locs cells slots) (hx : p.tables.exec = Jvm.exec) (hZ : Z.Warmed39 s.vm) {own : String} {index : Nat} {y : MethodName} {bytes : ByteArray} {maxL : Nat} (hown : s.vm.findClass own = some m.cls) (hy1 : y.name = "<init>")
    (w1 : (Cond.methodLink own index y).before a0 Z = true) (w2 : (Cond.instanceMethod y).before a0 Z = true) (w3 : (Cond.initialized y.cls).before a0 Z = true) (w4 : (Cond.code y bytes maxL none).before a0 Z = true) (hy : y.cls ≠ "java/lang/invoke/MethodHandle" ∧ y.cls ≠ "java/lang/invoke/VarHandle")
    {rm : Room} {as' : Array Value} {Q : Option Value → Heap → List Loc → Prop}
    (hM : MetFree l y (head1 [Cond.code y bytes maxL none] rm) (fun a U => a = as' ∧ Z.Warmed39 U.vm ∧ U.heap = h) (fun _ _ _ _ _ => True) (fun _ U o U' => ∃ v L, o = .returned v ∧ Q v U'.heap L ∧ FrameEnd U o U' L rm.cells rm.slots))
    (eT : T.heap = h) (W : Nat) (hf : rm.frames + 1 ≤ R.frames) (hl : W + (maxL + 11) + rm.locals ≤ R.locals) {g : JFrame} (hg : g.method = m) (hsize : g.locals.size = c.maxLocals) (a : Addr) (argsL rest : List Value) (ha : as' = (.ref a :: argsL).toArray)
    (hlen : ∀ sig, parseMethodDescriptor y.desc = some sig → argsL.length = sig.parameters.length) (hst : g.stack = argsL.reverse ++ .ref a :: rest) (hW : 2 * g.monitorRoom + (rest.map fun v => v.category).sum ≤ W) (hd : decode c.code g.pc = .ok (.invokespecial index, 3)) (hc : cells + rm.cells ≤ R.cells) (hs : slots + rm.slots ≤ R.slots)
    (k : ∀ v T' L, Q v T'.heap L → Stand p l e R s m args below meth c T' (locs ++ L) (cells + rm.cells) (slots + rm.slots) → Go p e below s R Qv (T'.setTop { g with pc := g.pc + 3, stack := v.toList ++ rest })) : Go p e below s R Qv (T.setTop g) := by
  subst ha
  obtain ⟨v, vm1, ⟨T', L', c', n'⟩, -, X', ⟨L, hQ, l1, y1, z1⟩, st⟩ := X.specialBack hx hy1 hown (mvT hZ w1) (mvT hZ w2) (mvT hZ w4) hy (backOf (W := W) hM hZ w4 w3 hf hl) hg hsize (Steps.refl _) (a := a) (argsL := argsL) (rest := rest) hlen hst hW hd (fun _ _ => ⟨rfl, eT, hc, hs⟩)
  dsimp only [Pt.U, Pt.locs, Pt.cells, Pt.slots] at X' l1 y1 z1 st hQ
  subst l1 y1 z1
  exact Go.st (fun t k => st.trans k) (k v T' L hQ X')
theorem Go.callV (X : Stand p l e R s m args below meth c T locs cells slots) (hx : p.tables.exec = Jvm.exec) (hZ : Z.Warmed39 s.vm) {own C : String} {index : Nat} {y : MethodName} {bytes : ByteArray} {maxL : Nat} {ret : Option FieldType} (hown : s.vm.findClass own = some m.cls)
    (w1 : (Cond.methodLink own index y).before a0 Z = true) (w2 : (Cond.declares y).before a0 Z = true) (w5 : (Cond.selects C y y).before a0 Z = true) (w6 : (Cond.instanceMethod y).before a0 Z = true) (w3 : (Cond.initialized y.cls).before a0 Z = true) (w4 : (Cond.code y bytes maxL ret).before a0 Z = true) (hy : y.cls ≠ "java/lang/invoke/MethodHandle" ∧ y.cls ≠ "java/lang/invoke/VarHandle")
    {rm : Room} {as' : Array Value} {Q : Option Value → Heap → List Loc → Prop}
    (hM : MetFree l y (head1 [Cond.code y bytes maxL ret] rm) (fun a U => a = as' ∧ Z.Warmed39 U.vm ∧ U.heap = h) (fun _ _ _ _ _ => True) (fun _ U o U' => ∃ v L, o = .returned v ∧ Q v U'.heap L ∧ FrameEnd U o U' L rm.cells rm.slots))
    (eT : T.heap = h) (a : Addr) (E : Exa Z h a C) (W : Nat) (hf : rm.frames + 1 ≤ R.frames) (hl : W + (maxL + 11) + rm.locals ≤ R.locals) {g : JFrame} (hg : g.method = m) (hsize : g.locals.size = c.maxLocals) (argsL rest : List Value) (ha : as' = (.ref a :: argsL).toArray)
    (hlen : ∀ sig, parseMethodDescriptor y.desc = some sig → argsL.length = sig.parameters.length) (hst : g.stack = argsL.reverse ++ .ref a :: rest) (hW : 2 * g.monitorRoom + (rest.map fun v => v.category).sum ≤ W) (hd : decode c.code g.pc = .ok (.invokevirtual index, 3)) (hc : cells + rm.cells ≤ R.cells) (hs : slots + rm.slots ≤ R.slots)
    (k : ∀ v T' L, Q v T'.heap L → Stand p l e R s m args below meth c T' (locs ++ L) (cells + rm.cells) (slots + rm.slots) → Go p e below s R Qv (T'.setTop { g with pc := g.pc + 3, stack := v.toList ++ rest })) : Go p e below s R Qv (T.setTop g) := by
  subst ha
  obtain ⟨cB, kB, q1, q2, q3⟩ := isOf hZ eT E
  obtain ⟨v, vm1, ⟨T', L', c', n'⟩, -, X', ⟨L, hQ, l1, y1, z1⟩, st⟩ := X.virtualBack hx hown (mvT hZ w1) (mvT hZ w2) (notFace_of_selects (args := #[]) (mvT hZ w5)) (mvT hZ w5) (mvT hZ w6) hy (backOf (W := W) hM hZ w4 w3 hf hl) q1 q3 hg hsize (Steps.refl _) (argsL := argsL) (rest := rest) hlen hst hW hd (fun _ _ => ⟨rfl, eT, hc, hs⟩)
  dsimp only [Pt.U, Pt.locs, Pt.cells, Pt.slots] at X' l1 y1 z1 st hQ
  subst l1 y1 z1
  exact Go.st (fun t k => st.trans k) (k v T' L hQ X')
/-- a body's contract, by its walk -/
theorem Go.met {y : MethodName} {bytes : ByteArray} {maxL : Nat} {ret : Option FieldType} {ws : List Cond} {rm : Room} {as' : Array Value} {Q : Option Value → Heap → List Loc → Prop} (hn : plainFor y = true)
    (body : ∀ (p : Program) (e : Env) (s : State) (m : MethodId) (below : List Frame) (meth : Method) (c : Code) (s₁ : State), p.tables.exec = Jvm.exec → c.code = bytes → c.maxLocals = maxL → s.vm.findClass y.cls = some m.cls → meth.name = y.name → meth.sig.returnType = ret → meth.locks = false → Z.Warmed39 s.vm → s₁.heap = h →
      Stand p l e rm s m as' below meth c s₁ [] 0 0 → Go p e below s rm Q (s₁.setTop (entryFrame m as' maxL))) :
    MetFree l y (head1 (Cond.code y bytes maxL ret :: ws) rm) (fun a U => a = as' ∧ Z.Warmed39 U.vm ∧ U.heap = h) (fun _ _ _ _ _ => True) (fun _ U o U' => ∃ v L, o = .returned v ∧ Q v U'.heap L ∧ FrameEnd U o U' L rm.cells rm.slots) := by
  refine MetFree.of_bodySF hn hisR ?_
  intro p e s m args below meth c s₁ Bd hml hP hK
  obtain ⟨rfl, hZ, hh⟩ := hP
  exact body p e s m below meth c s₁ Bd.exec Bd.bytes hml (findClass_of_methodNamed Bd.named) (name_of_methodNamed Bd.named Bd.method).1 Bd.returns Bd.notSynchronized hZ (by rw [← hh, Bd.state]; rfl) (Stand.of_body Bd)
theorem Keep.size_le {h0 h : Heap} {ws : List Addr} (K : Keep h0 h ws) : h0.size ≤ h.size := K.1
theorem Go.cast {g g' : JFrame} (q : g = g') (k : Go p e below s R Qv (T.setTop g')) : Go p e below s R Qv (T.setTop g) := q ▸ k
end Go
end Jvm.RoadKit
namespace Jvm.OwnFl
open Jvm Jvm.FP Jvm.FP.Core Jvm.Free.Fl Op
/-- a double as a whole number of the least doubles -/
abbrev zv (a : UInt64) : Int := zval b64 (val64 a)
theorem zv_def (a : UInt64) : zv a = zval b64 (val64 a) := rfl
theorem nn_int {i : Int} {a : UInt64} (h : DInt i a) : NoNaN64 a := val64_no.mpr (DInt_ne_nan h)
theorem nn_fin {a : UInt64} (h : DFin a) : NoNaN64 a := val64_no.mpr h.ne_nan
theorem fin_int {i : Int} {a : UInt64} (h : DInt i a) : DFin a := by
  unfold DInt at h
  cases hv : val64 a with
  | nan => rw [hv] at h; exact h.elim
  | inf s => rw [hv] at h; exact h.elim
  | fin s c q => exact ⟨s, c, q, hv⟩
/-! what a comparison pushes -/
theorem cv_lt {a b : UInt64} (ha : NoNaN64 a) (hb : NoNaN64 b) (h : zv a < zv b) (o : ClassFile.CmpOp) : cmpValue (FP.dcmp a b) o = -1 := by
  rw [show FP.dcmp a b = some .lt by
    show Core.dcmp a b = _
    rw [dcmp_zval (val64_no.mp ha) (val64_no.mp hb)]; exact congrArg some ((compare_lt_iff _ _).mpr h)]
  cases o <;> rfl
theorem cv_eq {a b : UInt64} (ha : NoNaN64 a) (hb : NoNaN64 b) (h : zv a = zv b) (o : ClassFile.CmpOp) : cmpValue (FP.dcmp a b) o = 0 := by
  rw [show FP.dcmp a b = some .eq by
    show Core.dcmp a b = _
    rw [dcmp_zval (val64_no.mp ha) (val64_no.mp hb)]; exact congrArg some ((compare_eq_iff _ _).mpr h)]
  cases o <;> rfl
theorem cv_gt {a b : UInt64} (ha : NoNaN64 a) (hb : NoNaN64 b) (h : zv b < zv a) (o : ClassFile.CmpOp) : cmpValue (FP.dcmp a b) o = 1 := by
  rw [show FP.dcmp a b = some .gt by
    show Core.dcmp a b = _
    rw [dcmp_zval (val64_no.mp ha) (val64_no.mp hb)]; exact congrArg some ((compare_gt_iff _ _).mpr h)]
  cases o <;> rfl
theorem cv_ge {a b : UInt64} (ha : NoNaN64 a) (hb : NoNaN64 b) (h : zv b ≤ zv a) (o : ClassFile.CmpOp) : ¬ (cmpValue (FP.dcmp a b) o < 0) := by
  rcases Int.lt_or_eq_of_le h with h | h
  · rw [cv_gt ha hb h o]; decide
  · rw [cv_eq ha hb h.symm o]; decide
theorem cv_le {a b : UInt64} (ha : NoNaN64 a) (hb : NoNaN64 b) (h : zv a ≤ zv b) (o : ClassFile.CmpOp) : ¬ (0 < cmpValue (FP.dcmp a b) o) := by
  rcases Int.lt_or_eq_of_le h with h | h
  · rw [cv_lt ha hb h o]; decide
  · rw [cv_eq ha hb h o]; decide
theorem cv_lt' {a b : UInt64} (ha : NoNaN64 a) (hb : NoNaN64 b) (h : zv a < zv b) (o : ClassFile.CmpOp) : cmpValue (FP.dcmp a b) o < 0 := by rw [cv_lt ha hb h o]; decide
theorem cv_gt' {a b : UInt64} (ha : NoNaN64 a) (hb : NoNaN64 b) (h : zv b < zv a) (o : ClassFile.CmpOp) : 0 < cmpValue (FP.dcmp a b) o := by rw [cv_gt ha hb h o]; decide
theorem cv_ne {a b : UInt64} (ha : NoNaN64 a) (hb : NoNaN64 b) (h : zv a ≠ zv b) (o : ClassFile.CmpOp) : ¬ (cmpValue (FP.dcmp a b) o = 0) := by
  rcases Int.lt_or_gt_of_ne h with h | h
  · rw [cv_lt ha hb h o]; decide
  · rw [cv_gt ha hb h o]; decide
/-! what lcmp pushes -/
theorem lc_eq {x y : Int64} : Jvm.RoadKit.lcmpW x y = 0 ↔ x.toInt = y.toInt := by
  rw [Int64.toInt_inj]
  unfold Jvm.RoadKit.lcmpW
  by_cases h : x > y
  · rw [if_pos h]; constructor
    · intro h1; exact absurd h1 (by decide)
    · rintro rfl; exact absurd h (Int64.lt_irrefl)
  · rw [if_neg h]
    by_cases h2 : x = y
    · rw [if_pos h2]; simp [h2]
    · rw [if_neg h2]; constructor
      · intro h1; exact absurd h1 (by decide)
      · intro h1; exact absurd h1 h2
theorem lc_gt {x y : Int64} : 0 < Jvm.RoadKit.lcmpW x y ↔ y.toInt < x.toInt := by
  rw [← Int64.lt_iff_toInt_lt]
  unfold Jvm.RoadKit.lcmpW
  by_cases h : x > y
  · rw [if_pos h]; exact ⟨fun _ => h, fun _ => by decide⟩
  · rw [if_neg h]
    by_cases h2 : x = y
    · rw [if_pos h2]; exact ⟨fun h1 => absurd h1 (by decide), fun h1 => absurd h1 h⟩
    · rw [if_neg h2]; exact ⟨fun h1 => absurd h1 (by decide), fun h1 => absurd h1 h⟩
theorem lc_lt {x y : Int64} : Jvm.RoadKit.lcmpW x y < 0 ↔ x.toInt < y.toInt := by
  by_cases h : x > y
  · have h3 := Int64.lt_iff_toInt_lt.mp h
    unfold Jvm.RoadKit.lcmpW
    rw [if_pos h]; exact ⟨fun h1 => absurd h1 (by decide), fun h1 => by omega⟩
  · have h3 : ¬ (y.toInt < x.toInt) := fun q => h (Int64.lt_iff_toInt_lt.mpr q)
    unfold Jvm.RoadKit.lcmpW
    rw [if_neg h]
    by_cases h2 : x = y
    · rw [if_pos h2]; subst h2; exact ⟨fun h1 => absurd h1 (by decide), fun h1 => by omega⟩
    · rw [if_neg h2]
      have h4 : x.toInt ≠ y.toInt := fun q => h2 (Int64.toInt_inj.mp q)
      exact ⟨fun _ => by omega, fun _ => by decide⟩
/-! whole numbers -/
theorem zv_int {i : Int} {a : UInt64} (h : DInt i a) : zv a = i * (one64 : Int) := DInt_zval h
theorem one_pos : (0 : Int) < (one64 : Int) := Int.ofNat_lt.mpr one64_pos
theorem cvi_eq {i j : Int} {a b : UInt64} (ha : DInt i a) (hb : DInt j b) (h : i = j) (o : ClassFile.CmpOp) : cmpValue (FP.dcmp a b) o = 0 :=
  cv_eq (nn_int ha) (nn_int hb) (by rw [zv_int ha, zv_int hb, h]) o
theorem cvi_lt {i j : Int} {a b : UInt64} (ha : DInt i a) (hb : DInt j b) (h : i < j) (o : ClassFile.CmpOp) : cmpValue (FP.dcmp a b) o = -1 :=
  cv_lt (nn_int ha) (nn_int hb) (by rw [zv_int ha, zv_int hb]; exact Int.mul_lt_mul_of_pos_right h one_pos) o
theorem cvi_gt {i j : Int} {a b : UInt64} (ha : DInt i a) (hb : DInt j b) (h : j < i) (o : ClassFile.CmpOp) : cmpValue (FP.dcmp a b) o = 1 :=
  cv_gt (nn_int ha) (nn_int hb) (by rw [zv_int ha, zv_int hb]; exact Int.mul_lt_mul_of_pos_right h one_pos) o
theorem zint : DInt 0 (0 : UInt64) := by unfold DInt; rw [val64_zero]; show signed false (0 * _) = 0 * _; simp [signed]
theorem l2dI {x : Int64} (h1 : -9007199254740992 ≤ x.toInt) (h2 : x.toInt ≤ 9007199254740992) : DInt x.toInt (FP.l2d x) := l2d_int (by omega)
theorem i2dI (x : Int32) : DInt x.toInt (FP.i2d x) := i2d_int x
theorem mulI {i j : Int} {a b : UInt64} (ha : DInt i a) (hb : DInt j b) (h : (i * j).natAbs ≤ 9007199254740992) : DInt (i * j) (FP.dmul a b) := dmul_int ha hb h
theorem addI {i j : Int} {a b : UInt64} (ha : DInt i a) (hb : DInt j b) (h : (i + j).natAbs ≤ 9007199254740992) : DInt (i + j) (FP.dadd a b) := dadd_int ha hb h
theorem subI {i j : Int} {a b : UInt64} (ha : DInt i a) (hb : DInt j b) (h : (i - j).natAbs ≤ 9007199254740992) : DInt (i - j) (FP.dsub a b) := dsub_int ha hb h
theorem absMul {i j : Int} {A B : Nat} (h1 : i.natAbs ≤ A) (h2 : j.natAbs ≤ B) : (i * j).natAbs ≤ A * B := by rw [Int.natAbs_mul]; exact Nat.mul_le_mul h1 h2
end Jvm.OwnFl
namespace Jvm.OwnFl
open Jvm Jvm.FP Jvm.FP.Core Jvm.Free.Fl Op
/-! ROUNDING: rz A B: the double nearest A / B, as a whole number of the least doubles -/
def rz (A B : Nat) : Nat := zmag b64 (roundRatio b64 false A B 0)
/-- v least doubles are a double -/
def Rep (v : Nat) : Prop := ∃ c q, Core.fits b64 (.fin false c q) ∧ inUnits c q b64.qmin = v
theorem qz : b64.qmin = -1074 := by decide
theorem rep_of {c k : Nat} (hc : c < 2 ^ 53) (hk : k ≤ 2045) : Rep (c * 2 ^ k) := by
  obtain ⟨c', q', h1, h2⟩ := round_exact good_b64 false (c := c) (q := b64.qmin + k) hc (by omega) (by have : b64.qmax = 971 := by decide
                                                                                                       rw [qz, this]; omega)
  refine ⟨c', q', ?_, ?_⟩
  · rw [← h1]; exact round_fits good_b64 _
  · rw [h2]; unfold inUnits; rw [show (b64.qmin + (k : Int) - b64.qmin).toNat = k by omega]
theorem rep_le {n k : Nat} (hn : n ≤ 2 ^ 53) (hk : k ≤ 2044) : Rep (n * 2 ^ k) := by
  rcases Nat.lt_or_eq_of_le hn with h | h
  · exact rep_of h (by omega)
  · have := rep_of (c := 2 ^ 52) (k := k + 1) (by decide) (by omega)
    rw [h]; rw [Nat.pow_succ] at this
    rw [show (2 : Nat) ^ 53 * 2 ^ k = 2 ^ 52 * (2 ^ k * 2) by rw [show (2 : Nat) ^ 53 = 2 ^ 52 * 2 from rfl]; grind]
    exact this
theorem rep_int {n : Nat} (hn : n ≤ 2 ^ 53) : Rep (n * one64) := rep_le hn (by decide)
theorem inU (A : Nat) : inUnits A 0 b64.qmin = A * one64 := by
  unfold inUnits; rw [← pow_qmin64, show (0 - b64.qmin : Int) = -b64.qmin by omega]
theorem rz_le {A B v : Nat} (hB : 0 < B) (hv : Rep v) (h : A * one64 ≤ v * B) : rz A B ≤ v := by
  obtain ⟨c, q, hf, rfl⟩ := hv
  refine zmag_roundRatio_le good_b64 hB hf (by simp) (e0 := b64.qmin) (Int.le_refl _) (by rw [qz]; decide) ?_
  rw [inU, show (b64.qmin - b64.qmin : Int).toNat = 0 by omega, Nat.pow_zero, Nat.mul_one]
  exact h
theorem rz_ge {A B v : Nat} (hB : 0 < B) (hv : Rep v) (h : v * B ≤ A * one64) : v ≤ rz A B := by
  obtain ⟨c, q, hf, rfl⟩ := hv
  refine zmag_roundRatio_ge good_b64 hB hf (e0 := b64.qmin) (Int.le_refl _) (by rw [qz]; decide) ?_
  rw [inU, show (b64.qmin - b64.qmin : Int).toNat = 0 by omega, Nat.pow_zero, Nat.mul_one]
  exact h
theorem rz_exact {A B v : Nat} (hB : 0 < B) (hv : Rep v) (h : A * one64 = v * B) : rz A B = v :=
  Nat.le_antisymm (rz_le hB hv (Nat.le_of_eq h)) (rz_ge hB hv (Nat.le_of_eq h.symm))
theorem rz_congr {A B A' B' : Nat} (hB : 0 < B) (hB' : 0 < B') (h : A * B' = A' * B) : rz A B = rz A' B' := by
  unfold rz
  rw [roundRatio_congr (f := b64) (s := false) (e := 0) (e' := 0) hB hB' (by simpa using h)]
theorem rz_zero (B : Nat) : rz 0 B = 0 := by
  unfold rz roundRatio; simp [zmag, inUnits]
theorem zmag_sign (s : Bool) (A B : Nat) (e : Int) : zmag b64 (roundRatio b64 s A B e) = zmag b64 (roundRatio b64 false A B e) := by
  unfold roundRatio roundAt settle bound
  split
  · rfl
  · split
    · split <;> rfl
    · split <;> rfl
/-- the quotient of two finite doubles -/
theorem val_ddiv {a b : UInt64} (ha : DFin a) (hb : DFin b) (h0 : zv b ≠ 0) :
    ∃ s A B, 0 < B ∧ zv a = signed (sgn (val64 a)) A ∧ zv b = signed (sgn (val64 b)) B ∧ s = (sgn (val64 a) != sgn (val64 b)) ∧ val64 (FP.ddiv a b) = roundRatio b64 s A B 0 := by
  obtain ⟨s, c, q, e1⟩ := ha
  obtain ⟨t, d, r, e2⟩ := hb
  have f1 := val64_fits a
  have f2 := val64_fits b
  have hzb : zv b = signed t (inUnits d r b64.qmin) := by rw [zv_def, e2]; rfl
  have hd : d ≠ 0 := by
    intro hd; apply h0; rw [hzb, hd]; unfold inUnits; rw [Nat.zero_mul, signed_zero]
  rw [e1] at f1; rw [e2] at f2
  have q1 := f1.2.1; have q2 := f2.2.1
  refine ⟨s != t, inUnits c q b64.qmin, inUnits d r b64.qmin, Nat.mul_pos (Nat.pos_of_ne_zero hd) (Nat.two_pow_pos _), by rw [zv_def, e1]; rfl, by rw [zv_def, e2]; rfl, by rw [e1, e2]; rfl, ?_⟩
  show val64 (Core.ddiv a b) = _
  rw [val64_ddiv, e1, e2]
  show (if d = 0 then _ else roundRatio b64 (s != t) c d (q - r)) = _
  rw [if_neg hd]
  refine roundRatio_congr (Nat.pos_of_ne_zero hd) (Nat.mul_pos (Nat.pos_of_ne_zero hd) (Nat.two_pow_pos _)) ?_
  unfold inUnits
  have e3 : (r - b64.qmin).toNat + (q - r - 0).toNat = (q - b64.qmin).toNat + (0 - (q - r)).toNat := by omega
  rw [show c * (d * 2 ^ (r - b64.qmin).toNat) * 2 ^ (q - r - 0).toNat = c * d * (2 ^ (r - b64.qmin).toNat * 2 ^ (q - r - 0).toNat) by grind, ← Nat.pow_add, e3, Nat.pow_add]
  grind
theorem zv_round (s : Bool) (A B : Nat) : zval b64 (roundRatio b64 s A B 0) = signed s (rz A B) := by
  unfold zval; rw [sgn_roundRatio, zmag_sign]; rfl
theorem nn_ddiv {a b : UInt64} (ha : DFin a) (hb : DFin b) (h0 : zv b ≠ 0) : NoNaN64 (FP.ddiv a b) := by
  obtain ⟨s, A, B, -, -, -, -, h⟩ := val_ddiv ha hb h0
  refine val64_no.mpr ?_
  rw [h]; exact roundRatio_ne_nan _ _ _ _ _
/-- where both are positive, or the dividend nought -/
theorem zv_ddiv {a b : UInt64} {A B : Nat} (ha : DFin a) (hb : DFin b) (h1 : zv a = (A : Int)) (h2 : zv b = (B : Int)) (hB : 0 < B) : zv (FP.ddiv a b) = (rz A B : Int) := by
  obtain ⟨s, A', B', p, q1, q2, hs, h⟩ := val_ddiv ha hb (by omega)
  have e1 : A' = A := by
    have := natAbs_signed (sgn (val64 a)) A'
    rw [← q1, h1] at this; omega
  have e2 : B' = B := by
    have := natAbs_signed (sgn (val64 b)) B'
    rw [← q2, h2] at this; omega
  subst e1 e2
  rw [zv_def, h, zv_round]
  by_cases z : A' = 0
  · subst z; rw [rz_zero, signed_zero]; rfl
  · have s1 : sgn (val64 a) = false := by
      cases hq : sgn (val64 a) with
      | false => rfl
      | true => rw [hq, h1] at q1; simp only [signed, if_true] at q1; omega
    have s2 : sgn (val64 b) = false := by
      cases hq : sgn (val64 b) with
      | false => rfl
      | true => rw [hq, h2] at q2; simp only [signed, if_true] at q2; omega
    rw [hs, s1, s2]; rfl
/-- the quotient of two whole numbers, the divisor positive -/
theorem zv_divI {i j : Nat} {a b : UInt64} (ha : DInt i a) (hb : DInt j b) (hj : 0 < j) : zv (FP.ddiv a b) = (rz i j : Int) := by
  have h1 : zv a = ((i * one64 : Nat) : Int) := by rw [zv_int ha]; rfl
  have h2 : zv b = ((j * one64 : Nat) : Int) := by rw [zv_int hb]; rfl
  rw [zv_ddiv (fin_int ha) (fin_int hb) h1 h2 (Nat.mul_pos hj one64_pos)]
  exact congrArg Int.ofNat (rz_congr (Nat.mul_pos hj one64_pos) hj (by grind))
theorem nn_divI {i j : Int} {a b : UInt64} (ha : DInt i a) (hb : DInt j b) (hj : j ≠ 0) : NoNaN64 (FP.ddiv a b) :=
  nn_ddiv (fin_int ha) (fin_int hb) (by rw [zv_int hb]; have := one_pos; intro h; rcases Int.mul_eq_zero.mp h with h | h <;> omega)
theorem sgn_key {k : Int} {t : Bool} {K : Nat} (hk : k * (one64 : Int) = signed t K) (h0 : k ≠ 0) : t = decide (k < 0) := by
  rcases Int.lt_or_gt_of_ne h0 with h | h
  · have h1 := Int.mul_neg_of_neg_of_pos h one_pos
    cases t with
    | true => simp [h]
    | false => rw [hk] at h1; simp only [signed] at h1; exfalso; simp at h1; omega
  · have h1 := Int.mul_pos h one_pos
    cases t with
    | false => simp; omega
    | true => rw [hk] at h1; simp only [signed, if_true] at h1; exfalso; omega
/-- the quotient of two whole numbers, by their signs -/
theorem zv_divS {i j : Int} {a b : UInt64} (ha : DInt i a) (hb : DInt j b) (hj : j ≠ 0) : ((0 ≤ i ∧ 0 < j) ∨ (i ≤ 0 ∧ j < 0) → zv (FP.ddiv a b) = (rz i.natAbs j.natAbs : Int)) ∧ ((0 ≤ i ∧ j < 0) ∨ (i ≤ 0 ∧ 0 < j) → zv (FP.ddiv a b) = -(rz i.natAbs j.natAbs : Int)) := by
  have hz : zv b ≠ 0 := by rw [zv_int hb]; have := one_pos; intro h; rcases Int.mul_eq_zero.mp h with h | h <;> omega
  obtain ⟨s, A, B, hB, h1, h2, hs, h⟩ := val_ddiv (fin_int ha) (fin_int hb) hz
  rw [zv_int ha] at h1; rw [zv_int hb] at h2
  have eA : i.natAbs * one64 = A := by have := congrArg Int.natAbs h1; rw [natAbs_signed, Int.natAbs_mul, Int.natAbs_natCast] at this; exact this
  have eB : j.natAbs * one64 = B := by have := congrArg Int.natAbs h2; rw [natAbs_signed, Int.natAbs_mul, Int.natAbs_natCast] at this; exact this
  have hr : rz A B = rz i.natAbs j.natAbs := by subst eA eB; exact rz_congr hB (by omega) (by generalize one64 = o; ac_rfl)
  have hv : zv (FP.ddiv a b) = signed s (rz A B) := by rw [zv_def, h, zv_round]
  have sb := sgn_key h2 hj
  by_cases hi : i = 0
  · have : rz A B = 0 := by rw [hr, hi]; exact rz_zero _
    rw [hv, this, signed_zero]
    rw [this] at hr
    omega
  · have sa := sgn_key h1 hi
    rw [sa, sb] at hs
    rw [hv, hr, hs]
    constructor
    · rintro (⟨q1, q2⟩ | ⟨q1, q2⟩)
      · have : ¬ i < 0 := by omega
        have : ¬ j < 0 := by omega
        simp [*, signed]
      · have : i < 0 := by omega
        simp [*, signed]
    · rintro (⟨q1, q2⟩ | ⟨q1, q2⟩)
      · have : ¬ i < 0 := by omega
        simp [*, signed]
      · have : i < 0 := by omega
        have : ¬ j < 0 := by omega
        simp [*, signed]
end Jvm.OwnFl
namespace Jvm.OwnFl
open Jvm Jvm.FP Jvm.FP.Core Jvm.Free.Fl Op
theorem rep_900 : Rep (2 ^ 900 * one64) := by
  have := rep_le (n := 1) (k := 1974) (by decide) (by decide)
  rw [Nat.one_mul] at this
  rw [show (2 : Nat) ^ 900 * one64 = 2 ^ 1974 by unfold one64; rw [← Nat.pow_add]]
  exact this
theorem rz_fin {A B : Nat} (hB : 0 < B) (h : A ≤ 2 ^ 900 * B) : ∃ c q, roundRatio b64 false A B 0 = .fin false c q := by
  rcases roundRatio_cases b64 false A B 0 with h1 | h1
  · exact h1
  · exfalso
    have h2 : rz A B ≤ 2 ^ 900 * one64 := rz_le hB rep_900 (by
      have := Nat.mul_le_mul_right one64 h
      rw [show 2 ^ 900 * B * one64 = 2 ^ 900 * one64 * B from Nat.mul_right_comm _ _ _] at this
      exact this)
    unfold rz at h2
    rw [h1] at h2
    have h3 : (2 : Nat) ^ 1974 < b64.tails * 2 ^ (b64.exps - 2) := by decide +kernel
    have h4 : (2 : Nat) ^ 900 * one64 = 2 ^ 1974 := by unfold one64; rw [← Nat.pow_add]
    rw [h4] at h2
    exact absurd (Nat.lt_of_le_of_lt h2 h3) (Nat.lt_irrefl _)
theorem rz_near {A B v : Nat} (hB : 0 < B) (h : A ≤ 2 ^ 900 * B) (hv : Rep v) : (((A * one64 : Nat) : Int) - ((rz A B * B : Nat) : Int)).natAbs ≤ (((A * one64 : Nat) : Int) - ((v * B : Nat) : Int)).natAbs := by
  obtain ⟨c, q, h1⟩ := rz_fin hB h
  obtain ⟨c', q', hf, rfl⟩ := hv
  have h2 := roundRatio_nearest good_b64 hB h1 (c' := c') (q' := q') (e0 := b64.qmin) hf.1 hf.2.1 (Int.le_refl _) (by rw [qz]; decide)
  unfold distance at h2
  rw [inU] at h2
  have h3 : rz A B = inUnits c q b64.qmin := by unfold rz; rw [h1]; rfl
  rw [h3, Int.natCast_mul (inUnits c q b64.qmin), Int.natCast_mul (inUnits c' q' b64.qmin)]
  exact h2
theorem rz_rep {A B : Nat} (hB : 0 < B) (h : A ≤ 2 ^ 900 * B) : Rep (rz A B) := by
  obtain ⟨c, q, h1⟩ := rz_fin hB h
  refine ⟨c, q, ?_, ?_⟩
  · rw [← h1]; exact roundRatio_fits good_b64 _ _ hB _
  · unfold rz; rw [h1]; rfl
/-- rounding is monotone -/
theorem rz_mono {A B A' B' : Nat} (hB : 0 < B) (hB' : 0 < B') (hf : A ≤ 2 ^ 900 * B) (hf' : A' ≤ 2 ^ 900 * B') (h : A * B' ≤ A' * B) : rz A B ≤ rz A' B' := by
  refine Nat.le_of_not_lt fun hlt => ?_
  have n1 := rz_near hB hf (rz_rep hB' hf')
  have n2 := rz_near hB' hf' (rz_rep hB hf)
  generalize hu : rz A' B' = u at *
  generalize hv : rz A B = v at *
  have l1 : u * B < v * B := (Nat.mul_lt_mul_right hB).mpr hlt
  have l2 : u * B' < v * B' := (Nat.mul_lt_mul_right hB').mpr hlt
  have k1 : u * B + v * B ≤ 2 * (A * one64) := by omega
  have k2 : 2 * (A' * one64) ≤ u * B' + v * B' := by omega
  have m1 := Nat.mul_le_mul_right B' k1
  have m2 := Nat.mul_le_mul_right B k2
  have m3 := Nat.mul_le_mul_right (2 * one64) h
  have e1 : (u * B + v * B) * B' = (u * B' + v * B') * B := by grind
  have e2 : 2 * (A * one64) * B' = A * B' * (2 * one64) := by grind
  have e3 : 2 * (A' * one64) * B = A' * B * (2 * one64) := by grind
  have hEq : A * B' * (2 * one64) = A' * B * (2 * one64) := by omega
  have hEq2 : A * B' = A' * B := Nat.eq_of_mul_eq_mul_right (Nat.mul_pos (by decide) one64_pos) hEq
  have := rz_congr hB hB' hEq2
  omega
/-- the error, where A / B is at most 2 ^ (t - 1020): at most 2 ^ t least doubles -/
theorem rz_err {A B t : Nat} (hB : 0 < B) (ht : t ≤ 1900) (h : A * 2 ^ 1020 ≤ B * 2 ^ t) : (((A * one64 : Nat) : Int) - ((rz A B * B : Nat) : Int)).natAbs ≤ B * 2 ^ t := by
  have hf : A ≤ 2 ^ 900 * B := by
    have h1 : B * 2 ^ t ≤ B * 2 ^ 1900 := Nat.mul_le_mul_left _ (Nat.pow_le_pow_right (by decide) ht)
    have h2 : A * 2 ^ 1020 ≤ 2 ^ 900 * B * 2 ^ 1020 := by
      rw [show (2 : Nat) ^ 900 * B * 2 ^ 1020 = B * 2 ^ 1920 by rw [show (2 : Nat) ^ 1920 = 2 ^ 900 * 2 ^ 1020 by rw [← Nat.pow_add]]; generalize (2 : Nat) ^ 900 = u; generalize (2 : Nat) ^ 1020 = v; ac_rfl]
      exact Nat.le_trans h (Nat.le_trans h1 (Nat.mul_le_mul_left _ (Nat.pow_le_pow_right (by decide) (by decide))))
    exact Nat.le_of_mul_le_mul_right h2 (Nat.two_pow_pos _)
  have hD : 0 < B * 2 ^ (t + 1) := Nat.mul_pos hB (Nat.two_pow_pos _)
  have hN : nearest (A * one64) (B * 2 ^ (t + 1)) ≤ 2 ^ 53 := by
    refine nearest_le hD ?_
    have h3 := Nat.mul_le_mul_right (2 ^ 54) h
    rw [show one64 = 2 ^ 1020 * 2 ^ 54 by unfold one64; rw [← Nat.pow_add], ← Nat.mul_assoc]
    refine Nat.le_trans h3 (Nat.le_of_eq ?_)
    rw [show (2 : Nat) ^ 54 = 2 ^ 53 * 2 from rfl, show (2 : Nat) ^ (t + 1) = 2 ^ t * 2 from rfl]; generalize (2 : Nat) ^ t = z; generalize (2 : Nat) ^ 53 = y; ac_rfl
  have n1 := rz_near hB hf (rep_le hN (k := t + 1) (by omega))
  have n2 := nearest_spec (A * one64) (B * 2 ^ (t + 1)) hD
  obtain ⟨n3, n4, -⟩ := n2
  generalize nearest (A * one64) (B * 2 ^ (t + 1)) = c at *
  have e1 : c * 2 ^ (t + 1) * B = c * (B * 2 ^ (t + 1)) := by ac_rfl
  rw [e1] at n1
  have e2 : (2 * c + 1) * (B * 2 ^ (t + 1)) = 2 * (c * (B * 2 ^ (t + 1))) + B * 2 ^ (t + 1) := by grind
  have e3 : 2 * c * (B * 2 ^ (t + 1)) = 2 * (c * (B * 2 ^ (t + 1))) := by grind
  have e4 : B * 2 ^ (t + 1) = 2 * (B * 2 ^ t) := by rw [Nat.pow_succ]; ac_rfl
  rw [e2] at n3
  rw [e3] at n4
  rw [e4] at n1 n3 n4
  generalize c * (2 * (B * 2 ^ t)) = y at *
  generalize B * 2 ^ t = z at *
  omega
theorem lt900 {x k : Nat} (h : x ≤ 2 ^ k) (hk : k < 900) : x < 2 ^ 900 := Nat.lt_of_le_of_lt h (Nat.pow_lt_pow_right (by decide) hk)
/-- strictly, for numerators of up to 52 digits -/
theorem rz_strict {A A' B : Nat} (hB : 0 < B) (hBm : B < 2 ^ 900) (h : A < A') (hA : A' ≤ 2 ^ 52) : rz A B < rz A' B := by
  have j1 : 2 ^ B.log2 ≤ B := Nat.log2_self_le (by omega)
  have j2 : B < 2 ^ (B.log2 + 1) := Nat.lt_log2_self
  have j3 : B.log2 < 900 := (Nat.pow_lt_pow_iff_right (by decide : 1 < 2)).mp (Nat.lt_of_le_of_lt j1 hBm)
  generalize B.log2 = j at *
  have e0 : (2 : Nat) ^ 52 * 2 ^ 1020 = 2 ^ j * 2 ^ (1072 - j) := by rw [← Nat.pow_add, ← Nat.pow_add, show j + (1072 - j) = 52 + 1020 by omega]
  have c1 : A' * 2 ^ 1020 ≤ B * 2 ^ (1072 - j) := Nat.le_trans (Nat.mul_le_mul_right _ hA) (by rw [e0]; exact Nat.mul_le_mul_right _ j1)
  have c0 : A * 2 ^ 1020 ≤ B * 2 ^ (1072 - j) := Nat.le_trans (Nat.mul_le_mul_right _ (Nat.le_of_lt h)) c1
  have c2 : B * 2 ^ (1072 - j) * 2 < one64 := by
    have : B * 2 ^ (1072 - j) * 2 = B * 2 ^ (1073 - j) := by rw [Nat.mul_assoc, ← Nat.pow_succ, show (1072 - j).succ = 1073 - j by omega]
    rw [this]
    have := (Nat.mul_lt_mul_right (Nat.two_pow_pos (1073 - j))).mpr j2
    rw [← Nat.pow_add, show j + 1 + (1073 - j) = 1074 by omega] at this
    exact this
  have r1 := rz_err hB (by omega) c1
  have r0 := rz_err hB (by omega) c0
  refine Nat.lt_of_not_le fun hle => ?_
  have m1 := Nat.mul_le_mul_right B hle
  have m2 : A * one64 + one64 ≤ A' * one64 := by
    have := Nat.mul_le_mul_right one64 h
    rw [Nat.succ_mul] at this; exact this
  generalize rz A B * B = x at *
  generalize rz A' B * B = y at *
  generalize B * 2 ^ (1072 - j) = z at *
  generalize A * one64 = u at *
  generalize A' * one64 = v at *
  omega
/-- strictly, for fractions up to 1 whose denominator is below 2 ^ 53 -/
theorem rz_strict1 {A A' B : Nat} (hB : 0 < B) (hBm : B < 2 ^ 53) (h : A < A') (hA : A' ≤ B) : rz A B < rz A' B := by
  have c1 : A' * 2 ^ 1020 ≤ B * 2 ^ 1020 := Nat.mul_le_mul_right _ hA
  have c0 : A * 2 ^ 1020 ≤ B * 2 ^ 1020 := Nat.mul_le_mul_right _ (by omega)
  have c2 : B * 2 ^ 1020 * 2 < one64 := by
    have := (Nat.mul_lt_mul_right (Nat.two_pow_pos 1021)).mpr hBm
    rw [← Nat.pow_add] at this
    rw [Nat.mul_assoc, ← Nat.pow_succ]; exact this
  have r1 := rz_err hB (by decide) c1
  have r0 := rz_err hB (by decide) c0
  refine Nat.lt_of_not_le fun hle => ?_
  have m1 := Nat.mul_le_mul_right B hle
  have m2 : A * one64 + one64 ≤ A' * one64 := by
    have := Nat.mul_le_mul_right one64 h
    rw [Nat.succ_mul] at this; exact this
  generalize rz A B * B = x at *
  generalize rz A' B * B = y at *
  generalize B * 2 ^ 1020 = z at *
  generalize A * one64 = u at *
  generalize A' * one64 = v at *
  omega
end Jvm.OwnFl
namespace Jvm.OwnFl
open Jvm Jvm.FP Jvm.FP.Core Jvm.Free.Fl Op
/-! sums, differences, products: rounded between the doubles that bound them -/
theorem repz {v : Int} (h : Rep v.natAbs) : ∃ V, Core.fits b64 V ∧ V ≠ .nan ∧ zval b64 V = v := by
  obtain ⟨c, q, hf, hq⟩ := h
  refine ⟨.fin (decide (v < 0)) c q, hf, by simp, ?_⟩
  show signed (decide (v < 0)) (inUnits c q b64.qmin) = v
  rw [hq]; unfold signed
  by_cases h : v < 0 <;> simp [h] <;> omega
theorem q0 : ((2 ^ (b64.qmin - b64.qmin).toNat : Nat) : Int) = 1 := by rw [show (b64.qmin - b64.qmin).toNat = 0 by omega]; rfl
theorem zadd_le {a b : UInt64} {v : Int} (ha : DFin a) (hb : DFin b) (hv : Rep v.natAbs) (h : zv a + zv b ≤ v) : zv (FP.dadd a b) ≤ v := by
  obtain ⟨V, h1, h2, rfl⟩ := repz hv
  obtain ⟨s, c, q, e1⟩ := ha
  obtain ⟨t, d, r, e2⟩ := hb
  have f1 := val64_fits a
  have f2 := val64_fits b
  rw [zv_def, zv_def, e1, e2] at h
  rw [e1] at f1; rw [e2] at f2
  obtain ⟨sg, n, e, k1, k2, k3⟩ := sum_units f1 f2
  show zval b64 (val64 (Core.dadd a b)) ≤ _
  rw [val64_dadd, e1, e2, k1]
  exact zval_round_le good_b64 h1 h2 (Int.le_refl _) k2 (by rw [k3, q0, Int.mul_one]; exact h)
theorem zadd_ge {a b : UInt64} {v : Int} (ha : DFin a) (hb : DFin b) (hv : Rep v.natAbs) (h : v ≤ zv a + zv b) : v ≤ zv (FP.dadd a b) := by
  obtain ⟨V, h1, h2, rfl⟩ := repz hv
  obtain ⟨s, c, q, e1⟩ := ha
  obtain ⟨t, d, r, e2⟩ := hb
  have f1 := val64_fits a
  have f2 := val64_fits b
  rw [zv_def, zv_def, e1, e2] at h
  rw [e1] at f1; rw [e2] at f2
  obtain ⟨sg, n, e, k1, k2, k3⟩ := sum_units f1 f2
  show _ ≤ zval b64 (val64 (Core.dadd a b))
  rw [val64_dadd, e1, e2, k1]
  exact zval_round_ge good_b64 h1 h2 (Int.le_refl _) k2 (by rw [k3, q0, Int.mul_one]; exact h)
theorem zadd {a b : UInt64} (ha : DFin a) (hb : DFin b) (hv : Rep (zv a + zv b).natAbs) : zv (FP.dadd a b) = zv a + zv b :=
  Int.le_antisymm (zadd_le ha hb hv (Int.le_refl _)) (zadd_ge ha hb hv (Int.le_refl _))
theorem zneg (a : UInt64) : zv (Core.dneg a) = -zv a := by
  show zval b64 (val64 (Core.dneg a)) = _
  rw [Core.val64_dneg]; exact zval_negate _ _
theorem neg_fin {a : UInt64} (ha : DFin a) : DFin (Core.dneg a) := by
  obtain ⟨s, c, q, e1⟩ := ha
  exact ⟨!s, c, q, by rw [Core.val64_dneg, e1]; rfl⟩
theorem zsub_le {a b : UInt64} {v : Int} (ha : DFin a) (hb : DFin b) (hv : Rep v.natAbs) (h : zv a - zv b ≤ v) : zv (FP.dsub a b) ≤ v := by
  show zv (Core.dsub a b) ≤ v
  rw [Core.dsub_eq]
  exact zadd_le ha (neg_fin hb) hv (by rw [zneg]; omega)
theorem zsub_ge {a b : UInt64} {v : Int} (ha : DFin a) (hb : DFin b) (hv : Rep v.natAbs) (h : v ≤ zv a - zv b) : v ≤ zv (FP.dsub a b) := by
  show v ≤ zv (Core.dsub a b)
  rw [Core.dsub_eq]
  exact zadd_ge ha (neg_fin hb) hv (by rw [zneg]; omega)
theorem zsub {a b : UInt64} (ha : DFin a) (hb : DFin b) (hv : Rep (zv a - zv b).natAbs) : zv (FP.dsub a b) = zv a - zv b :=
  Int.le_antisymm (zsub_le ha hb hv (Int.le_refl _)) (zsub_ge ha hb hv (Int.le_refl _))
theorem q2 : ((2 ^ (b64.qmin - 2 * b64.qmin).toNat : Nat) : Int) = (one64 : Int) := by rw [← pow_qmin64, show (b64.qmin - 2 * b64.qmin) = -b64.qmin by omega]
theorem zmul_le {a b : UInt64} {v : Int} (ha : DFin a) (hb : DFin b) (hv : Rep v.natAbs) (h : zv a * zv b ≤ v * (one64 : Int)) : zv (FP.dmul a b) ≤ v := by
  obtain ⟨V, h1, h2, rfl⟩ := repz hv
  obtain ⟨s, c, q, e1⟩ := ha
  obtain ⟨t, d, r, e2⟩ := hb
  have f1 := val64_fits a
  have f2 := val64_fits b
  rw [zv_def, zv_def, e1, e2] at h
  rw [e1] at f1; rw [e2] at f2
  obtain ⟨k1, k2, k3⟩ := product_units f1 f2
  show zval b64 (val64 (Core.dmul a b)) ≤ _
  rw [val64_dmul, e1, e2, k1]
  exact zval_round_le good_b64 h1 h2 (e0 := 2 * b64.qmin) (by rw [qz]; decide) k2 (by rw [k3, q2, signed_xor]; exact h)
theorem zmul_ge {a b : UInt64} {v : Int} (ha : DFin a) (hb : DFin b) (hv : Rep v.natAbs) (h : v * (one64 : Int) ≤ zv a * zv b) : v ≤ zv (FP.dmul a b) := by
  obtain ⟨V, h1, h2, rfl⟩ := repz hv
  obtain ⟨s, c, q, e1⟩ := ha
  obtain ⟨t, d, r, e2⟩ := hb
  have f1 := val64_fits a
  have f2 := val64_fits b
  rw [zv_def, zv_def, e1, e2] at h
  rw [e1] at f1; rw [e2] at f2
  obtain ⟨k1, k2, k3⟩ := product_units f1 f2
  show _ ≤ zval b64 (val64 (Core.dmul a b))
  rw [val64_dmul, e1, e2, k1]
  exact zval_round_ge good_b64 h1 h2 (e0 := 2 * b64.qmin) (by rw [qz]; decide) k2 (by rw [k3, q2, signed_xor]; exact h)
theorem zmul {a b : UInt64} {v : Int} (ha : DFin a) (hb : DFin b) (hv : Rep v.natAbs) (h : zv a * zv b = v * (one64 : Int)) : zv (FP.dmul a b) = v :=
  Int.le_antisymm (zmul_le ha hb hv (Int.le_of_eq h)) (zmul_ge ha hb hv (Int.le_of_eq h.symm))
theorem fin_le {a : UInt64} (hn : NoNaN64 a) (h : (zv a).natAbs ≤ 2 ^ 1974) : DFin a := by
  cases hv : val64 a with
  | nan => exact absurd hv (val64_no.mp hn)
  | fin s c q => exact ⟨s, c, q, hv⟩
  | inf s =>
    exfalso
    rw [zv_def, hv] at h
    have h1 : (zval b64 (.inf s)).natAbs = b64.tails * 2 ^ (b64.exps - 2) := natAbs_signed _ _
    rw [h1] at h
    have h3 : (2 : Nat) ^ 1974 < b64.tails * 2 ^ (b64.exps - 2) := by decide +kernel
    exact absurd (Nat.lt_of_le_of_lt h h3) (Nat.lt_irrefl _)
theorem nn_add {a b : UInt64} (ha : DFin a) (hb : DFin b) : NoNaN64 (FP.dadd a b) := noNaN64_no.mpr (Core.dadd_out ha.notNaN hb)
theorem nn_sub {a b : UInt64} (ha : DFin a) (hb : DFin b) : NoNaN64 (FP.dsub a b) := noNaN64_no.mpr (Core.dsub_out ha.notNaN hb)
theorem nn_mul {a b : UInt64} (ha : DFin a) (hb : DFin b) : NoNaN64 (FP.dmul a b) := noNaN64_no.mpr (Core.dmul_out ha hb)
end Jvm.OwnFl
namespace Jvm.OwnFl
open Jvm Jvm.FP Jvm.FP.Core Jvm.Free.Fl Op
theorem one1 : DInt 1 (4607182418800017408 : UInt64) := dint_one
/-- the quotient of two longs, not negative, of up to 53 digits -/
theorem quo {a b : Int64} (hb : 1 ≤ b.toInt ∧ b.toInt ≤ 9007199254740992) (ha : 0 ≤ a.toInt ∧ a.toInt ≤ 9007199254740992) : NoNaN64 (FP.ddiv (FP.l2d a) (FP.l2d b)) ∧ zv (FP.ddiv (FP.l2d a) (FP.l2d b)) = (rz a.toInt.toNat b.toInt.toNat : Int) := by
  have d1 := l2dI (x := a) (by omega) (by omega)
  have d2 := l2dI (x := b) (by omega) (by omega)
  refine ⟨nn_divI d1 d2 (by omega), zv_divI (by rw [show ((a.toInt.toNat : Nat) : Int) = a.toInt by omega]; exact d1) (by rw [show ((b.toInt.toNat : Nat) : Int) = b.toInt by omega]; exact d2) (by omega)⟩
theorem nsub {x y : Int64} (h1 : 0 ≤ x.toInt) (h2 : 0 ≤ y.toInt) : (x - y).toInt = x.toInt - y.toInt := by
  have a1 := x.toInt_lt; have a2 := y.toInt_lt
  exact Jvm.Kit.i64_sub (by omega) (by omega)
theorem p1ne {x : Int64} (h1 : 0 ≤ x.toInt) (h2 : x.toInt ≤ 4611686018427387904) : x + 1 ≠ 0 := by
  intro h
  have h3 := congrArg Int64.toInt h
  rw [Jvm.Kit.i64_add (by rw [Int64.toInt_one]; omega) (by rw [Int64.toInt_one]; omega), Int64.toInt_one, Int64.toInt_zero] at h3
  omega
theorem mask1 {x m v : Int64} {k : Nat} (hk : k < 62) (hm : m.toBitVec.toNat = 2 ^ k - 1) (q : (x &&& m) + 1 = v) : 1 ≤ v.toInt ∧ v.toInt ≤ 2 ^ k := by
  have h1 := Jvm.Kit.i64_mask x m (by omega) hm
  have p2 : (0 : Int) < 2 ^ k := Int.pow_pos (by decide)
  have h2 := Int.emod_nonneg x.toInt (Int.ne_of_gt p2)
  have h3 := Int.emod_lt_of_pos x.toInt p2
  have h4 : (2 : Int) ^ k ≤ 2 ^ 61 := by exact_mod_cast Nat.pow_le_pow_right (by decide) (by omega : k ≤ 61)
  rw [← q, Jvm.Kit.i64_add (by rw [Int64.toInt_one]; omega) (by rw [Int64.toInt_one]; omega), Int64.toInt_one, h1]
  omega
theorem remP {x d v : Int64} (h1 : 0 ≤ d.toInt) (h2 : d.toInt ≤ 4611686018427387904) (q : (x &&& (9223372036854775807 : Int64)) - (x &&& (9223372036854775807 : Int64)) / (d + 1) * (d + 1) = v) : 0 ≤ v.toInt ∧ v.toInt ≤ d.toInt := by
  have m1 := Jvm.Kit.i64_mask x 9223372036854775807 (k := 63) (by decide) (by decide)
  have m2 : 0 ≤ (x &&& (9223372036854775807 : Int64)).toInt := by rw [m1]; omega
  have m3 := Jvm.Kit.i64_rem_nonneg (x := x &&& (9223372036854775807 : Int64)) (y := d + 1) m2
  have m4 : (d + 1).toInt = d.toInt + 1 := by rw [Jvm.Kit.i64_add (by rw [Int64.toInt_one]; omega) (by rw [Int64.toInt_one]; omega), Int64.toInt_one]
  rw [m4] at m3
  rw [← q, m3]
  have h3 := Int.emod_nonneg (x &&& (9223372036854775807 : Int64)).toInt (b := d.toInt + 1) (by omega)
  have h4 := Int.emod_lt_of_pos (x &&& (9223372036854775807 : Int64)).toInt (b := d.toInt + 1) (by omega)
  omega
end Jvm.OwnFl
namespace Jvm.Pilot.@@N@@
open Jvm Jvm.ClassFile Sem Op Lib Jvm.Free Jvm.Stand Jvm.LawKit Jvm.RoadKit Bundle Jvm.Pilot.@@N@@.Jvm.D
section Own
open Jvm.OwnFl Jvm.FP.Core Jvm.Free.Fl
theorem own_pw {x w : Int32} (q : (1 : Int32) <<< ((x &&& (31 : Int32)) &&& 31) = w) : ∃ j : Nat, j ≤ 31 ∧ (w.toInt = ((2 ^ j : Nat) : Int) ∨ w.toInt = -((2 ^ j : Nat) : Int)) := by
  have hd : ∀ k : Fin 32, ((1 : Int32) <<< ((Int32.ofNat k.val) &&& 31)).toInt = ((2 ^ k.val : Nat) : Int) ∨ ((1 : Int32) <<< ((Int32.ofNat k.val) &&& 31)).toInt = -((2 ^ k.val : Nat) : Int) := by decide
  have m1 := Jvm.Kit.i32_mask x 31 (k := 5) (by decide) (by decide)
  generalize x &&& (31 : Int32) = v at *
  have hv : v = Int32.ofNat v.toInt.toNat := by
    apply Int32.toInt_inj.mp
    rw [Int32.toInt_ofNat_of_lt (by omega)]; omega
  refine ⟨v.toInt.toNat, by omega, ?_⟩
  have := hd ⟨v.toInt.toNat, by omega⟩
  simp only at this
  rw [← hv, q] at this
  exact this
theorem own_pn {w : Int32} (h : ∃ j : Nat, j ≤ 31 ∧ (w.toInt = ((2 ^ j : Nat) : Int) ∨ w.toInt = -((2 ^ j : Nat) : Int))) : w.toInt ≠ 0 := by
  obtain ⟨j, -, h⟩ := h
  have := Nat.two_pow_pos j
  omega
theorem own_n {a b : Int32} (h : b.toInt ≠ 0) : NoNaN64 (FP.ddiv (FP.i2d a) (FP.i2d b)) := nn_divI (i2dI a) (i2dI b) h
theorem own_ne {b : Int32} (h : b.toInt ≠ 0) : ¬ b = (0 : Int32) := fun q => h (by rw [q]; rfl)
theorem own_fin {a b : Int32} (h : b.toInt ≠ 0) : DFin (FP.ddiv (FP.i2d a) (FP.i2d b)) := by
  have a1 := a.le_toInt; have a2 := a.toInt_lt
  refine fin_le (own_n h) ?_
  have hr : rz a.toInt.natAbs b.toInt.natAbs ≤ 2147483648 * one64 := rz_le (by omega) (rep_int (by decide)) (by
    have : 2147483648 * one64 * b.toInt.natAbs = 2147483648 * b.toInt.natAbs * one64 := by generalize one64 = o_; ac_rfl
    rw [this]; exact Nat.mul_le_mul_right _ (Nat.le_trans (show a.toInt.natAbs ≤ 2147483648 * 1 by omega) (Nat.mul_le_mul_left _ (by omega))))
  have hb : (2147483648 : Nat) * one64 ≤ 2 ^ 1974 := by
    unfold one64; rw [show (2147483648 : Nat) = 2 ^ 31 from rfl, ← Nat.pow_add]; exact Nat.pow_le_pow_right (by decide) (by decide)
  obtain ⟨h1, h2⟩ := zv_divS (i2dI a) (i2dI b) h
  generalize rz a.toInt.natAbs b.toInt.natAbs = M at *
  generalize (2 : Nat) ^ 1974 = Y at *
  generalize 2147483648 * one64 = X at *
  by_cases s : (0 ≤ a.toInt ∧ 0 < b.toInt) ∨ (a.toInt ≤ 0 ∧ b.toInt < 0)
  · rw [h1 s]; omega
  · rw [h2 (by omega)]; omega
theorem own_pq {a w : Int32} (hw : ∃ j : Nat, j ≤ 31 ∧ (w.toInt = ((2 ^ j : Nat) : Int) ∨ w.toInt = -((2 ^ j : Nat) : Int))) : NoNaN64 (FP.dmul (FP.ddiv (FP.i2d a) (FP.i2d w)) (FP.i2d w)) ∧ cmpValue (FP.dcmp (FP.dmul (FP.ddiv (FP.i2d a) (FP.i2d w)) (FP.i2d w)) (FP.i2d a)) .l = 0 := by
  have hn := own_pn hw
  obtain ⟨j, hj, hw⟩ := hw
  have a1 := a.le_toInt; have a2 := a.toInt_lt
  have f1 := own_fin (a := a) hn
  have f2 := fin_int (i2dI w)
  have n1 := nn_mul f1 f2
  refine ⟨n1, cv_eq n1 (nn_int (i2dI a)) ?_ .l⟩
  have hp := Nat.two_pow_pos j
  have hB : w.toInt.natAbs = 2 ^ j := by omega
  have hr : rz a.toInt.natAbs w.toInt.natAbs = a.toInt.natAbs * 2 ^ (1074 - j) := by
    rw [hB]
    refine rz_exact hp (rep_le (by omega) (by omega)) ?_
    unfold one64; rw [Nat.mul_assoc, ← Nat.pow_add, show 1074 - j + j = 1074 by omega]
  obtain ⟨z1, z2⟩ := zv_divS (i2dI a) (i2dI w) hn
  rw [hr] at z1 z2
  have e1 : (2 : Nat) ^ (1074 - j) * 2 ^ j = one64 := by unfold one64; rw [← Nat.pow_add, show 1074 - j + j = 1074 by omega]
  have e2 : ((2 ^ (1074 - j) : Nat) : Int) * ((2 ^ j : Nat) : Int) = (one64 : Int) := by rw [← Int.natCast_mul, e1]
  rw [Int.natCast_mul] at z1 z2
  rw [zv_int (i2dI a)]
  refine zmul f1 f2 ?_ ?_
  · rw [Int.natAbs_mul, Int.natAbs_natCast]; exact rep_int (by omega)
  · rw [zv_int (i2dI w)]
    generalize hX : ((2 ^ (1074 - j) : Nat) : Int) = X at *
    generalize hY : ((2 ^ j : Nat) : Int) = Y at *
    have hY0 : 0 < Y := by omega
    rcases hw with hw | hw
    · have hz : zv (FP.ddiv (FP.i2d a) (FP.i2d w)) = a.toInt * X := by
        rcases Int.lt_or_le a.toInt 0 with s | s
        · rw [z2 (Or.inr ⟨by omega, by omega⟩), show ((a.toInt.natAbs : Nat) : Int) = -a.toInt by omega, Int.neg_mul, Int.neg_neg]
        · rw [z1 (Or.inl ⟨s, by omega⟩), show ((a.toInt.natAbs : Nat) : Int) = a.toInt by omega]
      rw [hz, hw]
      have : a.toInt * X * (Y * (one64 : Int)) = a.toInt * (X * Y) * (one64 : Int) := by grind
      rw [this, e2]
    · have hz : zv (FP.ddiv (FP.i2d a) (FP.i2d w)) = -(a.toInt * X) := by
        rcases Int.lt_or_le a.toInt 0 with s | s
        · rw [z1 (Or.inr ⟨by omega, by omega⟩), show ((a.toInt.natAbs : Nat) : Int) = -a.toInt by omega, Int.neg_mul]
        · rw [z2 (Or.inl ⟨s, by omega⟩), show ((a.toInt.natAbs : Nat) : Int) = a.toInt by omega]
      rw [hz, hw]
      have : -(a.toInt * X) * (-Y * (one64 : Int)) = a.toInt * (X * Y) * (one64 : Int) := by grind
      rw [this, e2]
theorem own_rem {x v : Int32} (q : x - x / (46341 : Int32) * (46341 : Int32) = v) : -46341 < v.toInt ∧ v.toInt < 46341 := by
  rw [irem_eq_mod] at q
  have e : (46341 : Int32).toInt = 46341 := by decide
  rw [← q, Jvm.Kit.i32_rem, e]
  have h1 := Int.tmod_lt_of_pos x.toInt (show (0 : Int) < 46341 by decide)
  have h2 := Int.lt_tmod_of_pos x.toInt (show (0 : Int) < 46341 by decide)
  omega
theorem own_b0 {v : Int32} (h : -46341 < v.toInt ∧ v.toInt < 46341) (hn : ¬ v = (0 : Int32)) : -46341 < v.toInt ∧ v.toInt < 46341 ∧ v.toInt ≠ 0 := ⟨h.1, h.2, fun q => hn (Int32.toInt_inj.mp q)⟩
theorem own_e {q m : Int32} (hq : -46341 < q.toInt ∧ q.toInt < 46341) (hm : -46341 < m.toInt ∧ m.toInt < 46341 ∧ m.toInt ≠ 0) : cmpValue (FP.dcmp (FP.ddiv (FP.i2d (m * q)) (FP.i2d m)) (FP.i2d q)) .l = 0 := by
  have b := absMul (A := 46340) (B := 46340) (i := m.toInt) (j := q.toInt) (by omega) (by omega)
  have e : (m * q).toInt = m.toInt * q.toInt := Jvm.Kit.i32_mul (by omega) (by omega)
  have d1 : DInt (m.toInt * q.toInt) (FP.i2d (m * q)) := by rw [← e]; exact i2dI _
  have n1 := nn_divI d1 (i2dI m) hm.2.2
  refine cv_eq n1 (nn_int (i2dI q)) ?_ .l
  obtain ⟨hp, hn⟩ := zv_divS d1 (i2dI m) hm.2.2
  have hr : rz (m.toInt * q.toInt).natAbs m.toInt.natAbs = q.toInt.natAbs * one64 := rz_exact (by omega) (rep_int (by omega)) (by rw [Int.natAbs_mul]; generalize one64 = o_; ac_rfl)
  rw [hr] at hp hn
  rw [zv_int (i2dI q)]
  have hc : ((q.toInt.natAbs * one64 : Nat) : Int) = (q.toInt.natAbs : Int) * (one64 : Int) := Int.natCast_mul _ _
  rw [hc] at hp hn
  rcases Int.lt_or_gt_of_ne hm.2.2 with hm0 | hm0 <;> rcases Int.lt_or_le q.toInt 0 with hq0 | hq0
  · have := Int.mul_pos_of_neg_of_neg hm0 hq0
    rw [hn (Or.inl ⟨by omega, hm0⟩), show ((q.toInt.natAbs : Nat) : Int) = -q.toInt by omega, Int.neg_mul, Int.neg_neg]
  · have : m.toInt * q.toInt ≤ 0 := Int.mul_nonpos_of_nonpos_of_nonneg (Int.le_of_lt hm0) hq0
    rw [hp (Or.inr ⟨by omega, hm0⟩), show ((q.toInt.natAbs : Nat) : Int) = q.toInt by omega]
  · have := Int.mul_neg_of_pos_of_neg hm0 hq0
    rw [hn (Or.inr ⟨by omega, hm0⟩), show ((q.toInt.natAbs : Nat) : Int) = -q.toInt by omega, Int.neg_mul, Int.neg_neg]
  · have := Int.mul_nonneg (Int.le_of_lt hm0) hq0
    rw [hp (Or.inl ⟨by omega, hm0⟩), show ((q.toInt.natAbs : Nat) : Int) = q.toInt by omega]
theorem own_st {i j : Nat} (h : i < j) (hj : j ≤ 2147483648) {K : Nat} (hK : 1 ≤ K) (hK2 : K ≤ 2147483648) : rz i K < rz j K :=
  rz_strict (by omega) (lt900 (k := 31) hK2 (by decide)) h (by omega)
/-- q < q2 for b > 0, q > q2 for b < 0 -/
theorem own_mono {a a2 b : Int32} (hb : b.toInt ≠ 0) (h : a2.toInt = a.toInt + 1) :
    (0 < b.toInt → cmpValue (FP.dcmp (FP.ddiv (FP.i2d a) (FP.i2d b)) (FP.ddiv (FP.i2d a2) (FP.i2d b))) .g < 0) ∧ (b.toInt < 0 → 0 < cmpValue (FP.dcmp (FP.ddiv (FP.i2d a) (FP.i2d b)) (FP.ddiv (FP.i2d a2) (FP.i2d b))) .l) := by
  have x1 := a.le_toInt; have x2 := a.toInt_lt
  have y1 := a2.le_toInt; have y2 := a2.toInt_lt
  have b1 := b.le_toInt; have b2 := b.toInt_lt
  obtain ⟨p1, p2⟩ := zv_divS (i2dI a) (i2dI b) hb
  obtain ⟨q1, q2⟩ := zv_divS (i2dI a2) (i2dI b) hb
  have s1 : a.toInt.natAbs < a2.toInt.natAbs → rz a.toInt.natAbs b.toInt.natAbs < rz a2.toInt.natAbs b.toInt.natAbs := fun q => own_st q (by omega) (by omega) (by omega)
  have s2 : a2.toInt.natAbs < a.toInt.natAbs → rz a2.toInt.natAbs b.toInt.natAbs < rz a.toInt.natAbs b.toInt.natAbs := fun q => own_st q (by omega) (by omega) (by omega)
  constructor
  · intro hb0
    refine cv_lt' (own_n hb) (own_n hb) ?_ .g
    rcases Int.lt_or_le a.toInt 0 with s | s
    · rw [p2 (Or.inr ⟨by omega, hb0⟩), q2 (Or.inr ⟨by omega, hb0⟩)]
      have := s2 (by omega); omega
    · rw [p1 (Or.inl ⟨s, hb0⟩), q1 (Or.inl ⟨by omega, hb0⟩)]
      have := s1 (by omega); omega
  · intro hb0
    refine cv_gt' (own_n hb) (own_n hb) ?_ .l
    rcases Int.lt_or_le a.toInt 0 with s | s
    · rw [p1 (Or.inr ⟨by omega, hb0⟩), q1 (Or.inr ⟨by omega, hb0⟩)]
      have := s2 (by omega); omega
    · rw [p2 (Or.inl ⟨s, hb0⟩), q2 (Or.inl ⟨by omega, hb0⟩)]
      have := s1 (by omega); omega
/-- |q| is at most |a| -/
theorem own_bd {a b : Int32} {g : Int64} (hb : b.toInt ≠ 0) (hg : g.toInt = (a.toInt.natAbs : Int)) :
    (¬ (0 < cmpValue (FP.dcmp (FP.ddiv (FP.i2d a) (FP.i2d b)) (FP.l2d g)) .l)) ∧ ¬ (cmpValue (FP.dcmp (FP.ddiv (FP.i2d a) (FP.i2d b)) (FP.dneg (FP.l2d g))) .g < 0) := by
  have x1 := a.le_toInt; have x2 := a.toInt_lt
  obtain ⟨p1, p2⟩ := zv_divS (i2dI a) (i2dI b) hb
  have dg := l2dI (x := g) (by omega) (by omega)
  have hr : rz a.toInt.natAbs b.toInt.natAbs ≤ a.toInt.natAbs * one64 := rz_le (by omega) (rep_int (by omega)) (Nat.le_mul_of_pos_right _ (by omega))
  have hr2 : (rz a.toInt.natAbs b.toInt.natAbs : Int) ≤ (a.toInt.natAbs : Int) * (one64 : Int) := by rw [← Int.natCast_mul]; exact Int.ofNat_le.mpr hr
  have hz0 : (0 : Int) ≤ (rz a.toInt.natAbs b.toInt.natAbs : Int) := Int.natCast_nonneg _
  have ng : zv (FP.dneg (FP.l2d g)) = -(g.toInt * (one64 : Int)) := by
    rw [show FP.dneg (FP.l2d g) = FP.Core.dneg (FP.l2d g) from FP.dneg_core ((noNaN64_no (x := FP.l2d g)).mp (nn_int dg)), Jvm.OwnFl.zneg, zv_int dg]
  have nn : NoNaN64 (FP.dneg (FP.l2d g)) := (dneg_iff _).mpr (nn_int dg)
  have hv : zv (FP.ddiv (FP.i2d a) (FP.i2d b)) = (rz a.toInt.natAbs b.toInt.natAbs : Int) ∨ zv (FP.ddiv (FP.i2d a) (FP.i2d b)) = -(rz a.toInt.natAbs b.toInt.natAbs : Int) := by
    by_cases s : (0 ≤ a.toInt ∧ 0 < b.toInt) ∨ (a.toInt ≤ 0 ∧ b.toInt < 0)
    · exact Or.inl (p1 s)
    · exact Or.inr (p2 (by omega))
  refine ⟨cv_le (own_n hb) (nn_int dg) ?_ .l, cv_ge (own_n hb) nn ?_ .g⟩
  · rw [zv_int dg, hg]; omega
  · rw [ng, hg]; omega
/-- the quotient's sign -/
theorem own_sg {a b : Int32} (hb : b.toInt ≠ 0) : (a.toInt = 0 → cmpValue (FP.dcmp (FP.ddiv (FP.i2d a) (FP.i2d b)) (0 : UInt64)) .l = 0) ∧ ((0 < a.toInt ∧ 0 < b.toInt) ∨ (a.toInt < 0 ∧ b.toInt < 0) → 0 < cmpValue (FP.dcmp (FP.ddiv (FP.i2d a) (FP.i2d b)) (0 : UInt64)) .l) ∧ ((0 < a.toInt ∧ b.toInt < 0) ∨ (a.toInt < 0 ∧ 0 < b.toInt) → cmpValue (FP.dcmp (FP.ddiv (FP.i2d a) (FP.i2d b)) (0 : UInt64)) .g < 0) := by
  have x1 := a.le_toInt; have x2 := a.toInt_lt
  have b1 := b.le_toInt; have b2 := b.toInt_lt
  obtain ⟨p1, p2⟩ := zv_divS (i2dI a) (i2dI b) hb
  have hp : a.toInt ≠ 0 → rz 0 b.toInt.natAbs < rz a.toInt.natAbs b.toInt.natAbs := fun q => own_st (by omega) (by omega) (by omega) (by omega)
  refine ⟨?_, ?_, ?_⟩
  · intro h
    refine cv_eq (own_n hb) (nn_int zint) ?_ .l
    rw [zv_int zint, Int.zero_mul]
    have : rz a.toInt.natAbs b.toInt.natAbs = 0 := by rw [h]; exact rz_zero _
    rw [this] at p1 p2
    rcases Int.lt_or_gt_of_ne hb with s | s
    · rw [p1 (Or.inr ⟨by omega, s⟩)]; rfl
    · rw [p1 (Or.inl ⟨by omega, s⟩)]; rfl
  · intro h
    refine cv_gt' (own_n hb) (nn_int zint) ?_ .l
    rw [zv_int zint, Int.zero_mul, p1 (by omega)]
    have := hp (by omega); omega
  · intro h
    refine cv_lt' (own_n hb) (nn_int zint) ?_ .g
    rw [zv_int zint, Int.zero_mul, p2 (by omega)]
    have := hp (by omega); omega
theorem own_pz {v : Int32} (h : (0 : Int32) < v) : 0 < v.toInt := Int32.lt_iff_toInt_lt.mp h
theorem own_nz {v : Int32} (h : ¬ (0 : Int32) < v) : v.toInt ≤ 0 := by
  have := mt Int32.lt_iff_toInt_lt.mpr h
  have e : (0 : Int32).toInt = 0 := rfl
  omega
theorem own_z {v : Int32} (h : v = (0 : Int32)) : v.toInt = 0 := by rw [h]; rfl
theorem own_zn {v : Int32} (h : ¬ v = (0 : Int32)) : v.toInt ≠ 0 := fun q => h (Int32.toInt_inj.mp q)
theorem own_a2 {a : Int32} (h : ¬ a = (2147483647 : Int32)) : (a + (1 : Int32)).toInt = a.toInt + 1 := by
  have e : (2147483647 : Int32).toInt = 2147483647 := by decide
  have e1 : (1 : Int32).toInt = 1 := by decide
  have x1 := a.le_toInt; have x2 := a.toInt_lt
  have : a.toInt ≠ 2147483647 := fun q => h (Int32.toInt_inj.mp (q.trans e.symm))
  rw [Jvm.Kit.i32_add (by rw [e1]; omega) (by rw [e1]; omega), e1]
theorem own_absn {a : Int32} (h : lcmpW a.toInt64 (0 : Int64) < (0 : Int32)) : (-a.toInt64).toInt = (a.toInt.natAbs : Int) := by
  have h1 := lc_lt.mp h
  rw [Jvm.Kit.i64_of_i32, Int64.toInt_zero] at h1
  have x1 := a.le_toInt
  rw [Jvm.Kit.i64_neg (by rw [Jvm.Kit.i64_of_i32]; omega), Jvm.Kit.i64_of_i32]; omega
theorem own_absp {a : Int32} (h : ¬ lcmpW a.toInt64 (0 : Int64) < (0 : Int32)) : (a.toInt64).toInt = (a.toInt.natAbs : Int) := by
  have h1 := mt lc_lt.mpr h
  rw [Jvm.Kit.i64_of_i32, Int64.toInt_zero] at h1
  rw [Jvm.Kit.i64_of_i32]; omega
end Own
theorem d2_0 : decode jdk_30_method_1_code 0 = .ok (.aload_n 0, 1) := by decide +kernel
theorem d2_1 : decode jdk_30_method_1_code 1 = .ok (.invokespecial 1, 3) := by decide +kernel
theorem d2_4 : decode jdk_30_method_1_code 4 = .ok (.return_, 1) := by decide +kernel
theorem pn0 : plainName "java/lang/Record" = true := by first | (simp [plainName, overriddenIn]; done) | decide +kernel
def Q_rec (Z : State) (a : Addr) (h0 : Heap) (n0 : Nat) (v : Option Value) (h : Heap) (L : List Loc) : Prop := v = none ∧ Fr n0 L ∧ h = h0
theorem ef_rec (m : MethodId) (y0 : Addr) : entryFrame m #[(.ref y0)] 1 = mkF m 0 #[.val (.ref y0)] [] := by first | (simp [entryFrame, mkF, argsToLocals, Value.category, maxLocals]; done) | rfl
set_option maxRecDepth 65536 in
set_option maxHeartbeats 40000000 in
theorem rm_rec (l : Launch) (Z : State) (a0 : Array Value) (hw : ∀ d ∈ tables_1, d.before a0 Z = true) (ws : List Jvm.Cond) (a : Addr) (h0 : Heap) (n0 : Nat) (Z0 : n0 ≤ h0.size)  :
    MetFree l (⟨"java/lang/Record", "<init>", "()V"⟩ : MethodName) (head1 (Jvm.Cond.code (⟨"java/lang/Record", "<init>", "()V"⟩ : MethodName) jdk_30_method_1_code 1 none :: ws) ({ frames := 1, cells := 0, slots := 0, locals := 12 } : Room)) (fun aa_ U => aa_ = #[(.ref a)] ∧ Z.Warmed39 U.vm ∧ U.heap = h0) (fun _ _ _ _ _ => True) (fun _ U o U' => ∃ v L, o = .returned v ∧ Q_rec Z a h0 n0 v U'.heap L ∧ FrameEnd U o U' L (({ frames := 1, cells := 0, slots := 0, locals := 12 } : Room)).cells (({ frames := 1, cells := 0, slots := 0, locals := 12 } : Room)).slots) := by
  refine Go.met (plainFor_of_name pn0) ?_
  intro p e s m below meth c s₁ hx hby hml hown hnm hret hlk hZ e0 X0
  have N0 := Fr.nil n0
  refine Go.cast (ef_rec m a) ?_
  refine Go.st (U := (s₁.setTop (mkF m 1 #[.val (.ref a)] [(.ref a)]))) (fun t_ k_ => XS.aloadN X0.here hx rfl (hb hby d2_0) rfl rfl k_) ?_
  obtain ⟨Ti1, Xi1, ei1, sti1⟩ := initO X0 hx hZ hown (hw _ (List.mem_of_getElem? (i := 15) rfl)) (hw _ (List.mem_of_getElem? (i := 16) rfl)) (hw _ (List.mem_of_getElem? (i := 17) rfl)) e0 (g := (mkF m 1 #[.val (.ref a)] [(.ref a)])) rfl (by rw [hml]; rfl) rfl (hb hby d2_1) (by decide) (W := 0) (by show 2 * 0 + _ ≤ _; exact Nat.le_of_eq rfl) (by decide)
  refine Go.st (U := (Ti1.setTop (mkF m 4 #[.val (.ref a)] []))) sti1 ?_
  refine Go.retV (st := []) Xi1 hx hlk hret (hb hby d2_4) (by decide) (by decide) ?_
  show Q_rec Z a h0 n0 _ Ti1.heap _
  rw [ei1]
  exact ⟨rfl, N0, rfl⟩
theorem d1_0 : decode prog_88_method_1_code 0 = .ok (.aload_n 0, 1) := by decide +kernel
theorem d1_1 : decode prog_88_method_1_code 1 = .ok (.invokespecial 1, 3) := by decide +kernel
theorem d1_4 : decode prog_88_method_1_code 4 = .ok (.aload_n 0, 1) := by decide +kernel
theorem d1_5 : decode prog_88_method_1_code 5 = .ok (.iload_n 1, 1) := by decide +kernel
theorem d1_6 : decode prog_88_method_1_code 6 = .ok (.putfield 7, 3) := by decide +kernel
theorem d1_9 : decode prog_88_method_1_code 9 = .ok (.aload_n 0, 1) := by decide +kernel
theorem d1_10 : decode prog_88_method_1_code 10 = .ok (.iload_n 2, 1) := by decide +kernel
theorem d1_11 : decode prog_88_method_1_code 11 = .ok (.putfield 13, 3) := by decide +kernel
theorem d1_14 : decode prog_88_method_1_code 14 = .ok (.aload_n 0, 1) := by decide +kernel
theorem d1_15 : decode prog_88_method_1_code 15 = .ok (.iload_n 3, 1) := by decide +kernel
theorem d1_16 : decode prog_88_method_1_code 16 = .ok (.putfield 16, 3) := by decide +kernel
theorem d1_19 : decode prog_88_method_1_code 19 = .ok (.aload_n 0, 1) := by decide +kernel
theorem d1_20 : decode prog_88_method_1_code 20 = .ok (.iload 4, 2) := by decide +kernel
theorem d1_22 : decode prog_88_method_1_code 22 = .ok (.putfield 19, 3) := by decide +kernel
theorem d1_25 : decode prog_88_method_1_code 25 = .ok (.aload_n 0, 1) := by decide +kernel
theorem d1_26 : decode prog_88_method_1_code 26 = .ok (.dload 5, 2) := by decide +kernel
theorem d1_28 : decode prog_88_method_1_code 28 = .ok (.putfield 22, 3) := by decide +kernel
theorem d1_31 : decode prog_88_method_1_code 31 = .ok (.aload_n 0, 1) := by decide +kernel
theorem d1_32 : decode prog_88_method_1_code 32 = .ok (.dload 7, 2) := by decide +kernel
theorem d1_34 : decode prog_88_method_1_code 34 = .ok (.putfield 26, 3) := by decide +kernel
theorem d1_37 : decode prog_88_method_1_code 37 = .ok (.aload_n 0, 1) := by decide +kernel
theorem d1_38 : decode prog_88_method_1_code 38 = .ok (.dload 9, 2) := by decide +kernel
theorem d1_40 : decode prog_88_method_1_code 40 = .ok (.putfield 29, 3) := by decide +kernel
theorem d1_43 : decode prog_88_method_1_code 43 = .ok (.aload_n 0, 1) := by decide +kernel
theorem d1_44 : decode prog_88_method_1_code 44 = .ok (.dload 11, 2) := by decide +kernel
theorem d1_46 : decode prog_88_method_1_code 46 = .ok (.putfield 32, 3) := by decide +kernel
theorem d1_49 : decode prog_88_method_1_code 49 = .ok (.return_, 1) := by decide +kernel
theorem pn1 : plainName "com/example/weftmap/weftmap/sim/Summary" = true := by first | (simp [plainName, overriddenIn]; done) | decide +kernel
def Q_sum (Z : State) (a : Addr) (x0 : Int32) (x1 : Int32) (x2 : Int32) (x3 : Int32) (x4 : UInt64) (x5 : UInt64) (x6 : UInt64) (x7 : UInt64) (o0 : Value) (o1 : Value) (o2 : Value) (o3 : Value) (o4 : Value) (o5 : Value) (o6 : Value) (o7 : Value) (h0 : Heap) (n0 : Nat) (v : Option Value) (h : Heap) (L : List Loc) : Prop := v = none ∧ Fr n0 L ∧ Keep h0 h [a] ∧ Exa Z h a "com/example/weftmap/weftmap/sim/Summary" ∧ Fld Z h a "com/example/weftmap/weftmap/sim/Summary" "arrived" "I" (.int x0) ∧ Fld Z h a "com/example/weftmap/weftmap/sim/Summary" "accepted" "I" (.int x1) ∧ Fld Z h a "com/example/weftmap/weftmap/sim/Summary" "rejectedNode" "I" (.int x2) ∧ Fld Z h a "com/example/weftmap/weftmap/sim/Summary" "rejectedLink" "I" (.int x3) ∧ Fld Z h a "com/example/weftmap/weftmap/sim/Summary" "revenue" "D" (.double x4) ∧ Fld Z h a "com/example/weftmap/weftmap/sim/Summary" "cost" "D" (.double x5) ∧ Fld Z h a "com/example/weftmap/weftmap/sim/Summary" "nodeUtilization" "D" (.double x6) ∧ Fld Z h a "com/example/weftmap/weftmap/sim/Summary" "linkUtilization" "D" (.double x7)
theorem ef_sum (m : MethodId) (y0 : Addr) (y1 : Int32) (y2 : Int32) (y3 : Int32) (y4 : Int32) (y5 : UInt64) (y6 : UInt64) (y7 : UInt64) (y8 : UInt64) : entryFrame m #[(.ref y0), (.int y1), (.int y2), (.int y3), (.int y4), (.double y5), (.double y6), (.double y7), (.double y8)] 13 = mkF m 0 #[.val (.ref y0), .val (.int y1), .val (.int y2), .val (.int y3), .val (.int y4), .val (.double y5), .second, .val (.double y6), .second, .val (.double y7), .second, .val (.double y8), .second] [] := by first | (simp [entryFrame, mkF, argsToLocals, Value.category, maxLocals]; done) | rfl
theorem pd0 : parseMethodDescriptor "()V" = some ⟨[], none⟩ := by decide +kernel
set_option maxRecDepth 65536 in
set_option maxHeartbeats 40000000 in
theorem rm_sum (l : Launch) (Z : State) (a0 : Array Value) (hw : ∀ d ∈ tables_1, d.before a0 Z = true) (ws : List Jvm.Cond) (a : Addr) (x0 : Int32) (x1 : Int32) (x2 : Int32) (x3 : Int32) (x4 : UInt64) (x5 : UInt64) (x6 : UInt64) (x7 : UInt64) (o0 : Value) (o1 : Value) (o2 : Value) (o3 : Value) (o4 : Value) (o5 : Value) (o6 : Value) (o7 : Value) (h0 : Heap) (n0 : Nat) (Z0 : n0 ≤ h0.size) (E0_a : Exa Z h0 a "com/example/weftmap/weftmap/sim/Summary") (ge_a : n0 ≤ a) (F0_a_arrived : Fld Z h0 a "com/example/weftmap/weftmap/sim/Summary" "arrived" "I" o0) (F0_a_accepted : Fld Z h0 a "com/example/weftmap/weftmap/sim/Summary" "accepted" "I" o1) (F0_a_rejectedNode : Fld Z h0 a "com/example/weftmap/weftmap/sim/Summary" "rejectedNode" "I" o2) (F0_a_rejectedLink : Fld Z h0 a "com/example/weftmap/weftmap/sim/Summary" "rejectedLink" "I" o3) (F0_a_revenue : Fld Z h0 a "com/example/weftmap/weftmap/sim/Summary" "revenue" "D" o4) (F0_a_cost : Fld Z h0 a "com/example/weftmap/weftmap/sim/Summary" "cost" "D" o5) (F0_a_nodeUtilization : Fld Z h0 a "com/example/weftmap/weftmap/sim/Summary" "nodeUtilization" "D" o6) (F0_a_linkUtilization : Fld Z h0 a "com/example/weftmap/weftmap/sim/Summary" "linkUtilization" "D" o7) :
    MetFree l (⟨"com/example/weftmap/weftmap/sim/Summary", "<init>", "(IIIIDDDD)V"⟩ : MethodName) (head1 (Jvm.Cond.code (⟨"com/example/weftmap/weftmap/sim/Summary", "<init>", "(IIIIDDDD)V"⟩ : MethodName) prog_88_method_1_code 13 none :: ws) ({ frames := 2, cells := 0, slots := 0, locals := 24 } : Room)) (fun aa_ U => aa_ = #[(.ref a), (.int x0), (.int x1), (.int x2), (.int x3), (.double x4), (.double x5), (.double x6), (.double x7)] ∧ Z.Warmed39 U.vm ∧ U.heap = h0) (fun _ _ _ _ _ => True) (fun _ U o U' => ∃ v L, o = .returned v ∧ Q_sum Z a x0 x1 x2 x3 x4 x5 x6 x7 o0 o1 o2 o3 o4 o5 o6 o7 h0 n0 v U'.heap L ∧ FrameEnd U o U' L (({ frames := 2, cells := 0, slots := 0, locals := 24 } : Room)).cells (({ frames := 2, cells := 0, slots := 0, locals := 24 } : Room)).slots) := by
  refine Go.met (plainFor_of_name pn1) ?_
  intro p e s m below meth c s₁ hx hby hml hown hnm hret hlk hZ e0 X0
  have N0 := Fr.nil n0
  refine Go.cast (ef_sum m a x0 x1 x2 x3 x4 x5 x6 x7) ?_
  refine Go.st (U := (s₁.setTop (mkF m 1 #[.val (.ref a), .val (.int x0), .val (.int x1), .val (.int x2), .val (.int x3), .val (.double x4), .second, .val (.double x5), .second, .val (.double x6), .second, .val (.double x7), .second] [(.ref a)]))) (fun t_ k_ => XS.aloadN X0.here hx rfl (hb hby d1_0) rfl rfl k_) ?_
  refine Go.callI X0 hx hZ hown rfl (hw _ (List.mem_of_getElem? (i := 10) rfl)) (hw _ (List.mem_of_getElem? (i := 11) rfl)) (hw _ (List.mem_of_getElem? (i := 13) rfl)) (hw _ (List.mem_of_getElem? (i := 14) rfl)) (by decide) (rm_rec l Z a0 hw [] a h0 n0 Z0 ) e0 0 (by decide) (by decide) (g := (mkF m 1 #[.val (.ref a), .val (.int x0), .val (.int x1), .val (.int x2), .val (.int x3), .val (.double x4), .second, .val (.double x5), .second, .val (.double x6), .second, .val (.double x7), .second] [(.ref a)])) rfl (by rw [hml]; rfl) a [] [] rfl (lenOf pd0 rfl) rfl (by show 2 * 0 + _ ≤ _; exact Nat.le_of_eq rfl) (hb hby d1_1) (by decide) (by decide) ?_
  intro vi1 Ti1 Li1 hQi1 Xi1
  obtain ⟨rfl, Ni1, ei1⟩ := hQi1
  have Ni1 := Fr.app N0 Ni1
  show Go p e below s _ _ (Ti1.setTop (mkF m 4 #[.val (.ref a), .val (.int x0), .val (.int x1), .val (.int x2), .val (.int x3), .val (.double x4), .second, .val (.double x5), .second, .val (.double x6), .second, .val (.double x7), .second] []))
  refine Go.st (U := (Ti1.setTop (mkF m 5 #[.val (.ref a), .val (.int x0), .val (.int x1), .val (.int x2), .val (.int x3), .val (.double x4), .second, .val (.double x5), .second, .val (.double x6), .second, .val (.double x7), .second] [(.ref a)]))) (fun t_ k_ => XS.aloadN Xi1.here hx rfl (hb hby d1_4) rfl rfl k_) ?_
  refine Go.st (U := (Ti1.setTop (mkF m 6 #[.val (.ref a), .val (.int x0), .val (.int x1), .val (.int x2), .val (.int x3), .val (.double x4), .second, .val (.double x5), .second, .val (.double x6), .second, .val (.double x7), .second] [(.int x0), (.ref a)]))) (fun t_ k_ => XS.iloadN Xi1.here hx rfl (hb hby d1_5) rfl k_) ?_
  obtain ⟨Ti2, hi2, Xi2, ei2, Wi2, sti2⟩ := putF Xi1 hx hZ hown (host := "") (Or.inl (hw _ (List.mem_of_getElem? (i := 18) rfl))) Via.refl ei1 F0_a_arrived E0_a (Or.inr ⟨(hw _ (List.mem_of_getElem? (i := 19) rfl)), rfl, hnm⟩) (hw _ (List.mem_of_getElem? (i := 5) rfl)) (ty := .int) (by decide) rfl rfl (g := (mkF m 6 #[.val (.ref a), .val (.int x0), .val (.int x1), .val (.int x2), .val (.int x3), .val (.double x4), .second, .val (.double x5), .second, .val (.double x6), .second, .val (.double x7), .second] [(.int x0), (.ref a)])) rfl rfl (hb hby d1_6)
  have Ni2 := Fr.snoc Xi2 Ni1 ge_a
  have Zi2 : n0 ≤ hi2.size := by rw [Wi2.size]; exact Z0
  have Fi2_a_arrived := Fld.same Wi2 F0_a_arrived
  have Fi2_a_accepted := Fld.other Wi2 F0_a_accepted (Or.inr (slot_ne (Or.inr (hw _ (List.mem_of_getElem? (i := 21) rfl))) (Or.inr (hw _ (List.mem_of_getElem? (i := 19) rfl))) (by decide) (t := .int) (t' := .int) (by decide) (by decide)))
  have Fi2_a_rejectedNode := Fld.other Wi2 F0_a_rejectedNode (Or.inr (slot_ne (Or.inr (hw _ (List.mem_of_getElem? (i := 23) rfl))) (Or.inr (hw _ (List.mem_of_getElem? (i := 19) rfl))) (by decide) (t := .int) (t' := .int) (by decide) (by decide)))
  have Fi2_a_rejectedLink := Fld.other Wi2 F0_a_rejectedLink (Or.inr (slot_ne (Or.inr (hw _ (List.mem_of_getElem? (i := 25) rfl))) (Or.inr (hw _ (List.mem_of_getElem? (i := 19) rfl))) (by decide) (t := .int) (t' := .int) (by decide) (by decide)))
  have Fi2_a_revenue := Fld.other Wi2 F0_a_revenue (Or.inr (slot_ne (Or.inr (hw _ (List.mem_of_getElem? (i := 27) rfl))) (Or.inr (hw _ (List.mem_of_getElem? (i := 19) rfl))) (by decide) (t := .double) (t' := .int) (by decide) (by decide)))
  have Fi2_a_cost := Fld.other Wi2 F0_a_cost (Or.inr (slot_ne (Or.inr (hw _ (List.mem_of_getElem? (i := 29) rfl))) (Or.inr (hw _ (List.mem_of_getElem? (i := 19) rfl))) (by decide) (t := .double) (t' := .int) (by decide) (by decide)))
  have Fi2_a_nodeUtilization := Fld.other Wi2 F0_a_nodeUtilization (Or.inr (slot_ne (Or.inr (hw _ (List.mem_of_getElem? (i := 31) rfl))) (Or.inr (hw _ (List.mem_of_getElem? (i := 19) rfl))) (by decide) (t := .double) (t' := .int) (by decide) (by decide)))
  have Fi2_a_linkUtilization := Fld.other Wi2 F0_a_linkUtilization (Or.inr (slot_ne (Or.inr (hw _ (List.mem_of_getElem? (i := 33) rfl))) (Or.inr (hw _ (List.mem_of_getElem? (i := 19) rfl))) (by decide) (t := .double) (t' := .int) (by decide) (by decide)))
  have Ei2_a := Exa.wr Wi2 E0_a
  have Ki2 := Keep.wr (Keep.refl h0 [a]) Wi2 (Or.inl (List.mem_of_getElem? (i := 0) rfl))
  refine Go.st (U := (Ti2.setTop (mkF m 9 #[.val (.ref a), .val (.int x0), .val (.int x1), .val (.int x2), .val (.int x3), .val (.double x4), .second, .val (.double x5), .second, .val (.double x6), .second, .val (.double x7), .second] []))) sti2 ?_
  refine Go.st (U := (Ti2.setTop (mkF m 10 #[.val (.ref a), .val (.int x0), .val (.int x1), .val (.int x2), .val (.int x3), .val (.double x4), .second, .val (.double x5), .second, .val (.double x6), .second, .val (.double x7), .second] [(.ref a)]))) (fun t_ k_ => XS.aloadN Xi2.here hx rfl (hb hby d1_9) rfl rfl k_) ?_
  refine Go.st (U := (Ti2.setTop (mkF m 11 #[.val (.ref a), .val (.int x0), .val (.int x1), .val (.int x2), .val (.int x3), .val (.double x4), .second, .val (.double x5), .second, .val (.double x6), .second, .val (.double x7), .second] [(.int x1), (.ref a)]))) (fun t_ k_ => XS.iloadN Xi2.here hx rfl (hb hby d1_10) rfl k_) ?_
  obtain ⟨Ti3, hi3, Xi3, ei3, Wi3, sti3⟩ := putF Xi2 hx hZ hown (host := "") (Or.inl (hw _ (List.mem_of_getElem? (i := 20) rfl))) Via.refl ei2 Fi2_a_accepted Ei2_a (Or.inr ⟨(hw _ (List.mem_of_getElem? (i := 21) rfl)), rfl, hnm⟩) (hw _ (List.mem_of_getElem? (i := 5) rfl)) (ty := .int) (by decide) rfl rfl (g := (mkF m 11 #[.val (.ref a), .val (.int x0), .val (.int x1), .val (.int x2), .val (.int x3), .val (.double x4), .second, .val (.double x5), .second, .val (.double x6), .second, .val (.double x7), .second] [(.int x1), (.ref a)])) rfl rfl (hb hby d1_11)
  have Ni3 := Fr.snoc Xi3 Ni2 ge_a
  have Zi3 : n0 ≤ hi3.size := by rw [Wi3.size]; exact Zi2
  have Fi3_a_arrived := Fld.other Wi3 Fi2_a_arrived (Or.inr (slot_ne (Or.inr (hw _ (List.mem_of_getElem? (i := 19) rfl))) (Or.inr (hw _ (List.mem_of_getElem? (i := 21) rfl))) (by decide) (t := .int) (t' := .int) (by decide) (by decide)))
  have Fi3_a_accepted := Fld.same Wi3 Fi2_a_accepted
  have Fi3_a_rejectedNode := Fld.other Wi3 Fi2_a_rejectedNode (Or.inr (slot_ne (Or.inr (hw _ (List.mem_of_getElem? (i := 23) rfl))) (Or.inr (hw _ (List.mem_of_getElem? (i := 21) rfl))) (by decide) (t := .int) (t' := .int) (by decide) (by decide)))
  have Fi3_a_rejectedLink := Fld.other Wi3 Fi2_a_rejectedLink (Or.inr (slot_ne (Or.inr (hw _ (List.mem_of_getElem? (i := 25) rfl))) (Or.inr (hw _ (List.mem_of_getElem? (i := 21) rfl))) (by decide) (t := .int) (t' := .int) (by decide) (by decide)))
  have Fi3_a_revenue := Fld.other Wi3 Fi2_a_revenue (Or.inr (slot_ne (Or.inr (hw _ (List.mem_of_getElem? (i := 27) rfl))) (Or.inr (hw _ (List.mem_of_getElem? (i := 21) rfl))) (by decide) (t := .double) (t' := .int) (by decide) (by decide)))
  have Fi3_a_cost := Fld.other Wi3 Fi2_a_cost (Or.inr (slot_ne (Or.inr (hw _ (List.mem_of_getElem? (i := 29) rfl))) (Or.inr (hw _ (List.mem_of_getElem? (i := 21) rfl))) (by decide) (t := .double) (t' := .int) (by decide) (by decide)))
  have Fi3_a_nodeUtilization := Fld.other Wi3 Fi2_a_nodeUtilization (Or.inr (slot_ne (Or.inr (hw _ (List.mem_of_getElem? (i := 31) rfl))) (Or.inr (hw _ (List.mem_of_getElem? (i := 21) rfl))) (by decide) (t := .double) (t' := .int) (by decide) (by decide)))
  have Fi3_a_linkUtilization := Fld.other Wi3 Fi2_a_linkUtilization (Or.inr (slot_ne (Or.inr (hw _ (List.mem_of_getElem? (i := 33) rfl))) (Or.inr (hw _ (List.mem_of_getElem? (i := 21) rfl))) (by decide) (t := .double) (t' := .int) (by decide) (by decide)))
  have Ei3_a := Exa.wr Wi3 Ei2_a
  have Ki3 := Keep.wr Ki2 Wi3 (Or.inl (List.mem_of_getElem? (i := 0) rfl))
  refine Go.st (U := (Ti3.setTop (mkF m 14 #[.val (.ref a), .val (.int x0), .val (.int x1), .val (.int x2), .val (.int x3), .val (.double x4), .second, .val (.double x5), .second, .val (.double x6), .second, .val (.double x7), .second] []))) sti3 ?_
  refine Go.st (U := (Ti3.setTop (mkF m 15 #[.val (.ref a), .val (.int x0), .val (.int x1), .val (.int x2), .val (.int x3), .val (.double x4), .second, .val (.double x5), .second, .val (.double x6), .second, .val (.double x7), .second] [(.ref a)]))) (fun t_ k_ => XS.aloadN Xi3.here hx rfl (hb hby d1_14) rfl rfl k_) ?_
  refine Go.st (U := (Ti3.setTop (mkF m 16 #[.val (.ref a), .val (.int x0), .val (.int x1), .val (.int x2), .val (.int x3), .val (.double x4), .second, .val (.double x5), .second, .val (.double x6), .second, .val (.double x7), .second] [(.int x2), (.ref a)]))) (fun t_ k_ => XS.iloadN Xi3.here hx rfl (hb hby d1_15) rfl k_) ?_
  obtain ⟨Ti4, hi4, Xi4, ei4, Wi4, sti4⟩ := putF Xi3 hx hZ hown (host := "") (Or.inl (hw _ (List.mem_of_getElem? (i := 22) rfl))) Via.refl ei3 Fi3_a_rejectedNode Ei3_a (Or.inr ⟨(hw _ (List.mem_of_getElem? (i := 23) rfl)), rfl, hnm⟩) (hw _ (List.mem_of_getElem? (i := 5) rfl)) (ty := .int) (by decide) rfl rfl (g := (mkF m 16 #[.val (.ref a), .val (.int x0), .val (.int x1), .val (.int x2), .val (.int x3), .val (.double x4), .second, .val (.double x5), .second, .val (.double x6), .second, .val (.double x7), .second] [(.int x2), (.ref a)])) rfl rfl (hb hby d1_16)
  have Ni4 := Fr.snoc Xi4 Ni3 ge_a
  have Zi4 : n0 ≤ hi4.size := by rw [Wi4.size]; exact Zi3
  have Fi4_a_arrived := Fld.other Wi4 Fi3_a_arrived (Or.inr (slot_ne (Or.inr (hw _ (List.mem_of_getElem? (i := 19) rfl))) (Or.inr (hw _ (List.mem_of_getElem? (i := 23) rfl))) (by decide) (t := .int) (t' := .int) (by decide) (by decide)))
  have Fi4_a_accepted := Fld.other Wi4 Fi3_a_accepted (Or.inr (slot_ne (Or.inr (hw _ (List.mem_of_getElem? (i := 21) rfl))) (Or.inr (hw _ (List.mem_of_getElem? (i := 23) rfl))) (by decide) (t := .int) (t' := .int) (by decide) (by decide)))
  have Fi4_a_rejectedNode := Fld.same Wi4 Fi3_a_rejectedNode
  have Fi4_a_rejectedLink := Fld.other Wi4 Fi3_a_rejectedLink (Or.inr (slot_ne (Or.inr (hw _ (List.mem_of_getElem? (i := 25) rfl))) (Or.inr (hw _ (List.mem_of_getElem? (i := 23) rfl))) (by decide) (t := .int) (t' := .int) (by decide) (by decide)))
  have Fi4_a_revenue := Fld.other Wi4 Fi3_a_revenue (Or.inr (slot_ne (Or.inr (hw _ (List.mem_of_getElem? (i := 27) rfl))) (Or.inr (hw _ (List.mem_of_getElem? (i := 23) rfl))) (by decide) (t := .double) (t' := .int) (by decide) (by decide)))
  have Fi4_a_cost := Fld.other Wi4 Fi3_a_cost (Or.inr (slot_ne (Or.inr (hw _ (List.mem_of_getElem? (i := 29) rfl))) (Or.inr (hw _ (List.mem_of_getElem? (i := 23) rfl))) (by decide) (t := .double) (t' := .int) (by decide) (by decide)))
  have Fi4_a_nodeUtilization := Fld.other Wi4 Fi3_a_nodeUtilization (Or.inr (slot_ne (Or.inr (hw _ (List.mem_of_getElem? (i := 31) rfl))) (Or.inr (hw _ (List.mem_of_getElem? (i := 23) rfl))) (by decide) (t := .double) (t' := .int) (by decide) (by decide)))
  have Fi4_a_linkUtilization := Fld.other Wi4 Fi3_a_linkUtilization (Or.inr (slot_ne (Or.inr (hw _ (List.mem_of_getElem? (i := 33) rfl))) (Or.inr (hw _ (List.mem_of_getElem? (i := 23) rfl))) (by decide) (t := .double) (t' := .int) (by decide) (by decide)))
  have Ei4_a := Exa.wr Wi4 Ei3_a
  have Ki4 := Keep.wr Ki3 Wi4 (Or.inl (List.mem_of_getElem? (i := 0) rfl))
  refine Go.st (U := (Ti4.setTop (mkF m 19 #[.val (.ref a), .val (.int x0), .val (.int x1), .val (.int x2), .val (.int x3), .val (.double x4), .second, .val (.double x5), .second, .val (.double x6), .second, .val (.double x7), .second] []))) sti4 ?_
  refine Go.st (U := (Ti4.setTop (mkF m 20 #[.val (.ref a), .val (.int x0), .val (.int x1), .val (.int x2), .val (.int x3), .val (.double x4), .second, .val (.double x5), .second, .val (.double x6), .second, .val (.double x7), .second] [(.ref a)]))) (fun t_ k_ => XS.aloadN Xi4.here hx rfl (hb hby d1_19) rfl rfl k_) ?_
  refine Go.st (U := (Ti4.setTop (mkF m 22 #[.val (.ref a), .val (.int x0), .val (.int x1), .val (.int x2), .val (.int x3), .val (.double x4), .second, .val (.double x5), .second, .val (.double x6), .second, .val (.double x7), .second] [(.int x3), (.ref a)]))) (fun t_ k_ => XS.iload Xi4.here hx rfl (hb hby d1_20) rfl k_) ?_
  obtain ⟨Ti5, hi5, Xi5, ei5, Wi5, sti5⟩ := putF Xi4 hx hZ hown (host := "") (Or.inl (hw _ (List.mem_of_getElem? (i := 24) rfl))) Via.refl ei4 Fi4_a_rejectedLink Ei4_a (Or.inr ⟨(hw _ (List.mem_of_getElem? (i := 25) rfl)), rfl, hnm⟩) (hw _ (List.mem_of_getElem? (i := 5) rfl)) (ty := .int) (by decide) rfl rfl (g := (mkF m 22 #[.val (.ref a), .val (.int x0), .val (.int x1), .val (.int x2), .val (.int x3), .val (.double x4), .second, .val (.double x5), .second, .val (.double x6), .second, .val (.double x7), .second] [(.int x3), (.ref a)])) rfl rfl (hb hby d1_22)
  have Ni5 := Fr.snoc Xi5 Ni4 ge_a
  have Zi5 : n0 ≤ hi5.size := by rw [Wi5.size]; exact Zi4
  have Fi5_a_arrived := Fld.other Wi5 Fi4_a_arrived (Or.inr (slot_ne (Or.inr (hw _ (List.mem_of_getElem? (i := 19) rfl))) (Or.inr (hw _ (List.mem_of_getElem? (i := 25) rfl))) (by decide) (t := .int) (t' := .int) (by decide) (by decide)))
  have Fi5_a_accepted := Fld.other Wi5 Fi4_a_accepted (Or.inr (slot_ne (Or.inr (hw _ (List.mem_of_getElem? (i := 21) rfl))) (Or.inr (hw _ (List.mem_of_getElem? (i := 25) rfl))) (by decide) (t := .int) (t' := .int) (by decide) (by decide)))
  have Fi5_a_rejectedNode := Fld.other Wi5 Fi4_a_rejectedNode (Or.inr (slot_ne (Or.inr (hw _ (List.mem_of_getElem? (i := 23) rfl))) (Or.inr (hw _ (List.mem_of_getElem? (i := 25) rfl))) (by decide) (t := .int) (t' := .int) (by decide) (by decide)))
  have Fi5_a_rejectedLink := Fld.same Wi5 Fi4_a_rejectedLink
  have Fi5_a_revenue := Fld.other Wi5 Fi4_a_revenue (Or.inr (slot_ne (Or.inr (hw _ (List.mem_of_getElem? (i := 27) rfl))) (Or.inr (hw _ (List.mem_of_getElem? (i := 25) rfl))) (by decide) (t := .double) (t' := .int) (by decide) (by decide)))
  have Fi5_a_cost := Fld.other Wi5 Fi4_a_cost (Or.inr (slot_ne (Or.inr (hw _ (List.mem_of_getElem? (i := 29) rfl))) (Or.inr (hw _ (List.mem_of_getElem? (i := 25) rfl))) (by decide) (t := .double) (t' := .int) (by decide) (by decide)))
  have Fi5_a_nodeUtilization := Fld.other Wi5 Fi4_a_nodeUtilization (Or.inr (slot_ne (Or.inr (hw _ (List.mem_of_getElem? (i := 31) rfl))) (Or.inr (hw _ (List.mem_of_getElem? (i := 25) rfl))) (by decide) (t := .double) (t' := .int) (by decide) (by decide)))
  have Fi5_a_linkUtilization := Fld.other Wi5 Fi4_a_linkUtilization (Or.inr (slot_ne (Or.inr (hw _ (List.mem_of_getElem? (i := 33) rfl))) (Or.inr (hw _ (List.mem_of_getElem? (i := 25) rfl))) (by decide) (t := .double) (t' := .int) (by decide) (by decide)))
  have Ei5_a := Exa.wr Wi5 Ei4_a
  have Ki5 := Keep.wr Ki4 Wi5 (Or.inl (List.mem_of_getElem? (i := 0) rfl))
  refine Go.st (U := (Ti5.setTop (mkF m 25 #[.val (.ref a), .val (.int x0), .val (.int x1), .val (.int x2), .val (.int x3), .val (.double x4), .second, .val (.double x5), .second, .val (.double x6), .second, .val (.double x7), .second] []))) sti5 ?_
  refine Go.st (U := (Ti5.setTop (mkF m 26 #[.val (.ref a), .val (.int x0), .val (.int x1), .val (.int x2), .val (.int x3), .val (.double x4), .second, .val (.double x5), .second, .val (.double x6), .second, .val (.double x7), .second] [(.ref a)]))) (fun t_ k_ => XS.aloadN Xi5.here hx rfl (hb hby d1_25) rfl rfl k_) ?_
  refine Go.st (U := (Ti5.setTop (mkF m 28 #[.val (.ref a), .val (.int x0), .val (.int x1), .val (.int x2), .val (.int x3), .val (.double x4), .second, .val (.double x5), .second, .val (.double x6), .second, .val (.double x7), .second] [(.double x4), (.ref a)]))) (fun t_ k_ => XS.dload Xi5.here hx rfl (hb hby d1_26) rfl k_) ?_
  obtain ⟨Ti6, hi6, Xi6, ei6, Wi6, sti6⟩ := putF Xi5 hx hZ hown (host := "") (Or.inl (hw _ (List.mem_of_getElem? (i := 26) rfl))) Via.refl ei5 Fi5_a_revenue Ei5_a (Or.inr ⟨(hw _ (List.mem_of_getElem? (i := 27) rfl)), rfl, hnm⟩) (hw _ (List.mem_of_getElem? (i := 5) rfl)) (ty := .double) (by decide) rfl rfl (g := (mkF m 28 #[.val (.ref a), .val (.int x0), .val (.int x1), .val (.int x2), .val (.int x3), .val (.double x4), .second, .val (.double x5), .second, .val (.double x6), .second, .val (.double x7), .second] [(.double x4), (.ref a)])) rfl rfl (hb hby d1_28)
  have Ni6 := Fr.snoc Xi6 Ni5 ge_a
  have Zi6 : n0 ≤ hi6.size := by rw [Wi6.size]; exact Zi5
  have Fi6_a_arrived := Fld.other Wi6 Fi5_a_arrived (Or.inr (slot_ne (Or.inr (hw _ (List.mem_of_getElem? (i := 19) rfl))) (Or.inr (hw _ (List.mem_of_getElem? (i := 27) rfl))) (by decide) (t := .int) (t' := .double) (by decide) (by decide)))
  have Fi6_a_accepted := Fld.other Wi6 Fi5_a_accepted (Or.inr (slot_ne (Or.inr (hw _ (List.mem_of_getElem? (i := 21) rfl))) (Or.inr (hw _ (List.mem_of_getElem? (i := 27) rfl))) (by decide) (t := .int) (t' := .double) (by decide) (by decide)))
  have Fi6_a_rejectedNode := Fld.other Wi6 Fi5_a_rejectedNode (Or.inr (slot_ne (Or.inr (hw _ (List.mem_of_getElem? (i := 23) rfl))) (Or.inr (hw _ (List.mem_of_getElem? (i := 27) rfl))) (by decide) (t := .int) (t' := .double) (by decide) (by decide)))
  have Fi6_a_rejectedLink := Fld.other Wi6 Fi5_a_rejectedLink (Or.inr (slot_ne (Or.inr (hw _ (List.mem_of_getElem? (i := 25) rfl))) (Or.inr (hw _ (List.mem_of_getElem? (i := 27) rfl))) (by decide) (t := .int) (t' := .double) (by decide) (by decide)))
  have Fi6_a_revenue := Fld.same Wi6 Fi5_a_revenue
  have Fi6_a_cost := Fld.other Wi6 Fi5_a_cost (Or.inr (slot_ne (Or.inr (hw _ (List.mem_of_getElem? (i := 29) rfl))) (Or.inr (hw _ (List.mem_of_getElem? (i := 27) rfl))) (by decide) (t := .double) (t' := .double) (by decide) (by decide)))
  have Fi6_a_nodeUtilization := Fld.other Wi6 Fi5_a_nodeUtilization (Or.inr (slot_ne (Or.inr (hw _ (List.mem_of_getElem? (i := 31) rfl))) (Or.inr (hw _ (List.mem_of_getElem? (i := 27) rfl))) (by decide) (t := .double) (t' := .double) (by decide) (by decide)))
  have Fi6_a_linkUtilization := Fld.other Wi6 Fi5_a_linkUtilization (Or.inr (slot_ne (Or.inr (hw _ (List.mem_of_getElem? (i := 33) rfl))) (Or.inr (hw _ (List.mem_of_getElem? (i := 27) rfl))) (by decide) (t := .double) (t' := .double) (by decide) (by decide)))
  have Ei6_a := Exa.wr Wi6 Ei5_a
  have Ki6 := Keep.wr Ki5 Wi6 (Or.inl (List.mem_of_getElem? (i := 0) rfl))
  refine Go.st (U := (Ti6.setTop (mkF m 31 #[.val (.ref a), .val (.int x0), .val (.int x1), .val (.int x2), .val (.int x3), .val (.double x4), .second, .val (.double x5), .second, .val (.double x6), .second, .val (.double x7), .second] []))) sti6 ?_
  refine Go.st (U := (Ti6.setTop (mkF m 32 #[.val (.ref a), .val (.int x0), .val (.int x1), .val (.int x2), .val (.int x3), .val (.double x4), .second, .val (.double x5), .second, .val (.double x6), .second, .val (.double x7), .second] [(.ref a)]))) (fun t_ k_ => XS.aloadN Xi6.here hx rfl (hb hby d1_31) rfl rfl k_) ?_
  refine Go.st (U := (Ti6.setTop (mkF m 34 #[.val (.ref a), .val (.int x0), .val (.int x1), .val (.int x2), .val (.int x3), .val (.double x4), .second, .val (.double x5), .second, .val (.double x6), .second, .val (.double x7), .second] [(.double x5), (.ref a)]))) (fun t_ k_ => XS.dload Xi6.here hx rfl (hb hby d1_32) rfl k_) ?_
  obtain ⟨Ti7, hi7, Xi7, ei7, Wi7, sti7⟩ := putF Xi6 hx hZ hown (host := "") (Or.inl (hw _ (List.mem_of_getElem? (i := 28) rfl))) Via.refl ei6 Fi6_a_cost Ei6_a (Or.inr ⟨(hw _ (List.mem_of_getElem? (i := 29) rfl)), rfl, hnm⟩) (hw _ (List.mem_of_getElem? (i := 5) rfl)) (ty := .double) (by decide) rfl rfl (g := (mkF m 34 #[.val (.ref a), .val (.int x0), .val (.int x1), .val (.int x2), .val (.int x3), .val (.double x4), .second, .val (.double x5), .second, .val (.double x6), .second, .val (.double x7), .second] [(.double x5), (.ref a)])) rfl rfl (hb hby d1_34)
  have Ni7 := Fr.snoc Xi7 Ni6 ge_a
  have Zi7 : n0 ≤ hi7.size := by rw [Wi7.size]; exact Zi6
  have Fi7_a_arrived := Fld.other Wi7 Fi6_a_arrived (Or.inr (slot_ne (Or.inr (hw _ (List.mem_of_getElem? (i := 19) rfl))) (Or.inr (hw _ (List.mem_of_getElem? (i := 29) rfl))) (by decide) (t := .int) (t' := .double) (by decide) (by decide)))
  have Fi7_a_accepted := Fld.other Wi7 Fi6_a_accepted (Or.inr (slot_ne (Or.inr (hw _ (List.mem_of_getElem? (i := 21) rfl))) (Or.inr (hw _ (List.mem_of_getElem? (i := 29) rfl))) (by decide) (t := .int) (t' := .double) (by decide) (by decide)))
  have Fi7_a_rejectedNode := Fld.other Wi7 Fi6_a_rejectedNode (Or.inr (slot_ne (Or.inr (hw _ (List.mem_of_getElem? (i := 23) rfl))) (Or.inr (hw _ (List.mem_of_getElem? (i := 29) rfl))) (by decide) (t := .int) (t' := .double) (by decide) (by decide)))
  have Fi7_a_rejectedLink := Fld.other Wi7 Fi6_a_rejectedLink (Or.inr (slot_ne (Or.inr (hw _ (List.mem_of_getElem? (i := 25) rfl))) (Or.inr (hw _ (List.mem_of_getElem? (i := 29) rfl))) (by decide) (t := .int) (t' := .double) (by decide) (by decide)))
  have Fi7_a_revenue := Fld.other Wi7 Fi6_a_revenue (Or.inr (slot_ne (Or.inr (hw _ (List.mem_of_getElem? (i := 27) rfl))) (Or.inr (hw _ (List.mem_of_getElem? (i := 29) rfl))) (by decide) (t := .double) (t' := .double) (by decide) (by decide)))
  have Fi7_a_cost := Fld.same Wi7 Fi6_a_cost
  have Fi7_a_nodeUtilization := Fld.other Wi7 Fi6_a_nodeUtilization (Or.inr (slot_ne (Or.inr (hw _ (List.mem_of_getElem? (i := 31) rfl))) (Or.inr (hw _ (List.mem_of_getElem? (i := 29) rfl))) (by decide) (t := .double) (t' := .double) (by decide) (by decide)))
  have Fi7_a_linkUtilization := Fld.other Wi7 Fi6_a_linkUtilization (Or.inr (slot_ne (Or.inr (hw _ (List.mem_of_getElem? (i := 33) rfl))) (Or.inr (hw _ (List.mem_of_getElem? (i := 29) rfl))) (by decide) (t := .double) (t' := .double) (by decide) (by decide)))
  have Ei7_a := Exa.wr Wi7 Ei6_a
  have Ki7 := Keep.wr Ki6 Wi7 (Or.inl (List.mem_of_getElem? (i := 0) rfl))
  refine Go.st (U := (Ti7.setTop (mkF m 37 #[.val (.ref a), .val (.int x0), .val (.int x1), .val (.int x2), .val (.int x3), .val (.double x4), .second, .val (.double x5), .second, .val (.double x6), .second, .val (.double x7), .second] []))) sti7 ?_
  refine Go.st (U := (Ti7.setTop (mkF m 38 #[.val (.ref a), .val (.int x0), .val (.int x1), .val (.int x2), .val (.int x3), .val (.double x4), .second, .val (.double x5), .second, .val (.double x6), .second, .val (.double x7), .second] [(.ref a)]))) (fun t_ k_ => XS.aloadN Xi7.here hx rfl (hb hby d1_37) rfl rfl k_) ?_
  refine Go.st (U := (Ti7.setTop (mkF m 40 #[.val (.ref a), .val (.int x0), .val (.int x1), .val (.int x2), .val (.int x3), .val (.double x4), .second, .val (.double x5), .second, .val (.double x6), .second, .val (.double x7), .second] [(.double x6), (.ref a)]))) (fun t_ k_ => XS.dload Xi7.here hx rfl (hb hby d1_38) rfl k_) ?_
  obtain ⟨Ti8, hi8, Xi8, ei8, Wi8, sti8⟩ := putF Xi7 hx hZ hown (host := "") (Or.inl (hw _ (List.mem_of_getElem? (i := 30) rfl))) Via.refl ei7 Fi7_a_nodeUtilization Ei7_a (Or.inr ⟨(hw _ (List.mem_of_getElem? (i := 31) rfl)), rfl, hnm⟩) (hw _ (List.mem_of_getElem? (i := 5) rfl)) (ty := .double) (by decide) rfl rfl (g := (mkF m 40 #[.val (.ref a), .val (.int x0), .val (.int x1), .val (.int x2), .val (.int x3), .val (.double x4), .second, .val (.double x5), .second, .val (.double x6), .second, .val (.double x7), .second] [(.double x6), (.ref a)])) rfl rfl (hb hby d1_40)
  have Ni8 := Fr.snoc Xi8 Ni7 ge_a
  have Zi8 : n0 ≤ hi8.size := by rw [Wi8.size]; exact Zi7
  have Fi8_a_arrived := Fld.other Wi8 Fi7_a_arrived (Or.inr (slot_ne (Or.inr (hw _ (List.mem_of_getElem? (i := 19) rfl))) (Or.inr (hw _ (List.mem_of_getElem? (i := 31) rfl))) (by decide) (t := .int) (t' := .double) (by decide) (by decide)))
  have Fi8_a_accepted := Fld.other Wi8 Fi7_a_accepted (Or.inr (slot_ne (Or.inr (hw _ (List.mem_of_getElem? (i := 21) rfl))) (Or.inr (hw _ (List.mem_of_getElem? (i := 31) rfl))) (by decide) (t := .int) (t' := .double) (by decide) (by decide)))
  have Fi8_a_rejectedNode := Fld.other Wi8 Fi7_a_rejectedNode (Or.inr (slot_ne (Or.inr (hw _ (List.mem_of_getElem? (i := 23) rfl))) (Or.inr (hw _ (List.mem_of_getElem? (i := 31) rfl))) (by decide) (t := .int) (t' := .double) (by decide) (by decide)))
  have Fi8_a_rejectedLink := Fld.other Wi8 Fi7_a_rejectedLink (Or.inr (slot_ne (Or.inr (hw _ (List.mem_of_getElem? (i := 25) rfl))) (Or.inr (hw _ (List.mem_of_getElem? (i := 31) rfl))) (by decide) (t := .int) (t' := .double) (by decide) (by decide)))
  have Fi8_a_revenue := Fld.other Wi8 Fi7_a_revenue (Or.inr (slot_ne (Or.inr (hw _ (List.mem_of_getElem? (i := 27) rfl))) (Or.inr (hw _ (List.mem_of_getElem? (i := 31) rfl))) (by decide) (t := .double) (t' := .double) (by decide) (by decide)))
  have Fi8_a_cost := Fld.other Wi8 Fi7_a_cost (Or.inr (slot_ne (Or.inr (hw _ (List.mem_of_getElem? (i := 29) rfl))) (Or.inr (hw _ (List.mem_of_getElem? (i := 31) rfl))) (by decide) (t := .double) (t' := .double) (by decide) (by decide)))
  have Fi8_a_nodeUtilization := Fld.same Wi8 Fi7_a_nodeUtilization
  have Fi8_a_linkUtilization := Fld.other Wi8 Fi7_a_linkUtilization (Or.inr (slot_ne (Or.inr (hw _ (List.mem_of_getElem? (i := 33) rfl))) (Or.inr (hw _ (List.mem_of_getElem? (i := 31) rfl))) (by decide) (t := .double) (t' := .double) (by decide) (by decide)))
  have Ei8_a := Exa.wr Wi8 Ei7_a
  have Ki8 := Keep.wr Ki7 Wi8 (Or.inl (List.mem_of_getElem? (i := 0) rfl))
  refine Go.st (U := (Ti8.setTop (mkF m 43 #[.val (.ref a), .val (.int x0), .val (.int x1), .val (.int x2), .val (.int x3), .val (.double x4), .second, .val (.double x5), .second, .val (.double x6), .second, .val (.double x7), .second] []))) sti8 ?_
  refine Go.st (U := (Ti8.setTop (mkF m 44 #[.val (.ref a), .val (.int x0), .val (.int x1), .val (.int x2), .val (.int x3), .val (.double x4), .second, .val (.double x5), .second, .val (.double x6), .second, .val (.double x7), .second] [(.ref a)]))) (fun t_ k_ => XS.aloadN Xi8.here hx rfl (hb hby d1_43) rfl rfl k_) ?_
  refine Go.st (U := (Ti8.setTop (mkF m 46 #[.val (.ref a), .val (.int x0), .val (.int x1), .val (.int x2), .val (.int x3), .val (.double x4), .second, .val (.double x5), .second, .val (.double x6), .second, .val (.double x7), .second] [(.double x7), (.ref a)]))) (fun t_ k_ => XS.dload Xi8.here hx rfl (hb hby d1_44) rfl k_) ?_
  obtain ⟨Ti9, hi9, Xi9, ei9, Wi9, sti9⟩ := putF Xi8 hx hZ hown (host := "") (Or.inl (hw _ (List.mem_of_getElem? (i := 32) rfl))) Via.refl ei8 Fi8_a_linkUtilization Ei8_a (Or.inr ⟨(hw _ (List.mem_of_getElem? (i := 33) rfl)), rfl, hnm⟩) (hw _ (List.mem_of_getElem? (i := 5) rfl)) (ty := .double) (by decide) rfl rfl (g := (mkF m 46 #[.val (.ref a), .val (.int x0), .val (.int x1), .val (.int x2), .val (.int x3), .val (.double x4), .second, .val (.double x5), .second, .val (.double x6), .second, .val (.double x7), .second] [(.double x7), (.ref a)])) rfl rfl (hb hby d1_46)
  have Ni9 := Fr.snoc Xi9 Ni8 ge_a
  have Zi9 : n0 ≤ hi9.size := by rw [Wi9.size]; exact Zi8
  have Fi9_a_arrived := Fld.other Wi9 Fi8_a_arrived (Or.inr (slot_ne (Or.inr (hw _ (List.mem_of_getElem? (i := 19) rfl))) (Or.inr (hw _ (List.mem_of_getElem? (i := 33) rfl))) (by decide) (t := .int) (t' := .double) (by decide) (by decide)))
  have Fi9_a_accepted := Fld.other Wi9 Fi8_a_accepted (Or.inr (slot_ne (Or.inr (hw _ (List.mem_of_getElem? (i := 21) rfl))) (Or.inr (hw _ (List.mem_of_getElem? (i := 33) rfl))) (by decide) (t := .int) (t' := .double) (by decide) (by decide)))
  have Fi9_a_rejectedNode := Fld.other Wi9 Fi8_a_rejectedNode (Or.inr (slot_ne (Or.inr (hw _ (List.mem_of_getElem? (i := 23) rfl))) (Or.inr (hw _ (List.mem_of_getElem? (i := 33) rfl))) (by decide) (t := .int) (t' := .double) (by decide) (by decide)))
  have Fi9_a_rejectedLink := Fld.other Wi9 Fi8_a_rejectedLink (Or.inr (slot_ne (Or.inr (hw _ (List.mem_of_getElem? (i := 25) rfl))) (Or.inr (hw _ (List.mem_of_getElem? (i := 33) rfl))) (by decide) (t := .int) (t' := .double) (by decide) (by decide)))
  have Fi9_a_revenue := Fld.other Wi9 Fi8_a_revenue (Or.inr (slot_ne (Or.inr (hw _ (List.mem_of_getElem? (i := 27) rfl))) (Or.inr (hw _ (List.mem_of_getElem? (i := 33) rfl))) (by decide) (t := .double) (t' := .double) (by decide) (by decide)))
  have Fi9_a_cost := Fld.other Wi9 Fi8_a_cost (Or.inr (slot_ne (Or.inr (hw _ (List.mem_of_getElem? (i := 29) rfl))) (Or.inr (hw _ (List.mem_of_getElem? (i := 33) rfl))) (by decide) (t := .double) (t' := .double) (by decide) (by decide)))
  have Fi9_a_nodeUtilization := Fld.other Wi9 Fi8_a_nodeUtilization (Or.inr (slot_ne (Or.inr (hw _ (List.mem_of_getElem? (i := 31) rfl))) (Or.inr (hw _ (List.mem_of_getElem? (i := 33) rfl))) (by decide) (t := .double) (t' := .double) (by decide) (by decide)))
  have Fi9_a_linkUtilization := Fld.same Wi9 Fi8_a_linkUtilization
  have Ei9_a := Exa.wr Wi9 Ei8_a
  have Ki9 := Keep.wr Ki8 Wi9 (Or.inl (List.mem_of_getElem? (i := 0) rfl))
  refine Go.st (U := (Ti9.setTop (mkF m 49 #[.val (.ref a), .val (.int x0), .val (.int x1), .val (.int x2), .val (.int x3), .val (.double x4), .second, .val (.double x5), .second, .val (.double x6), .second, .val (.double x7), .second] []))) sti9 ?_
  refine Go.retV (st := []) Xi9 hx hlk hret (hb hby d1_49) (by decide) (by decide) ?_
  show Q_sum Z a x0 x1 x2 x3 x4 x5 x6 x7 o0 o1 o2 o3 o4 o5 o6 o7 h0 n0 _ Ti9.heap _
  rw [ei9]
  exact ⟨rfl, Ni9, Ki9, Ei9_a, Fi9_a_arrived, Fi9_a_accepted, Fi9_a_rejectedNode, Fi9_a_rejectedLink, Fi9_a_revenue, Fi9_a_cost, Fi9_a_nodeUtilization, Fi9_a_linkUtilization⟩
theorem d4_0 : decode prog_88_method_3_code 0 = .ok (.aload_n 0, 1) := by decide +kernel
theorem d4_1 : decode prog_88_method_3_code 1 = .ok (.getfield 7, 3) := by decide +kernel
theorem d4_4 : decode prog_88_method_3_code 4 = .ok (.ifCond .ne 7, 3) := by decide +kernel
theorem d4_7 : decode prog_88_method_3_code 7 = .ok (.dconst 0, 1) := by decide +kernel
theorem d4_8 : decode prog_88_method_3_code 8 = .ok (.goto 14, 3) := by decide +kernel
theorem d4_11 : decode prog_88_method_3_code 11 = .ok (.aload_n 0, 1) := by decide +kernel
theorem d4_12 : decode prog_88_method_3_code 12 = .ok (.getfield 13, 3) := by decide +kernel
theorem d4_15 : decode prog_88_method_3_code 15 = .ok (.i2d, 1) := by decide +kernel
theorem d4_16 : decode prog_88_method_3_code 16 = .ok (.aload_n 0, 1) := by decide +kernel
theorem d4_17 : decode prog_88_method_3_code 17 = .ok (.getfield 7, 3) := by decide +kernel
theorem d4_20 : decode prog_88_method_3_code 20 = .ok (.i2d, 1) := by decide +kernel
theorem d4_21 : decode prog_88_method_3_code 21 = .ok (.ddiv, 1) := by decide +kernel
theorem d4_22 : decode prog_88_method_3_code 22 = .ok (.dreturn, 1) := by decide +kernel
def Q_ar0 (Z : State) (a : Addr) (r : Int32) (k : Int32) (h0 : Heap) (n0 : Nat) (v : Option Value) (h : Heap) (L : List Loc) : Prop := v = some (.double (0 : UInt64)) ∧ Fr n0 L ∧ h = h0
theorem ef_ar0 (m : MethodId) (y0 : Addr) : entryFrame m #[(.ref y0)] 1 = mkF m 0 #[.val (.ref y0)] [] := by first | (simp [entryFrame, mkF, argsToLocals, Value.category, maxLocals]; done) | rfl
set_option maxRecDepth 65536 in
set_option maxHeartbeats 40000000 in
theorem rm_ar0 (l : Launch) (Z : State) (a0 : Array Value) (hw : ∀ d ∈ tables_1, d.before a0 Z = true) (ws : List Jvm.Cond) (a : Addr) (r : Int32) (k : Int32) (h0 : Heap) (n0 : Nat) (Z0 : n0 ≤ h0.size) (F0_a_arrived : Fld Z h0 a "com/example/weftmap/weftmap/sim/Summary" "arrived" "I" (.int r)) (F0_a_accepted : Fld Z h0 a "com/example/weftmap/weftmap/sim/Summary" "accepted" "I" (.int k)) (c4 : r = (0 : Int32)) :
    MetFree l (⟨"com/example/weftmap/weftmap/sim/Summary", "acceptanceRatio", "()D"⟩ : MethodName) (head1 (Jvm.Cond.code (⟨"com/example/weftmap/weftmap/sim/Summary", "acceptanceRatio", "()D"⟩ : MethodName) prog_88_method_3_code 1 (some .double) :: ws) ({ frames := 0, cells := 0, slots := 0, locals := 0 } : Room)) (fun aa_ U => aa_ = #[(.ref a)] ∧ Z.Warmed39 U.vm ∧ U.heap = h0) (fun _ _ _ _ _ => True) (fun _ U o U' => ∃ v L, o = .returned v ∧ Q_ar0 Z a r k h0 n0 v U'.heap L ∧ FrameEnd U o U' L (({ frames := 0, cells := 0, slots := 0, locals := 0 } : Room)).cells (({ frames := 0, cells := 0, slots := 0, locals := 0 } : Room)).slots) := by
  refine Go.met (plainFor_of_name pn1) ?_
  intro p e s m below meth c s₁ hx hby hml hown hnm hret hlk hZ e0 X0
  have N0 := Fr.nil n0
  refine Go.cast (ef_ar0 m a) ?_
  refine Go.st (U := (s₁.setTop (mkF m 1 #[.val (.ref a)] [(.ref a)]))) (fun t_ k_ => XS.aloadN X0.here hx rfl (hb hby d4_0) rfl rfl k_) ?_
  obtain ⟨Ti1, Xi1, ei1, sti1⟩ := getF X0 hx hZ hown (host := "") (Or.inl (hw _ (List.mem_of_getElem? (i := 18) rfl))) Via.refl e0 F0_a_arrived (g := (mkF m 1 #[.val (.ref a)] [(.ref a)])) rfl rfl (hb hby d4_1)
  refine Go.st (U := (Ti1.setTop (mkF m 4 #[.val (.ref a)] [(.int r)]))) sti1 ?_
  refine Go.st (U := (Ti1.setTop (mkF m 7 #[.val (.ref a)] []))) (fun t_ k_ => XS.ifNo Xi1.here hx rfl (hb hby d4_4) rfl ((if0 _ _).trans (teq c4).2) k_) ?_
  refine Go.st (U := (Ti1.setTop (mkF m 8 #[.val (.ref a)] [(.double (0 : UInt64))]))) (fun t_ k_ => XS.dconst0 Xi1.here hx rfl (hb hby d4_7) rfl k_) ?_
  refine Go.st (U := (Ti1.setTop (mkF m 22 #[.val (.ref a)] [(.double (0 : UInt64))]))) (fun t_ k_ => XS.goto Xi1.here hx rfl (pc0 := 8) (pc' := 22) rfl (hb hby d4_8) (by decide) (by decide) k_) ?_
  refine Go.retD Xi1 hx hlk hret (hb hby d4_22) (by decide) (by decide) ?_
  show Q_ar0 Z a r k h0 n0 _ Ti1.heap _
  rw [ei1]
  exact ⟨rfl, N0, rfl⟩
def Q_ar1 (Z : State) (a : Addr) (r : Int32) (k : Int32) (h0 : Heap) (n0 : Nat) (v : Option Value) (h : Heap) (L : List Loc) : Prop := v = some (.double (FP.ddiv (FP.i2d k) (FP.i2d r))) ∧ Fr n0 L ∧ h = h0
theorem ef_ar1 (m : MethodId) (y0 : Addr) : entryFrame m #[(.ref y0)] 1 = mkF m 0 #[.val (.ref y0)] [] := by first | (simp [entryFrame, mkF, argsToLocals, Value.category, maxLocals]; done) | rfl
set_option maxRecDepth 65536 in
set_option maxHeartbeats 40000000 in
theorem rm_ar1 (l : Launch) (Z : State) (a0 : Array Value) (hw : ∀ d ∈ tables_1, d.before a0 Z = true) (ws : List Jvm.Cond) (a : Addr) (r : Int32) (k : Int32) (h0 : Heap) (n0 : Nat) (Z0 : n0 ≤ h0.size) (F0_a_arrived : Fld Z h0 a "com/example/weftmap/weftmap/sim/Summary" "arrived" "I" (.int r)) (F0_a_accepted : Fld Z h0 a "com/example/weftmap/weftmap/sim/Summary" "accepted" "I" (.int k)) (c4 : ¬ (r = (0 : Int32))) (nn : Jvm.Free.Fl.NoNaN64 (FP.ddiv (FP.i2d k) (FP.i2d r))) :
    MetFree l (⟨"com/example/weftmap/weftmap/sim/Summary", "acceptanceRatio", "()D"⟩ : MethodName) (head1 (Jvm.Cond.code (⟨"com/example/weftmap/weftmap/sim/Summary", "acceptanceRatio", "()D"⟩ : MethodName) prog_88_method_3_code 1 (some .double) :: ws) ({ frames := 0, cells := 0, slots := 0, locals := 0 } : Room)) (fun aa_ U => aa_ = #[(.ref a)] ∧ Z.Warmed39 U.vm ∧ U.heap = h0) (fun _ _ _ _ _ => True) (fun _ U o U' => ∃ v L, o = .returned v ∧ Q_ar1 Z a r k h0 n0 v U'.heap L ∧ FrameEnd U o U' L (({ frames := 0, cells := 0, slots := 0, locals := 0 } : Room)).cells (({ frames := 0, cells := 0, slots := 0, locals := 0 } : Room)).slots) := by
  refine Go.met (plainFor_of_name pn1) ?_
  intro p e s m below meth c s₁ hx hby hml hown hnm hret hlk hZ e0 X0
  have N0 := Fr.nil n0
  refine Go.cast (ef_ar1 m a) ?_
  refine Go.st (U := (s₁.setTop (mkF m 1 #[.val (.ref a)] [(.ref a)]))) (fun t_ k_ => XS.aloadN X0.here hx rfl (hb hby d4_0) rfl rfl k_) ?_
  obtain ⟨Ti1, Xi1, ei1, sti1⟩ := getF X0 hx hZ hown (host := "") (Or.inl (hw _ (List.mem_of_getElem? (i := 18) rfl))) Via.refl e0 F0_a_arrived (g := (mkF m 1 #[.val (.ref a)] [(.ref a)])) rfl rfl (hb hby d4_1)
  refine Go.st (U := (Ti1.setTop (mkF m 4 #[.val (.ref a)] [(.int r)]))) sti1 ?_
  refine Go.st (U := (Ti1.setTop (mkF m 11 #[.val (.ref a)] []))) (fun t_ k_ => XS.ifYes Xi1.here hx rfl (pc0 := 4) (pc' := 11) rfl (hb hby d4_4) rfl ((if0 _ _).trans (feq c4).2) (by decide) (by decide) k_) ?_
  refine Go.st (U := (Ti1.setTop (mkF m 12 #[.val (.ref a)] [(.ref a)]))) (fun t_ k_ => XS.aloadN Xi1.here hx rfl (hb hby d4_11) rfl rfl k_) ?_
  obtain ⟨Ti2, Xi2, ei2, sti2⟩ := getF Xi1 hx hZ hown (host := "") (Or.inl (hw _ (List.mem_of_getElem? (i := 20) rfl))) Via.refl ei1 F0_a_accepted (g := (mkF m 12 #[.val (.ref a)] [(.ref a)])) rfl rfl (hb hby d4_12)
  refine Go.st (U := (Ti2.setTop (mkF m 15 #[.val (.ref a)] [(.int k)]))) sti2 ?_
  refine Go.st (U := (Ti2.setTop (mkF m 16 #[.val (.ref a)] [(.double (FP.i2d k))]))) (fun t_ k_ => XS.i2dS Xi2.here hx rfl (hb hby d4_15) rfl rfl k_) ?_
  refine Go.st (U := (Ti2.setTop (mkF m 17 #[.val (.ref a)] [(.ref a), (.double (FP.i2d k))]))) (fun t_ k_ => XS.aloadN Xi2.here hx rfl (hb hby d4_16) rfl rfl k_) ?_
  obtain ⟨Ti3, Xi3, ei3, sti3⟩ := getF Xi2 hx hZ hown (host := "") (Or.inl (hw _ (List.mem_of_getElem? (i := 18) rfl))) Via.refl ei2 F0_a_arrived (g := (mkF m 17 #[.val (.ref a)] [(.ref a), (.double (FP.i2d k))])) rfl rfl (hb hby d4_17)
  refine Go.st (U := (Ti3.setTop (mkF m 20 #[.val (.ref a)] [(.int r), (.double (FP.i2d k))]))) sti3 ?_
  refine Go.st (U := (Ti3.setTop (mkF m 21 #[.val (.ref a)] [(.double (FP.i2d r)), (.double (FP.i2d k))]))) (fun t_ k_ => XS.i2dS Xi3.here hx rfl (hb hby d4_20) rfl rfl k_) ?_
  refine Go.st (U := (Ti3.setTop (mkF m 22 #[.val (.ref a)] [(.double (FP.ddiv (FP.i2d k) (FP.i2d r)))]))) (fun t_ k_ => XS.ddivS Xi3.here hx rfl (hb hby d4_21) rfl nn rfl k_) ?_
  refine Go.retD Xi3 hx hlk hret (hb hby d4_22) (by decide) (by decide) ?_
  show Q_ar1 Z a r k h0 n0 _ Ti3.heap _
  rw [ei3]
  exact ⟨rfl, N0, rfl⟩
theorem d0_0 : decode method_2_code 0 = .ok (.new 7, 3) := by decide +kernel
theorem d0_3 : decode method_2_code 3 = .ok (.dup, 1) := by decide +kernel
theorem d0_4 : decode method_2_code 4 = .ok (.iload_n 0, 1) := by decide +kernel
theorem d0_5 : decode method_2_code 5 = .ok (.iload_n 1, 1) := by decide +kernel
theorem d0_6 : decode method_2_code 6 = .ok (.iconst 0, 1) := by decide +kernel
theorem d0_7 : decode method_2_code 7 = .ok (.iconst 0, 1) := by decide +kernel
theorem d0_8 : decode method_2_code 8 = .ok (.dconst 0, 1) := by decide +kernel
theorem d0_9 : decode method_2_code 9 = .ok (.dconst 0, 1) := by decide +kernel
theorem d0_10 : decode method_2_code 10 = .ok (.dconst 0, 1) := by decide +kernel
theorem d0_11 : decode method_2_code 11 = .ok (.dconst 0, 1) := by decide +kernel
theorem d0_12 : decode method_2_code 12 = .ok (.invokespecial 9, 3) := by decide +kernel
theorem d0_15 : decode method_2_code 15 = .ok (.invokevirtual 12, 3) := by decide +kernel
theorem d0_18 : decode method_2_code 18 = .ok (.dreturn, 1) := by decide +kernel
theorem pn2 : plainName "com/example/weftmap/weftmap/sim/SummaryAcceptanceRatioPinLaw" = true := by first | (simp [plainName, overriddenIn]; done) | decide +kernel
def Q_ra0 (Z : State) (r : Int32) (k : Int32) (h0 : Heap) (n0 : Nat) (v : Option Value) (h : Heap) (L : List Loc) : Prop := v = some (.double (0 : UInt64)) ∧ Fr n0 L ∧ Keep h0 h []
theorem ef_ra0 (m : MethodId) (y0 : Int32) (y1 : Int32) : entryFrame m #[(.int y0), (.int y1)] 2 = mkF m 0 #[.val (.int y0), .val (.int y1)] [] := by first | (simp [entryFrame, mkF, argsToLocals, Value.category, maxLocals]; done) | rfl
theorem pd1 : parseMethodDescriptor "(IIIIDDDD)V" = some ⟨[.int, .int, .int, .int, .double, .double, .double, .double], none⟩ := by decide +kernel
theorem pd2 : parseMethodDescriptor "()D" = some ⟨[], some .double⟩ := by decide +kernel
set_option maxRecDepth 65536 in
set_option maxHeartbeats 40000000 in
theorem rm_ra0 (l : Launch) (Z : State) (a0 : Array Value) (hw : ∀ d ∈ tables_1, d.before a0 Z = true) (ws : List Jvm.Cond) (r : Int32) (k : Int32) (h0 : Heap) (n0 : Nat) (Z0 : n0 ≤ h0.size) (c4 : r = (0 : Int32)) :
    MetFree l (⟨"com/example/weftmap/weftmap/sim/SummaryAcceptanceRatioPinLaw", "ratio", "(II)D"⟩ : MethodName) (head1 (Jvm.Cond.code (⟨"com/example/weftmap/weftmap/sim/SummaryAcceptanceRatioPinLaw", "ratio", "(II)D"⟩ : MethodName) method_2_code 2 (some .double) :: ws) ({ frames := 3, cells := 1, slots := 8, locals := 56 } : Room)) (fun aa_ U => aa_ = #[(.int r), (.int k)] ∧ Z.Warmed39 U.vm ∧ U.heap = h0) (fun _ _ _ _ _ => True) (fun _ U o U' => ∃ v L, o = .returned v ∧ Q_ra0 Z r k h0 n0 v U'.heap L ∧ FrameEnd U o U' L (({ frames := 3, cells := 1, slots := 8, locals := 56 } : Room)).cells (({ frames := 3, cells := 1, slots := 8, locals := 56 } : Room)).slots) := by
  refine Go.met (plainFor_of_name pn2) ?_
  intro p e s m below meth c s₁ hx hby hml hown hnm hret hlk hZ e0 X0
  have N0 := Fr.nil n0
  refine Go.cast (ef_ra0 m r k) ?_
  obtain ⟨Ti1, hi1, Xi1, ei1, Gi1, Ai1, Di1, -, sti1⟩ := newO X0 hx hZ hown (hw _ (List.mem_of_getElem? (i := 4) rfl)) (hw _ (List.mem_of_getElem? (i := 5) rfl)) (hw _ (List.mem_of_getElem? (i := 6) rfl)) e0 (g := (mkF m 0 #[.val (.int r), .val (.int k)] [])) rfl (hb hby d0_0) (by decide) (by decide)
  obtain ⟨bi1, gi1⟩ : ∃ z, z = h0.size := ⟨_, rfl⟩
  rw [← gi1] at Ai1 Di1 sti1
  have ge_bi1 : n0 ≤ bi1 := Nat.le_trans Z0 (Nat.le_of_eq gi1.symm)
  have sz_bi1 : h0.size ≤ bi1 := Nat.le_of_eq gi1.symm
  have sz0_bi1 : h0.size ≤ bi1 := Nat.le_trans (Keep.size_le (Keep.refl h0 [])) sz_bi1
  have Fi1_bi1_arrived : Fld Z hi1 bi1 "com/example/weftmap/weftmap/sim/Summary" "arrived" "I" (.int 0) := Di1 (Or.inr (hw _ (List.mem_of_getElem? (i := 19) rfl))) (ty := .int) (by decide)
  have Fi1_bi1_accepted : Fld Z hi1 bi1 "com/example/weftmap/weftmap/sim/Summary" "accepted" "I" (.int 0) := Di1 (Or.inr (hw _ (List.mem_of_getElem? (i := 21) rfl))) (ty := .int) (by decide)
  have Fi1_bi1_rejectedNode : Fld Z hi1 bi1 "com/example/weftmap/weftmap/sim/Summary" "rejectedNode" "I" (.int 0) := Di1 (Or.inr (hw _ (List.mem_of_getElem? (i := 23) rfl))) (ty := .int) (by decide)
  have Fi1_bi1_rejectedLink : Fld Z hi1 bi1 "com/example/weftmap/weftmap/sim/Summary" "rejectedLink" "I" (.int 0) := Di1 (Or.inr (hw _ (List.mem_of_getElem? (i := 25) rfl))) (ty := .int) (by decide)
  have Fi1_bi1_revenue : Fld Z hi1 bi1 "com/example/weftmap/weftmap/sim/Summary" "revenue" "D" (.double 0) := Di1 (Or.inr (hw _ (List.mem_of_getElem? (i := 27) rfl))) (ty := .double) (by decide)
  have Fi1_bi1_cost : Fld Z hi1 bi1 "com/example/weftmap/weftmap/sim/Summary" "cost" "D" (.double 0) := Di1 (Or.inr (hw _ (List.mem_of_getElem? (i := 29) rfl))) (ty := .double) (by decide)
  have Fi1_bi1_nodeUtilization : Fld Z hi1 bi1 "com/example/weftmap/weftmap/sim/Summary" "nodeUtilization" "D" (.double 0) := Di1 (Or.inr (hw _ (List.mem_of_getElem? (i := 31) rfl))) (ty := .double) (by decide)
  have Fi1_bi1_linkUtilization : Fld Z hi1 bi1 "com/example/weftmap/weftmap/sim/Summary" "linkUtilization" "D" (.double 0) := Di1 (Or.inr (hw _ (List.mem_of_getElem? (i := 33) rfl))) (ty := .double) (by decide)
  have Zi1 : n0 ≤ hi1.size := Nat.le_trans Z0 Gi1.1
  have Ki1 := Keep.ext (Keep.refl h0 []) Gi1
  refine Go.st (U := (Ti1.setTop (mkF m 3 #[.val (.int r), .val (.int k)] [(.ref bi1)]))) sti1 ?_
  refine Go.st (U := (Ti1.setTop (mkF m 4 #[.val (.int r), .val (.int k)] [(.ref bi1), (.ref bi1)]))) (fun t_ k_ => XS.dup Xi1.here hx rfl (hb hby d0_3) rfl rfl k_) ?_
  refine Go.st (U := (Ti1.setTop (mkF m 5 #[.val (.int r), .val (.int k)] [(.int r), (.ref bi1), (.ref bi1)]))) (fun t_ k_ => XS.iloadN Xi1.here hx rfl (hb hby d0_4) rfl k_) ?_
  refine Go.st (U := (Ti1.setTop (mkF m 6 #[.val (.int r), .val (.int k)] [(.int k), (.int r), (.ref bi1), (.ref bi1)]))) (fun t_ k_ => XS.iloadN Xi1.here hx rfl (hb hby d0_5) rfl k_) ?_
  refine Go.st (U := (Ti1.setTop (mkF m 7 #[.val (.int r), .val (.int k)] [(.int (0 : Int32)), (.int k), (.int r), (.ref bi1), (.ref bi1)]))) (fun t_ k_ => XS.iconst Xi1.here hx rfl (hb hby d0_6) k_) ?_
  refine Go.st (U := (Ti1.setTop (mkF m 8 #[.val (.int r), .val (.int k)] [(.int (0 : Int32)), (.int (0 : Int32)), (.int k), (.int r), (.ref bi1), (.ref bi1)]))) (fun t_ k_ => XS.iconst Xi1.here hx rfl (hb hby d0_7) k_) ?_
  refine Go.st (U := (Ti1.setTop (mkF m 9 #[.val (.int r), .val (.int k)] [(.double (0 : UInt64)), (.int (0 : Int32)), (.int (0 : Int32)), (.int k), (.int r), (.ref bi1), (.ref bi1)]))) (fun t_ k_ => XS.dconst0 Xi1.here hx rfl (hb hby d0_8) rfl k_) ?_
  refine Go.st (U := (Ti1.setTop (mkF m 10 #[.val (.int r), .val (.int k)] [(.double (0 : UInt64)), (.double (0 : UInt64)), (.int (0 : Int32)), (.int (0 : Int32)), (.int k), (.int r), (.ref bi1), (.ref bi1)]))) (fun t_ k_ => XS.dconst0 Xi1.here hx rfl (hb hby d0_9) rfl k_) ?_
  refine Go.st (U := (Ti1.setTop (mkF m 11 #[.val (.int r), .val (.int k)] [(.double (0 : UInt64)), (.double (0 : UInt64)), (.double (0 : UInt64)), (.int (0 : Int32)), (.int (0 : Int32)), (.int k), (.int r), (.ref bi1), (.ref bi1)]))) (fun t_ k_ => XS.dconst0 Xi1.here hx rfl (hb hby d0_10) rfl k_) ?_
  refine Go.st (U := (Ti1.setTop (mkF m 12 #[.val (.int r), .val (.int k)] [(.double (0 : UInt64)), (.double (0 : UInt64)), (.double (0 : UInt64)), (.double (0 : UInt64)), (.int (0 : Int32)), (.int (0 : Int32)), (.int k), (.int r), (.ref bi1), (.ref bi1)]))) (fun t_ k_ => XS.dconst0 Xi1.here hx rfl (hb hby d0_11) rfl k_) ?_
  refine Go.callI Xi1 hx hZ hown rfl (hw _ (List.mem_of_getElem? (i := 7) rfl)) (hw _ (List.mem_of_getElem? (i := 8) rfl)) (hw _ (List.mem_of_getElem? (i := 6) rfl)) (hw _ (List.mem_of_getElem? (i := 9) rfl)) (by decide) (rm_sum l Z a0 hw [] bi1 r k (0 : Int32) (0 : Int32) (0 : UInt64) (0 : UInt64) (0 : UInt64) (0 : UInt64) (.int 0) (.int 0) (.int 0) (.int 0) (.double 0) (.double 0) (.double 0) (.double 0) hi1 n0 Zi1 Ai1 ge_bi1 Fi1_bi1_arrived Fi1_bi1_accepted Fi1_bi1_rejectedNode Fi1_bi1_rejectedLink Fi1_bi1_revenue Fi1_bi1_cost Fi1_bi1_nodeUtilization Fi1_bi1_linkUtilization) ei1 1 (by decide) (by decide) (g := (mkF m 12 #[.val (.int r), .val (.int k)] [(.double (0 : UInt64)), (.double (0 : UInt64)), (.double (0 : UInt64)), (.double (0 : UInt64)), (.int (0 : Int32)), (.int (0 : Int32)), (.int k), (.int r), (.ref bi1), (.ref bi1)])) rfl (by rw [hml]; rfl) bi1 [(.int r), (.int k), (.int (0 : Int32)), (.int (0 : Int32)), (.double (0 : UInt64)), (.double (0 : UInt64)), (.double (0 : UInt64)), (.double (0 : UInt64))] [(.ref bi1)] rfl (lenOf pd1 rfl) rfl (by show 2 * 0 + _ ≤ _; exact Nat.le_of_eq rfl) (hb hby d0_12) (by decide) (by decide) ?_
  intro vi2 Ti2 Li2 hQi2 Xi2
  obtain ⟨rfl, Ni2, Ki2, Ei2_bi1, Fi2_bi1_arrived, Fi2_bi1_accepted, Fi2_bi1_rejectedNode, Fi2_bi1_rejectedLink, Fi2_bi1_revenue, Fi2_bi1_cost, Fi2_bi1_nodeUtilization, Fi2_bi1_linkUtilization⟩ := hQi2
  have Ni2 := Fr.app N0 Ni2
  have Zi2 : n0 ≤ Ti2.heap.size := Nat.le_trans Zi1 Ki2.1
  have Ki2 := Keep.trans Ki1 Ki2 (allS (Or.inr sz0_bi1) all0)
  show Go p e below s _ _ (Ti2.setTop (mkF m 15 #[.val (.int r), .val (.int k)] [(.ref bi1)]))
  refine Go.callV Xi2 hx hZ hown (hw _ (List.mem_of_getElem? (i := 34) rfl)) (hw _ (List.mem_of_getElem? (i := 35) rfl)) (hw _ (List.mem_of_getElem? (i := 37) rfl)) (hw _ (List.mem_of_getElem? (i := 36) rfl)) (hw _ (List.mem_of_getElem? (i := 6) rfl)) (hw _ (List.mem_of_getElem? (i := 38) rfl)) (by decide) (rm_ar0 l Z a0 hw [] bi1 r k Ti2.heap n0 Zi2 Fi2_bi1_arrived Fi2_bi1_accepted c4) (rfl : Ti2.heap = Ti2.heap) bi1 Ei2_bi1 0 (by decide) (by decide) (g := (mkF m 15 #[.val (.int r), .val (.int k)] [(.ref bi1)])) rfl (by rw [hml]; rfl) [] [] rfl (lenOf pd2 rfl) rfl (by show 2 * 0 + _ ≤ _; exact Nat.le_of_eq rfl) (hb hby d0_15) (by decide) (by decide) ?_
  intro vi3 Ti3 Li3 hQi3 Xi3
  obtain ⟨rfl, Ni3, ei3⟩ := hQi3
  have Ni3 := Fr.app Ni2 Ni3
  show Go p e below s _ _ (Ti3.setTop (mkF m 18 #[.val (.int r), .val (.int k)] [(.double (0 : UInt64))]))
  refine Go.retD Xi3 hx hlk hret (hb hby d0_18) (by decide) (by decide) ?_
  show Q_ra0 Z r k h0 n0 _ Ti3.heap _
  rw [ei3]
  exact ⟨rfl, Ni3, Ki2⟩
def Q_ra1 (Z : State) (r : Int32) (k : Int32) (h0 : Heap) (n0 : Nat) (v : Option Value) (h : Heap) (L : List Loc) : Prop := v = some (.double (FP.ddiv (FP.i2d k) (FP.i2d r))) ∧ Fr n0 L ∧ Keep h0 h []
theorem ef_ra1 (m : MethodId) (y0 : Int32) (y1 : Int32) : entryFrame m #[(.int y0), (.int y1)] 2 = mkF m 0 #[.val (.int y0), .val (.int y1)] [] := by first | (simp [entryFrame, mkF, argsToLocals, Value.category, maxLocals]; done) | rfl
set_option maxRecDepth 65536 in
set_option maxHeartbeats 40000000 in
theorem rm_ra1 (l : Launch) (Z : State) (a0 : Array Value) (hw : ∀ d ∈ tables_1, d.before a0 Z = true) (ws : List Jvm.Cond) (r : Int32) (k : Int32) (h0 : Heap) (n0 : Nat) (Z0 : n0 ≤ h0.size) (c4 : ¬ (r = (0 : Int32))) (nn : Jvm.Free.Fl.NoNaN64 (FP.ddiv (FP.i2d k) (FP.i2d r))) :
    MetFree l (⟨"com/example/weftmap/weftmap/sim/SummaryAcceptanceRatioPinLaw", "ratio", "(II)D"⟩ : MethodName) (head1 (Jvm.Cond.code (⟨"com/example/weftmap/weftmap/sim/SummaryAcceptanceRatioPinLaw", "ratio", "(II)D"⟩ : MethodName) method_2_code 2 (some .double) :: ws) ({ frames := 3, cells := 1, slots := 8, locals := 56 } : Room)) (fun aa_ U => aa_ = #[(.int r), (.int k)] ∧ Z.Warmed39 U.vm ∧ U.heap = h0) (fun _ _ _ _ _ => True) (fun _ U o U' => ∃ v L, o = .returned v ∧ Q_ra1 Z r k h0 n0 v U'.heap L ∧ FrameEnd U o U' L (({ frames := 3, cells := 1, slots := 8, locals := 56 } : Room)).cells (({ frames := 3, cells := 1, slots := 8, locals := 56 } : Room)).slots) := by
  refine Go.met (plainFor_of_name pn2) ?_
  intro p e s m below meth c s₁ hx hby hml hown hnm hret hlk hZ e0 X0
  have N0 := Fr.nil n0
  refine Go.cast (ef_ra1 m r k) ?_
  obtain ⟨Ti1, hi1, Xi1, ei1, Gi1, Ai1, Di1, -, sti1⟩ := newO X0 hx hZ hown (hw _ (List.mem_of_getElem? (i := 4) rfl)) (hw _ (List.mem_of_getElem? (i := 5) rfl)) (hw _ (List.mem_of_getElem? (i := 6) rfl)) e0 (g := (mkF m 0 #[.val (.int r), .val (.int k)] [])) rfl (hb hby d0_0) (by decide) (by decide)
  obtain ⟨bi1, gi1⟩ : ∃ z, z = h0.size := ⟨_, rfl⟩
  rw [← gi1] at Ai1 Di1 sti1
  have ge_bi1 : n0 ≤ bi1 := Nat.le_trans Z0 (Nat.le_of_eq gi1.symm)
  have sz_bi1 : h0.size ≤ bi1 := Nat.le_of_eq gi1.symm
  have sz0_bi1 : h0.size ≤ bi1 := Nat.le_trans (Keep.size_le (Keep.refl h0 [])) sz_bi1
  have Fi1_bi1_arrived : Fld Z hi1 bi1 "com/example/weftmap/weftmap/sim/Summary" "arrived" "I" (.int 0) := Di1 (Or.inr (hw _ (List.mem_of_getElem? (i := 19) rfl))) (ty := .int) (by decide)
  have Fi1_bi1_accepted : Fld Z hi1 bi1 "com/example/weftmap/weftmap/sim/Summary" "accepted" "I" (.int 0) := Di1 (Or.inr (hw _ (List.mem_of_getElem? (i := 21) rfl))) (ty := .int) (by decide)
  have Fi1_bi1_rejectedNode : Fld Z hi1 bi1 "com/example/weftmap/weftmap/sim/Summary" "rejectedNode" "I" (.int 0) := Di1 (Or.inr (hw _ (List.mem_of_getElem? (i := 23) rfl))) (ty := .int) (by decide)
  have Fi1_bi1_rejectedLink : Fld Z hi1 bi1 "com/example/weftmap/weftmap/sim/Summary" "rejectedLink" "I" (.int 0) := Di1 (Or.inr (hw _ (List.mem_of_getElem? (i := 25) rfl))) (ty := .int) (by decide)
  have Fi1_bi1_revenue : Fld Z hi1 bi1 "com/example/weftmap/weftmap/sim/Summary" "revenue" "D" (.double 0) := Di1 (Or.inr (hw _ (List.mem_of_getElem? (i := 27) rfl))) (ty := .double) (by decide)
  have Fi1_bi1_cost : Fld Z hi1 bi1 "com/example/weftmap/weftmap/sim/Summary" "cost" "D" (.double 0) := Di1 (Or.inr (hw _ (List.mem_of_getElem? (i := 29) rfl))) (ty := .double) (by decide)
  have Fi1_bi1_nodeUtilization : Fld Z hi1 bi1 "com/example/weftmap/weftmap/sim/Summary" "nodeUtilization" "D" (.double 0) := Di1 (Or.inr (hw _ (List.mem_of_getElem? (i := 31) rfl))) (ty := .double) (by decide)
  have Fi1_bi1_linkUtilization : Fld Z hi1 bi1 "com/example/weftmap/weftmap/sim/Summary" "linkUtilization" "D" (.double 0) := Di1 (Or.inr (hw _ (List.mem_of_getElem? (i := 33) rfl))) (ty := .double) (by decide)
  have Zi1 : n0 ≤ hi1.size := Nat.le_trans Z0 Gi1.1
  have Ki1 := Keep.ext (Keep.refl h0 []) Gi1
  refine Go.st (U := (Ti1.setTop (mkF m 3 #[.val (.int r), .val (.int k)] [(.ref bi1)]))) sti1 ?_
  refine Go.st (U := (Ti1.setTop (mkF m 4 #[.val (.int r), .val (.int k)] [(.ref bi1), (.ref bi1)]))) (fun t_ k_ => XS.dup Xi1.here hx rfl (hb hby d0_3) rfl rfl k_) ?_
  refine Go.st (U := (Ti1.setTop (mkF m 5 #[.val (.int r), .val (.int k)] [(.int r), (.ref bi1), (.ref bi1)]))) (fun t_ k_ => XS.iloadN Xi1.here hx rfl (hb hby d0_4) rfl k_) ?_
  refine Go.st (U := (Ti1.setTop (mkF m 6 #[.val (.int r), .val (.int k)] [(.int k), (.int r), (.ref bi1), (.ref bi1)]))) (fun t_ k_ => XS.iloadN Xi1.here hx rfl (hb hby d0_5) rfl k_) ?_
  refine Go.st (U := (Ti1.setTop (mkF m 7 #[.val (.int r), .val (.int k)] [(.int (0 : Int32)), (.int k), (.int r), (.ref bi1), (.ref bi1)]))) (fun t_ k_ => XS.iconst Xi1.here hx rfl (hb hby d0_6) k_) ?_
  refine Go.st (U := (Ti1.setTop (mkF m 8 #[.val (.int r), .val (.int k)] [(.int (0 : Int32)), (.int (0 : Int32)), (.int k), (.int r), (.ref bi1), (.ref bi1)]))) (fun t_ k_ => XS.iconst Xi1.here hx rfl (hb hby d0_7) k_) ?_
  refine Go.st (U := (Ti1.setTop (mkF m 9 #[.val (.int r), .val (.int k)] [(.double (0 : UInt64)), (.int (0 : Int32)), (.int (0 : Int32)), (.int k), (.int r), (.ref bi1), (.ref bi1)]))) (fun t_ k_ => XS.dconst0 Xi1.here hx rfl (hb hby d0_8) rfl k_) ?_
  refine Go.st (U := (Ti1.setTop (mkF m 10 #[.val (.int r), .val (.int k)] [(.double (0 : UInt64)), (.double (0 : UInt64)), (.int (0 : Int32)), (.int (0 : Int32)), (.int k), (.int r), (.ref bi1), (.ref bi1)]))) (fun t_ k_ => XS.dconst0 Xi1.here hx rfl (hb hby d0_9) rfl k_) ?_
  refine Go.st (U := (Ti1.setTop (mkF m 11 #[.val (.int r), .val (.int k)] [(.double (0 : UInt64)), (.double (0 : UInt64)), (.double (0 : UInt64)), (.int (0 : Int32)), (.int (0 : Int32)), (.int k), (.int r), (.ref bi1), (.ref bi1)]))) (fun t_ k_ => XS.dconst0 Xi1.here hx rfl (hb hby d0_10) rfl k_) ?_
  refine Go.st (U := (Ti1.setTop (mkF m 12 #[.val (.int r), .val (.int k)] [(.double (0 : UInt64)), (.double (0 : UInt64)), (.double (0 : UInt64)), (.double (0 : UInt64)), (.int (0 : Int32)), (.int (0 : Int32)), (.int k), (.int r), (.ref bi1), (.ref bi1)]))) (fun t_ k_ => XS.dconst0 Xi1.here hx rfl (hb hby d0_11) rfl k_) ?_
  refine Go.callI Xi1 hx hZ hown rfl (hw _ (List.mem_of_getElem? (i := 7) rfl)) (hw _ (List.mem_of_getElem? (i := 8) rfl)) (hw _ (List.mem_of_getElem? (i := 6) rfl)) (hw _ (List.mem_of_getElem? (i := 9) rfl)) (by decide) (rm_sum l Z a0 hw [] bi1 r k (0 : Int32) (0 : Int32) (0 : UInt64) (0 : UInt64) (0 : UInt64) (0 : UInt64) (.int 0) (.int 0) (.int 0) (.int 0) (.double 0) (.double 0) (.double 0) (.double 0) hi1 n0 Zi1 Ai1 ge_bi1 Fi1_bi1_arrived Fi1_bi1_accepted Fi1_bi1_rejectedNode Fi1_bi1_rejectedLink Fi1_bi1_revenue Fi1_bi1_cost Fi1_bi1_nodeUtilization Fi1_bi1_linkUtilization) ei1 1 (by decide) (by decide) (g := (mkF m 12 #[.val (.int r), .val (.int k)] [(.double (0 : UInt64)), (.double (0 : UInt64)), (.double (0 : UInt64)), (.double (0 : UInt64)), (.int (0 : Int32)), (.int (0 : Int32)), (.int k), (.int r), (.ref bi1), (.ref bi1)])) rfl (by rw [hml]; rfl) bi1 [(.int r), (.int k), (.int (0 : Int32)), (.int (0 : Int32)), (.double (0 : UInt64)), (.double (0 : UInt64)), (.double (0 : UInt64)), (.double (0 : UInt64))] [(.ref bi1)] rfl (lenOf pd1 rfl) rfl (by show 2 * 0 + _ ≤ _; exact Nat.le_of_eq rfl) (hb hby d0_12) (by decide) (by decide) ?_
  intro vi2 Ti2 Li2 hQi2 Xi2
  obtain ⟨rfl, Ni2, Ki2, Ei2_bi1, Fi2_bi1_arrived, Fi2_bi1_accepted, Fi2_bi1_rejectedNode, Fi2_bi1_rejectedLink, Fi2_bi1_revenue, Fi2_bi1_cost, Fi2_bi1_nodeUtilization, Fi2_bi1_linkUtilization⟩ := hQi2
  have Ni2 := Fr.app N0 Ni2
  have Zi2 : n0 ≤ Ti2.heap.size := Nat.le_trans Zi1 Ki2.1
  have Ki2 := Keep.trans Ki1 Ki2 (allS (Or.inr sz0_bi1) all0)
  show Go p e below s _ _ (Ti2.setTop (mkF m 15 #[.val (.int r), .val (.int k)] [(.ref bi1)]))
  refine Go.callV Xi2 hx hZ hown (hw _ (List.mem_of_getElem? (i := 34) rfl)) (hw _ (List.mem_of_getElem? (i := 35) rfl)) (hw _ (List.mem_of_getElem? (i := 37) rfl)) (hw _ (List.mem_of_getElem? (i := 36) rfl)) (hw _ (List.mem_of_getElem? (i := 6) rfl)) (hw _ (List.mem_of_getElem? (i := 38) rfl)) (by decide) (rm_ar1 l Z a0 hw [] bi1 r k Ti2.heap n0 Zi2 Fi2_bi1_arrived Fi2_bi1_accepted c4 nn) (rfl : Ti2.heap = Ti2.heap) bi1 Ei2_bi1 0 (by decide) (by decide) (g := (mkF m 15 #[.val (.int r), .val (.int k)] [(.ref bi1)])) rfl (by rw [hml]; rfl) [] [] rfl (lenOf pd2 rfl) rfl (by show 2 * 0 + _ ≤ _; exact Nat.le_of_eq rfl) (hb hby d0_15) (by decide) (by decide) ?_
  intro vi3 Ti3 Li3 hQi3 Xi3
  obtain ⟨rfl, Ni3, ei3⟩ := hQi3
  have Ni3 := Fr.app Ni2 Ni3
  show Go p e below s _ _ (Ti3.setTop (mkF m 18 #[.val (.int r), .val (.int k)] [(.double (FP.ddiv (FP.i2d k) (FP.i2d r)))]))
  refine Go.retD Xi3 hx hlk hret (hb hby d0_18) (by decide) (by decide) ?_
  show Q_ra1 Z r k h0 n0 _ Ti3.heap _
  rw [ei3]
  exact ⟨rfl, Ni3, Ki2⟩
theorem d5_0 : decode jdk_29_method_61_code 0 = .ok (.lload_n 0, 1) := by decide +kernel
theorem d5_1 : decode jdk_29_method_61_code 1 = .ok (.lconst 0, 1) := by decide +kernel
theorem d5_2 : decode jdk_29_method_61_code 2 = .ok (.lcmp, 1) := by decide +kernel
theorem d5_3 : decode jdk_29_method_61_code 3 = .ok (.ifCond .ge 8, 3) := by decide +kernel
theorem d5_6 : decode jdk_29_method_61_code 6 = .ok (.lload_n 0, 1) := by decide +kernel
theorem d5_7 : decode jdk_29_method_61_code 7 = .ok (.lneg, 1) := by decide +kernel
theorem d5_8 : decode jdk_29_method_61_code 8 = .ok (.goto 4, 3) := by decide +kernel
theorem d5_11 : decode jdk_29_method_61_code 11 = .ok (.lload_n 0, 1) := by decide +kernel
theorem d5_12 : decode jdk_29_method_61_code 12 = .ok (.lreturn, 1) := by decide +kernel
def Q_absn (Z : State) (k : Int64) (h0 : Heap) (n0 : Nat) (v : Option Value) (h : Heap) (L : List Loc) : Prop := v = some (.long (-k)) ∧ Fr n0 L ∧ h = h0
theorem ef_absn (m : MethodId) (y0 : Int64) : entryFrame m #[(.long y0)] 2 = mkF m 0 #[.val (.long y0), .second] [] := by first | (simp [entryFrame, mkF, argsToLocals, Value.category, maxLocals]; done) | rfl
set_option maxRecDepth 65536 in
set_option maxHeartbeats 40000000 in
theorem rm_absn (l : Launch) (Z : State) (a0 : Array Value) (hw : ∀ d ∈ tables_1, d.before a0 Z = true) (ws : List Jvm.Cond) (k : Int64) (h0 : Heap) (n0 : Nat) (Z0 : n0 ≤ h0.size) (c3 : lcmpW k (0 : Int64) < (0 : Int32)) :
    MetFree l (⟨"java/lang/Math", "abs", "(J)J"⟩ : MethodName) (head1 (Jvm.Cond.code (⟨"java/lang/Math", "abs", "(J)J"⟩ : MethodName) jdk_29_method_61_code 2 (some .long) :: ws) ({ frames := 0, cells := 0, slots := 0, locals := 0 } : Room)) (fun aa_ U => aa_ = #[(.long k)] ∧ Z.Warmed39 U.vm ∧ U.heap = h0) (fun _ _ _ _ _ => True) (fun _ U o U' => ∃ v L, o = .returned v ∧ Q_absn Z k h0 n0 v U'.heap L ∧ FrameEnd U o U' L (({ frames := 0, cells := 0, slots := 0, locals := 0 } : Room)).cells (({ frames := 0, cells := 0, slots := 0, locals := 0 } : Room)).slots) := by
  refine Go.met (by decide +kernel) ?_
  intro p e s m below meth c s₁ hx hby hml hown hnm hret hlk hZ e0 X0
  have N0 := Fr.nil n0
  refine Go.cast (ef_absn m k) ?_
  refine Go.st (U := (s₁.setTop (mkF m 1 #[.val (.long k), .second] [(.long k)]))) (fun t_ k_ => XS.lloadN X0.here hx rfl (hb hby d5_0) rfl k_) ?_
  refine Go.st (U := (s₁.setTop (mkF m 2 #[.val (.long k), .second] [(.long (0 : Int64)), (.long k)]))) (fun t_ k_ => XS.lconst X0.here hx rfl (hb hby d5_1) k_) ?_
  refine Go.st (U := (s₁.setTop (mkF m 3 #[.val (.long k), .second] [(.int (lcmpW k (0 : Int64)))]))) (fun t_ k_ => XS.lcmp X0.here hx rfl (hb hby d5_2) rfl k_) ?_
  refine Go.st (U := (s₁.setTop (mkF m 6 #[.val (.long k), .second] []))) (fun t_ k_ => XS.ifNo X0.here hx rfl (hb hby d5_3) rfl ((if0 _ _).trans (tlt c3).2.1) k_) ?_
  refine Go.st (U := (s₁.setTop (mkF m 7 #[.val (.long k), .second] [(.long k)]))) (fun t_ k_ => XS.lloadN X0.here hx rfl (hb hby d5_6) rfl k_) ?_
  refine Go.st (U := (s₁.setTop (mkF m 8 #[.val (.long k), .second] [(.long (-k))]))) (fun t_ k_ => XS.lneg X0.here hx rfl (hb hby d5_7) rfl k_) ?_
  refine Go.st (U := (s₁.setTop (mkF m 12 #[.val (.long k), .second] [(.long (-k))]))) (fun t_ k_ => XS.goto X0.here hx rfl (pc0 := 8) (pc' := 12) rfl (hb hby d5_8) (by decide) (by decide) k_) ?_
  refine Go.retJ X0 hx hlk hret (hb hby d5_12) (by decide) (by decide) ?_
  show Q_absn Z k h0 n0 _ s₁.heap _
  rw [e0]
  exact ⟨rfl, N0, rfl⟩
def Q_absp (Z : State) (k : Int64) (h0 : Heap) (n0 : Nat) (v : Option Value) (h : Heap) (L : List Loc) : Prop := v = some (.long k) ∧ Fr n0 L ∧ h = h0
theorem ef_absp (m : MethodId) (y0 : Int64) : entryFrame m #[(.long y0)] 2 = mkF m 0 #[.val (.long y0), .second] [] := by first | (simp [entryFrame, mkF, argsToLocals, Value.category, maxLocals]; done) | rfl
set_option maxRecDepth 65536 in
set_option maxHeartbeats 40000000 in
theorem rm_absp (l : Launch) (Z : State) (a0 : Array Value) (hw : ∀ d ∈ tables_1, d.before a0 Z = true) (ws : List Jvm.Cond) (k : Int64) (h0 : Heap) (n0 : Nat) (Z0 : n0 ≤ h0.size) (c3 : ¬ (lcmpW k (0 : Int64) < (0 : Int32))) :
    MetFree l (⟨"java/lang/Math", "abs", "(J)J"⟩ : MethodName) (head1 (Jvm.Cond.code (⟨"java/lang/Math", "abs", "(J)J"⟩ : MethodName) jdk_29_method_61_code 2 (some .long) :: ws) ({ frames := 0, cells := 0, slots := 0, locals := 0 } : Room)) (fun aa_ U => aa_ = #[(.long k)] ∧ Z.Warmed39 U.vm ∧ U.heap = h0) (fun _ _ _ _ _ => True) (fun _ U o U' => ∃ v L, o = .returned v ∧ Q_absp Z k h0 n0 v U'.heap L ∧ FrameEnd U o U' L (({ frames := 0, cells := 0, slots := 0, locals := 0 } : Room)).cells (({ frames := 0, cells := 0, slots := 0, locals := 0 } : Room)).slots) := by
  refine Go.met (by decide +kernel) ?_
  intro p e s m below meth c s₁ hx hby hml hown hnm hret hlk hZ e0 X0
  have N0 := Fr.nil n0
  refine Go.cast (ef_absp m k) ?_
  refine Go.st (U := (s₁.setTop (mkF m 1 #[.val (.long k), .second] [(.long k)]))) (fun t_ k_ => XS.lloadN X0.here hx rfl (hb hby d5_0) rfl k_) ?_
  refine Go.st (U := (s₁.setTop (mkF m 2 #[.val (.long k), .second] [(.long (0 : Int64)), (.long k)]))) (fun t_ k_ => XS.lconst X0.here hx rfl (hb hby d5_1) k_) ?_
  refine Go.st (U := (s₁.setTop (mkF m 3 #[.val (.long k), .second] [(.int (lcmpW k (0 : Int64)))]))) (fun t_ k_ => XS.lcmp X0.here hx rfl (hb hby d5_2) rfl k_) ?_
  refine Go.st (U := (s₁.setTop (mkF m 11 #[.val (.long k), .second] []))) (fun t_ k_ => XS.ifYes X0.here hx rfl (pc0 := 3) (pc' := 11) rfl (hb hby d5_3) rfl ((if0 _ _).trans (flt c3).2.1) (by decide) (by decide) k_) ?_
  refine Go.st (U := (s₁.setTop (mkF m 12 #[.val (.long k), .second] [(.long k)]))) (fun t_ k_ => XS.lloadN X0.here hx rfl (hb hby d5_11) rfl k_) ?_
  refine Go.retJ X0 hx hlk hret (hb hby d5_12) (by decide) (by decide) ?_
  show Q_absp Z k h0 n0 _ s₁.heap _
  rw [e0]
  exact ⟨rfl, N0, rfl⟩
def Q_law (Z : State) (p0 : Int32) (p1 : Int32) (p2 : Int32) (p3 : Int32) (h0 : Heap) (n0 : Nat) (v : Option Value) (h : Heap) (L : List Loc) : Prop := v = some (.int 1) ∧ Fr n0 L
theorem ef_law (m : MethodId) (y0 : Int32) (y1 : Int32) (y2 : Int32) (y3 : Int32) : entryFrame m #[(.int y0), (.int y1), (.int y2), (.int y3)] maxLocals = mkF m 0 #[.val (.int y0), .val (.int y1), .val (.int y2), .val (.int y3), .unset, .unset, .unset, .unset, .unset, .unset, .unset, .unset, .unset, .unset, .unset, .unset] [] := by first | (simp [entryFrame, mkF, argsToLocals, Value.category, maxLocals]; done) | rfl
theorem pd3 : parseMethodDescriptor "(II)D" = some ⟨[.int, .int], some .double⟩ := by decide +kernel
theorem pd4 : parseMethodDescriptor "(J)J" = some ⟨[.long], some .long⟩ := by decide +kernel
set_option maxRecDepth 65536 in
set_option maxHeartbeats 40000000 in
theorem rm_law (l : Launch) (Z : State) (a0 : Array Value) (hw : ∀ d ∈ tables_1, d.before a0 Z = true) (ws : List Jvm.Cond) (p0 : Int32) (p1 : Int32) (p2 : Int32) (p3 : Int32) (h0 : Heap) (n0 : Nat) (Z0 : n0 ≤ h0.size)  :
    MetFree l x (head1 (Jvm.Cond.code x code maxLocals ret :: ws) room_1) (fun aa_ U => aa_ = #[(.int p0), (.int p1), (.int p2), (.int p3)] ∧ Z.Warmed39 U.vm ∧ U.heap = h0) (fun _ _ _ _ _ => True) (fun _ U o U' => ∃ v L, o = .returned v ∧ Q_law Z p0 p1 p2 p3 h0 n0 v U'.heap L ∧ FrameEnd U o U' L (room_1).cells (room_1).slots) := by
  refine Go.met (plainFor_of_name pn2) ?_
  intro p e s m below meth c s₁ hx hby hml hown hnm hret hlk hZ e0 X0
  have hml : c.maxLocals = 16 := hml
  have N0 := Fr.nil n0
  refine Go.cast (ef_law m p0 p1 p2 p3) ?_
  refine Go.st (U := (s₁.setTop (mkF m 1 #[.val (.int p0), .val (.int p1), .val (.int p2), .val (.int p3), .unset, .unset, .unset, .unset, .unset, .unset, .unset, .unset, .unset, .unset, .unset, .unset] [(.int (1 : Int32))]))) (fun t_ k_ => XS.iconst X0.here hx rfl (hb hby at_0) k_) ?_
  refine Go.st (U := (s₁.setTop (mkF m 2 #[.val (.int p0), .val (.int p1), .val (.int p2), .val (.int p3), .unset, .unset, .unset, .unset, .unset, .unset, .unset, .unset, .unset, .unset, .unset, .unset] [(.int p2), (.int (1 : Int32))]))) (fun t_ k_ => XS.iloadN X0.here hx rfl (hb hby at_1) rfl k_) ?_
  refine Go.st (U := (s₁.setTop (mkF m 4 #[.val (.int p0), .val (.int p1), .val (.int p2), .val (.int p3), .unset, .unset, .unset, .unset, .unset, .unset, .unset, .unset, .unset, .unset, .unset, .unset] [(.int (31 : Int32)), (.int p2), (.int (1 : Int32))]))) (fun t_ k_ => XS.bipush X0.here hx rfl (hb hby at_2) k_) ?_
  refine Go.st (U := (s₁.setTop (mkF m 5 #[.val (.int p0), .val (.int p1), .val (.int p2), .val (.int p3), .unset, .unset, .unset, .unset, .unset, .unset, .unset, .unset, .unset, .unset, .unset, .unset] [(.int (p2 &&& (31 : Int32))), (.int (1 : Int32))]))) (fun t_ k_ => XS.iand X0.here hx rfl (hb hby at_4) rfl k_) ?_
  refine Go.st (U := (s₁.setTop (mkF m 6 #[.val (.int p0), .val (.int p1), .val (.int p2), .val (.int p3), .unset, .unset, .unset, .unset, .unset, .unset, .unset, .unset, .unset, .unset, .unset, .unset] [(.int ((1 : Int32) <<< ((p2 &&& (31 : Int32)) &&& 31)))]))) (fun t_ k_ => XS.ishl X0.here hx rfl (hb hby at_5) rfl k_) ?_
  generalize q_pw : ((1 : Int32) <<< ((p2 &&& (31 : Int32)) &&& 31)) = pw
  refine Go.st (U := (s₁.setTop (mkF m 8 #[.val (.int p0), .val (.int p1), .val (.int p2), .val (.int p3), .val (.int pw), .unset, .unset, .unset, .unset, .unset, .unset, .unset, .unset, .unset, .unset, .unset] []))) (fun t_ k_ => XS.istore X0.here hx rfl (hb hby at_6) rfl (l' := #[.val (.int p0), .val (.int p1), .val (.int p2), .val (.int p3), .val (.int pw), .unset, .unset, .unset, .unset, .unset, .unset, .unset, .unset, .unset, .unset, .unset]) rfl k_) ?_
  have B_pw := own_pw q_pw
  refine Go.st (U := (s₁.setTop (mkF m 10 #[.val (.int p0), .val (.int p1), .val (.int p2), .val (.int p3), .val (.int pw), .unset, .unset, .unset, .unset, .unset, .unset, .unset, .unset, .unset, .unset, .unset] [(.int pw)]))) (fun t_ k_ => XS.iload X0.here hx rfl (hb hby at_8) rfl k_) ?_
  refine Go.st (U := (s₁.setTop (mkF m 11 #[.val (.int p0), .val (.int p1), .val (.int p2), .val (.int p3), .val (.int pw), .unset, .unset, .unset, .unset, .unset, .unset, .unset, .unset, .unset, .unset, .unset] [(.int p0), (.int pw)]))) (fun t_ k_ => XS.iloadN X0.here hx rfl (hb hby at_10) rfl k_) ?_
  refine Go.callS X0 hx hZ hown (hw _ (List.mem_of_getElem? (i := 0) rfl)) (hw _ (List.mem_of_getElem? (i := 1) rfl)) (hw _ (List.mem_of_getElem? (i := 2) rfl)) (hw _ (List.mem_of_getElem? (i := 3) rfl)) (by decide) (rm_ra1 l Z a0 hw [] pw p0 h0 n0 Z0 ((own_ne (own_pn B_pw))) ((own_n (own_pn B_pw)))) e0 0 (by decide) (by decide) (g := (mkF m 11 #[.val (.int p0), .val (.int p1), .val (.int p2), .val (.int p3), .val (.int pw), .unset, .unset, .unset, .unset, .unset, .unset, .unset, .unset, .unset, .unset, .unset] [(.int p0), (.int pw)])) rfl (by rw [hml]; rfl) [(.int pw), (.int p0)] [] rfl (lenOf pd3 rfl) rfl (by show 2 * 0 + _ ≤ _; exact Nat.le_of_eq rfl) (hb hby at_11) (by decide) (by decide) ?_
  intro vi1 Ti1 Li1 hQi1 Xi1
  obtain ⟨rfl, Ni1, Ki1⟩ := hQi1
  have Ni1 := Fr.app N0 Ni1
  have Zi1 : n0 ≤ Ti1.heap.size := Nat.le_trans Z0 Ki1.1
  have Ki1 := Keep.trans (Keep.refl h0 []) Ki1 all0
  show Go p e below s _ _ (Ti1.setTop (mkF m 14 #[.val (.int p0), .val (.int p1), .val (.int p2), .val (.int p3), .val (.int pw), .unset, .unset, .unset, .unset, .unset, .unset, .unset, .unset, .unset, .unset, .unset] [(.double (FP.ddiv (FP.i2d p0) (FP.i2d pw)))]))
  refine Go.st (U := (Ti1.setTop (mkF m 16 #[.val (.int p0), .val (.int p1), .val (.int p2), .val (.int p3), .val (.int pw), .val (.double (FP.ddiv (FP.i2d p0) (FP.i2d pw))), .second, .unset, .unset, .unset, .unset, .unset, .unset, .unset, .unset, .unset] []))) (fun t_ k_ => XS.dstore Xi1.here hx rfl (hb hby at_14) rfl (l' := #[.val (.int p0), .val (.int p1), .val (.int p2), .val (.int p3), .val (.int pw), .val (.double (FP.ddiv (FP.i2d p0) (FP.i2d pw))), .second, .unset, .unset, .unset, .unset, .unset, .unset, .unset, .unset, .unset]) rfl k_) ?_
  refine Go.st (U := (Ti1.setTop (mkF m 18 #[.val (.int p0), .val (.int p1), .val (.int p2), .val (.int p3), .val (.int pw), .val (.double (FP.ddiv (FP.i2d p0) (FP.i2d pw))), .second, .unset, .unset, .unset, .unset, .unset, .unset, .unset, .unset, .unset] [(.double (FP.ddiv (FP.i2d p0) (FP.i2d pw)))]))) (fun t_ k_ => XS.dload Xi1.here hx rfl (hb hby at_16) rfl k_) ?_
  refine Go.st (U := (Ti1.setTop (mkF m 20 #[.val (.int p0), .val (.int p1), .val (.int p2), .val (.int p3), .val (.int pw), .val (.double (FP.ddiv (FP.i2d p0) (FP.i2d pw))), .second, .unset, .unset, .unset, .unset, .unset, .unset, .unset, .unset, .unset] [(.int pw), (.double (FP.ddiv (FP.i2d p0) (FP.i2d pw)))]))) (fun t_ k_ => XS.iload Xi1.here hx rfl (hb hby at_18) rfl k_) ?_
  refine Go.st (U := (Ti1.setTop (mkF m 21 #[.val (.int p0), .val (.int p1), .val (.int p2), .val (.int p3), .val (.int pw), .val (.double (FP.ddiv (FP.i2d p0) (FP.i2d pw))), .second, .unset, .unset, .unset, .unset, .unset, .unset, .unset, .unset, .unset] [(.double (FP.i2d pw)), (.double (FP.ddiv (FP.i2d p0) (FP.i2d pw)))]))) (fun t_ k_ => XS.i2dS Xi1.here hx rfl (hb hby at_20) rfl rfl k_) ?_
  refine Go.st (U := (Ti1.setTop (mkF m 22 #[.val (.int p0), .val (.int p1), .val (.int p2), .val (.int p3), .val (.int pw), .val (.double (FP.ddiv (FP.i2d p0) (FP.i2d pw))), .second, .unset, .unset, .unset, .unset, .unset, .unset, .unset, .unset, .unset] [(.double (FP.dmul (FP.ddiv (FP.i2d p0) (FP.i2d pw)) (FP.i2d pw)))]))) (fun t_ k_ => XS.dmulS Xi1.here hx rfl (hb hby at_21) rfl (own_pq B_pw).1 rfl k_) ?_
  refine Go.st (U := (Ti1.setTop (mkF m 23 #[.val (.int p0), .val (.int p1), .val (.int p2), .val (.int p3), .val (.int pw), .val (.double (FP.ddiv (FP.i2d p0) (FP.i2d pw))), .second, .unset, .unset, .unset, .unset, .unset, .unset, .unset, .unset, .unset] [(.int p0), (.double (FP.dmul (FP.ddiv (FP.i2d p0) (FP.i2d pw)) (FP.i2d pw)))]))) (fun t_ k_ => XS.iloadN Xi1.here hx rfl (hb hby at_22) rfl k_) ?_
  refine Go.st (U := (Ti1.setTop (mkF m 24 #[.val (.int p0), .val (.int p1), .val (.int p2), .val (.int p3), .val (.int pw), .val (.double (FP.ddiv (FP.i2d p0) (FP.i2d pw))), .second, .unset, .unset, .unset, .unset, .unset, .unset, .unset, .unset, .unset] [(.double (FP.i2d p0)), (.double (FP.dmul (FP.ddiv (FP.i2d p0) (FP.i2d pw)) (FP.i2d pw)))]))) (fun t_ k_ => XS.i2dS Xi1.here hx rfl (hb hby at_23) rfl rfl k_) ?_
  refine Go.st (U := (Ti1.setTop (mkF m 25 #[.val (.int p0), .val (.int p1), .val (.int p2), .val (.int p3), .val (.int pw), .val (.double (FP.ddiv (FP.i2d p0) (FP.i2d pw))), .second, .unset, .unset, .unset, .unset, .unset, .unset, .unset, .unset, .unset] [(.int (cmpValue (FP.dcmp (FP.dmul (FP.ddiv (FP.i2d p0) (FP.i2d pw)) (FP.i2d pw)) (FP.i2d p0)) .l))]))) (fun t_ k_ => XS.dcmpS Xi1.here hx rfl (hb hby at_24) rfl rfl k_) ?_
  refine Go.st (U := (Ti1.setTop (mkF m 30 #[.val (.int p0), .val (.int p1), .val (.int p2), .val (.int p3), .val (.int pw), .val (.double (FP.ddiv (FP.i2d p0) (FP.i2d pw))), .second, .unset, .unset, .unset, .unset, .unset, .unset, .unset, .unset, .unset] []))) (fun t_ k_ => XS.ifYes Xi1.here hx rfl (pc0 := 25) (pc' := 30) rfl (hb hby at_25) rfl ((if0 _ _).trans (teq (own_pq B_pw).2).1) (by decide) (by decide) k_) ?_
  refine Go.st (U := (Ti1.setTop (mkF m 31 #[.val (.int p0), .val (.int p1), .val (.int p2), .val (.int p3), .val (.int pw), .val (.double (FP.ddiv (FP.i2d p0) (FP.i2d pw))), .second, .unset, .unset, .unset, .unset, .unset, .unset, .unset, .unset, .unset] [(.int p1)]))) (fun t_ k_ => XS.iloadN Xi1.here hx rfl (hb hby at_30) rfl k_) ?_
  refine Go.st (U := (Ti1.setTop (mkF m 33 #[.val (.int p0), .val (.int p1), .val (.int p2), .val (.int p3), .val (.int pw), .val (.double (FP.ddiv (FP.i2d p0) (FP.i2d pw))), .second, .unset, .unset, .unset, .unset, .unset, .unset, .unset, .unset, .unset] [(.int (46341 : Int32)), (.int p1)]))) (Xi1.ldcInt hx hown (mvT hZ (hw _ (List.mem_of_getElem? (i := 39) rfl))) (g := (mkF m 31 #[.val (.int p0), .val (.int p1), .val (.int p2), .val (.int p3), .val (.int pw), .val (.double (FP.ddiv (FP.i2d p0) (FP.i2d pw))), .second, .unset, .unset, .unset, .unset, .unset, .unset, .unset, .unset, .unset] [(.int p1)])) rfl (hb hby at_31)) ?_
  refine Go.st (U := (Ti1.setTop (mkF m 34 #[.val (.int p0), .val (.int p1), .val (.int p2), .val (.int p3), .val (.int pw), .val (.double (FP.ddiv (FP.i2d p0) (FP.i2d pw))), .second, .unset, .unset, .unset, .unset, .unset, .unset, .unset, .unset, .unset] [(.int (p1 - p1 / (46341 : Int32) * (46341 : Int32)))]))) (fun t_ k_ => XS.irem Xi1.here hx rfl (hb hby at_33) rfl (by decide) k_) ?_
  generalize q_bz : (p1 - p1 / (46341 : Int32) * (46341 : Int32)) = bz
  refine Go.st (U := (Ti1.setTop (mkF m 36 #[.val (.int p0), .val (.int p1), .val (.int p2), .val (.int p3), .val (.int pw), .val (.double (FP.ddiv (FP.i2d p0) (FP.i2d pw))), .second, .val (.int bz), .unset, .unset, .unset, .unset, .unset, .unset, .unset, .unset] []))) (fun t_ k_ => XS.istore Xi1.here hx rfl (hb hby at_34) rfl (l' := #[.val (.int p0), .val (.int p1), .val (.int p2), .val (.int p3), .val (.int pw), .val (.double (FP.ddiv (FP.i2d p0) (FP.i2d pw))), .second, .val (.int bz), .unset, .unset, .unset, .unset, .unset, .unset, .unset, .unset]) rfl k_) ?_
  have B_bz := own_rem q_bz
  have J44 : ∀ (bb : Int32) (B_b : -46341 < bb.toInt ∧ bb.toInt < 46341 ∧ bb.toInt ≠ 0), Go p e below s room_1 (Q_law Z p0 p1 p2 p3 h0 n0) (Ti1.setTop (mkF m 44 #[.val (.int p0), .val (.int p1), .val (.int p2), .val (.int p3), .val (.int pw), .val (.double (FP.ddiv (FP.i2d p0) (FP.i2d pw))), .second, .val (.int bb), .unset, .unset, .unset, .unset, .unset, .unset, .unset, .unset] [])) := by
    intro bb B_b
    refine Go.st (U := (Ti1.setTop (mkF m 45 #[.val (.int p0), .val (.int p1), .val (.int p2), .val (.int p3), .val (.int pw), .val (.double (FP.ddiv (FP.i2d p0) (FP.i2d pw))), .second, .val (.int bb), .unset, .unset, .unset, .unset, .unset, .unset, .unset, .unset] [(.int p3)]))) (fun t_ k_ => XS.iloadN Xi1.here hx rfl (hb hby at_44) rfl k_) ?_
    refine Go.st (U := (Ti1.setTop (mkF m 47 #[.val (.int p0), .val (.int p1), .val (.int p2), .val (.int p3), .val (.int pw), .val (.double (FP.ddiv (FP.i2d p0) (FP.i2d pw))), .second, .val (.int bb), .unset, .unset, .unset, .unset, .unset, .unset, .unset, .unset] [(.int (46341 : Int32)), (.int p3)]))) (Xi1.ldcInt hx hown (mvT hZ (hw _ (List.mem_of_getElem? (i := 39) rfl))) (g := (mkF m 45 #[.val (.int p0), .val (.int p1), .val (.int p2), .val (.int p3), .val (.int pw), .val (.double (FP.ddiv (FP.i2d p0) (FP.i2d pw))), .second, .val (.int bb), .unset, .unset, .unset, .unset, .unset, .unset, .unset, .unset] [(.int p3)])) rfl (hb hby at_45)) ?_
    refine Go.st (U := (Ti1.setTop (mkF m 48 #[.val (.int p0), .val (.int p1), .val (.int p2), .val (.int p3), .val (.int pw), .val (.double (FP.ddiv (FP.i2d p0) (FP.i2d pw))), .second, .val (.int bb), .unset, .unset, .unset, .unset, .unset, .unset, .unset, .unset] [(.int (p3 - p3 / (46341 : Int32) * (46341 : Int32)))]))) (fun t_ k_ => XS.irem Xi1.here hx rfl (hb hby at_47) rfl (by decide) k_) ?_
    generalize q_kk : (p3 - p3 / (46341 : Int32) * (46341 : Int32)) = kk
    refine Go.st (U := (Ti1.setTop (mkF m 50 #[.val (.int p0), .val (.int p1), .val (.int p2), .val (.int p3), .val (.int pw), .val (.double (FP.ddiv (FP.i2d p0) (FP.i2d pw))), .second, .val (.int bb), .val (.int kk), .unset, .unset, .unset, .unset, .unset, .unset, .unset] []))) (fun t_ k_ => XS.istore Xi1.here hx rfl (hb hby at_48) rfl (l' := #[.val (.int p0), .val (.int p1), .val (.int p2), .val (.int p3), .val (.int pw), .val (.double (FP.ddiv (FP.i2d p0) (FP.i2d pw))), .second, .val (.int bb), .val (.int kk), .unset, .unset, .unset, .unset, .unset, .unset, .unset]) rfl k_) ?_
    have B_kk := own_rem q_kk
    refine Go.st (U := (Ti1.setTop (mkF m 52 #[.val (.int p0), .val (.int p1), .val (.int p2), .val (.int p3), .val (.int pw), .val (.double (FP.ddiv (FP.i2d p0) (FP.i2d pw))), .second, .val (.int bb), .val (.int kk), .unset, .unset, .unset, .unset, .unset, .unset, .unset] [(.int bb)]))) (fun t_ k_ => XS.iload Xi1.here hx rfl (hb hby at_50) rfl k_) ?_
    refine Go.st (U := (Ti1.setTop (mkF m 54 #[.val (.int p0), .val (.int p1), .val (.int p2), .val (.int p3), .val (.int pw), .val (.double (FP.ddiv (FP.i2d p0) (FP.i2d pw))), .second, .val (.int bb), .val (.int kk), .unset, .unset, .unset, .unset, .unset, .unset, .unset] [(.int bb), (.int bb)]))) (fun t_ k_ => XS.iload Xi1.here hx rfl (hb hby at_52) rfl k_) ?_
    refine Go.st (U := (Ti1.setTop (mkF m 56 #[.val (.int p0), .val (.int p1), .val (.int p2), .val (.int p3), .val (.int pw), .val (.double (FP.ddiv (FP.i2d p0) (FP.i2d pw))), .second, .val (.int bb), .val (.int kk), .unset, .unset, .unset, .unset, .unset, .unset, .unset] [(.int kk), (.int bb), (.int bb)]))) (fun t_ k_ => XS.iload Xi1.here hx rfl (hb hby at_54) rfl k_) ?_
    refine Go.st (U := (Ti1.setTop (mkF m 57 #[.val (.int p0), .val (.int p1), .val (.int p2), .val (.int p3), .val (.int pw), .val (.double (FP.ddiv (FP.i2d p0) (FP.i2d pw))), .second, .val (.int bb), .val (.int kk), .unset, .unset, .unset, .unset, .unset, .unset, .unset] [(.int (bb * kk)), (.int bb)]))) (fun t_ k_ => XS.imul Xi1.here hx rfl (hb hby at_56) rfl k_) ?_
    refine Go.callS Xi1 hx hZ hown (hw _ (List.mem_of_getElem? (i := 0) rfl)) (hw _ (List.mem_of_getElem? (i := 1) rfl)) (hw _ (List.mem_of_getElem? (i := 2) rfl)) (hw _ (List.mem_of_getElem? (i := 3) rfl)) (by decide) (rm_ra1 l Z a0 hw [] bb (bb * kk) Ti1.heap n0 Zi1 ((own_ne B_b.2.2)) ((own_n B_b.2.2))) (rfl : Ti1.heap = Ti1.heap) 0 (by decide) (by decide) (g := (mkF m 57 #[.val (.int p0), .val (.int p1), .val (.int p2), .val (.int p3), .val (.int pw), .val (.double (FP.ddiv (FP.i2d p0) (FP.i2d pw))), .second, .val (.int bb), .val (.int kk), .unset, .unset, .unset, .unset, .unset, .unset, .unset] [(.int (bb * kk)), (.int bb)])) rfl (by rw [hml]; rfl) [(.int bb), (.int (bb * kk))] [] rfl (lenOf pd3 rfl) rfl (by show 2 * 0 + _ ≤ _; exact Nat.le_of_eq rfl) (hb hby at_57) (by decide) (by decide) ?_
    intro vi2 Ti2 Li2 hQi2 Xi2
    obtain ⟨rfl, Ni2, Ki2⟩ := hQi2
    have Ni2 := Fr.app Ni1 Ni2
    have Zi2 : n0 ≤ Ti2.heap.size := Nat.le_trans Zi1 Ki2.1
    have Ki2 := Keep.trans Ki1 Ki2 all0
    show Go p e below s _ _ (Ti2.setTop (mkF m 60 #[.val (.int p0), .val (.int p1), .val (.int p2), .val (.int p3), .val (.int pw), .val (.double (FP.ddiv (FP.i2d p0) (FP.i2d pw))), .second, .val (.int bb), .val (.int kk), .unset, .unset, .unset, .unset, .unset, .unset, .unset] [(.double (FP.ddiv (FP.i2d (bb * kk)) (FP.i2d bb)))]))
    refine Go.st (U := (Ti2.setTop (mkF m 62 #[.val (.int p0), .val (.int p1), .val (.int p2), .val (.int p3), .val (.int pw), .val (.double (FP.ddiv (FP.i2d p0) (FP.i2d pw))), .second, .val (.int bb), .val (.int kk), .unset, .unset, .unset, .unset, .unset, .unset, .unset] [(.int kk), (.double (FP.ddiv (FP.i2d (bb * kk)) (FP.i2d bb)))]))) (fun t_ k_ => XS.iload Xi2.here hx rfl (hb hby at_60) rfl k_) ?_
    refine Go.st (U := (Ti2.setTop (mkF m 63 #[.val (.int p0), .val (.int p1), .val (.int p2), .val (.int p3), .val (.int pw), .val (.double (FP.ddiv (FP.i2d p0) (FP.i2d pw))), .second, .val (.int bb), .val (.int kk), .unset, .unset, .unset, .unset, .unset, .unset, .unset] [(.double (FP.i2d kk)), (.double (FP.ddiv (FP.i2d (bb * kk)) (FP.i2d bb)))]))) (fun t_ k_ => XS.i2dS Xi2.here hx rfl (hb hby at_62) rfl rfl k_) ?_
    refine Go.st (U := (Ti2.setTop (mkF m 64 #[.val (.int p0), .val (.int p1), .val (.int p2), .val (.int p3), .val (.int pw), .val (.double (FP.ddiv (FP.i2d p0) (FP.i2d pw))), .second, .val (.int bb), .val (.int kk), .unset, .unset, .unset, .unset, .unset, .unset, .unset] [(.int (cmpValue (FP.dcmp (FP.ddiv (FP.i2d (bb * kk)) (FP.i2d bb)) (FP.i2d kk)) .l))]))) (fun t_ k_ => XS.dcmpS Xi2.here hx rfl (hb hby at_63) rfl rfl k_) ?_
    refine Go.st (U := (Ti2.setTop (mkF m 69 #[.val (.int p0), .val (.int p1), .val (.int p2), .val (.int p3), .val (.int pw), .val (.double (FP.ddiv (FP.i2d p0) (FP.i2d pw))), .second, .val (.int bb), .val (.int kk), .unset, .unset, .unset, .unset, .unset, .unset, .unset] []))) (fun t_ k_ => XS.ifYes Xi2.here hx rfl (pc0 := 64) (pc' := 69) rfl (hb hby at_64) rfl ((if0 _ _).trans (teq (own_e B_kk B_b)).1) (by decide) (by decide) k_) ?_
    by_cases hbz : p1 = (0 : Int32)
    · refine Go.st (U := (Ti2.setTop (mkF m 70 #[.val (.int p0), .val (.int p1), .val (.int p2), .val (.int p3), .val (.int pw), .val (.double (FP.ddiv (FP.i2d p0) (FP.i2d pw))), .second, .val (.int bb), .val (.int kk), .unset, .unset, .unset, .unset, .unset, .unset, .unset] [(.int p1)]))) (fun t_ k_ => XS.iloadN Xi2.here hx rfl (hb hby at_69) rfl k_) ?_
      refine Go.st (U := (Ti2.setTop (mkF m 71 #[.val (.int p0), .val (.int p1), .val (.int p2), .val (.int p3), .val (.int pw), .val (.double (FP.ddiv (FP.i2d p0) (FP.i2d pw))), .second, .val (.int bb), .val (.int kk), .unset, .unset, .unset, .unset, .unset, .unset, .unset] [(.int p0), (.int p1)]))) (fun t_ k_ => XS.iloadN Xi2.here hx rfl (hb hby at_70) rfl k_) ?_
      refine Go.callS Xi2 hx hZ hown (hw _ (List.mem_of_getElem? (i := 0) rfl)) (hw _ (List.mem_of_getElem? (i := 1) rfl)) (hw _ (List.mem_of_getElem? (i := 2) rfl)) (hw _ (List.mem_of_getElem? (i := 3) rfl)) (by decide) (rm_ra0 l Z a0 hw [] p1 p0 Ti2.heap n0 Zi2 hbz) (rfl : Ti2.heap = Ti2.heap) 0 (by decide) (by decide) (g := (mkF m 71 #[.val (.int p0), .val (.int p1), .val (.int p2), .val (.int p3), .val (.int pw), .val (.double (FP.ddiv (FP.i2d p0) (FP.i2d pw))), .second, .val (.int bb), .val (.int kk), .unset, .unset, .unset, .unset, .unset, .unset, .unset] [(.int p0), (.int p1)])) rfl (by rw [hml]; rfl) [(.int p1), (.int p0)] [] rfl (lenOf pd3 rfl) rfl (by show 2 * 0 + _ ≤ _; exact Nat.le_of_eq rfl) (hb hby at_71) (by decide) (by decide) ?_
      intro vi3 Ti3 Li3 hQi3 Xi3
      obtain ⟨rfl, Ni3, Ki3⟩ := hQi3
      have Ni3 := Fr.app Ni2 Ni3
      have Zi3 : n0 ≤ Ti3.heap.size := Nat.le_trans Zi2 Ki3.1
      have Ki3 := Keep.trans Ki2 Ki3 all0
      show Go p e below s _ _ (Ti3.setTop (mkF m 74 #[.val (.int p0), .val (.int p1), .val (.int p2), .val (.int p3), .val (.int pw), .val (.double (FP.ddiv (FP.i2d p0) (FP.i2d pw))), .second, .val (.int bb), .val (.int kk), .unset, .unset, .unset, .unset, .unset, .unset, .unset] [(.double (0 : UInt64))]))
      refine Go.st (U := (Ti3.setTop (mkF m 76 #[.val (.int p0), .val (.int p1), .val (.int p2), .val (.int p3), .val (.int pw), .val (.double (FP.ddiv (FP.i2d p0) (FP.i2d pw))), .second, .val (.int bb), .val (.int kk), .val (.double (0 : UInt64)), .second, .unset, .unset, .unset, .unset, .unset] []))) (fun t_ k_ => XS.dstore Xi3.here hx rfl (hb hby at_74) rfl (l' := #[.val (.int p0), .val (.int p1), .val (.int p2), .val (.int p3), .val (.int pw), .val (.double (FP.ddiv (FP.i2d p0) (FP.i2d pw))), .second, .val (.int bb), .val (.int kk), .val (.double (0 : UInt64)), .second, .unset, .unset, .unset, .unset, .unset]) rfl k_) ?_
      have J91 : ∀ (a2 : Int32) (B_a : a2.toInt = p0.toInt + 1 ∨ a2 = p0), Go p e below s room_1 (Q_law Z p0 p1 p2 p3 h0 n0) (Ti3.setTop (mkF m 91 #[.val (.int p0), .val (.int p1), .val (.int p2), .val (.int p3), .val (.int pw), .val (.double (FP.ddiv (FP.i2d p0) (FP.i2d pw))), .second, .val (.int bb), .val (.int kk), .val (.double (0 : UInt64)), .second, .val (.int a2), .unset, .unset, .unset, .unset] [])) := by
        intro a2 B_a
        refine Go.st (U := (Ti3.setTop (mkF m 92 #[.val (.int p0), .val (.int p1), .val (.int p2), .val (.int p3), .val (.int pw), .val (.double (FP.ddiv (FP.i2d p0) (FP.i2d pw))), .second, .val (.int bb), .val (.int kk), .val (.double (0 : UInt64)), .second, .val (.int a2), .unset, .unset, .unset, .unset] [(.int p1)]))) (fun t_ k_ => XS.iloadN Xi3.here hx rfl (hb hby at_91) rfl k_) ?_
        refine Go.st (U := (Ti3.setTop (mkF m 94 #[.val (.int p0), .val (.int p1), .val (.int p2), .val (.int p3), .val (.int pw), .val (.double (FP.ddiv (FP.i2d p0) (FP.i2d pw))), .second, .val (.int bb), .val (.int kk), .val (.double (0 : UInt64)), .second, .val (.int a2), .unset, .unset, .unset, .unset] [(.int a2), (.int p1)]))) (fun t_ k_ => XS.iload Xi3.here hx rfl (hb hby at_92) rfl k_) ?_
        refine Go.callS Xi3 hx hZ hown (hw _ (List.mem_of_getElem? (i := 0) rfl)) (hw _ (List.mem_of_getElem? (i := 1) rfl)) (hw _ (List.mem_of_getElem? (i := 2) rfl)) (hw _ (List.mem_of_getElem? (i := 3) rfl)) (by decide) (rm_ra0 l Z a0 hw [] p1 a2 Ti3.heap n0 Zi3 hbz) (rfl : Ti3.heap = Ti3.heap) 0 (by decide) (by decide) (g := (mkF m 94 #[.val (.int p0), .val (.int p1), .val (.int p2), .val (.int p3), .val (.int pw), .val (.double (FP.ddiv (FP.i2d p0) (FP.i2d pw))), .second, .val (.int bb), .val (.int kk), .val (.double (0 : UInt64)), .second, .val (.int a2), .unset, .unset, .unset, .unset] [(.int a2), (.int p1)])) rfl (by rw [hml]; rfl) [(.int p1), (.int a2)] [] rfl (lenOf pd3 rfl) rfl (by show 2 * 0 + _ ≤ _; exact Nat.le_of_eq rfl) (hb hby at_94) (by decide) (by decide) ?_
        intro vi4 Ti4 Li4 hQi4 Xi4
        obtain ⟨rfl, Ni4, Ki4⟩ := hQi4
        have Ni4 := Fr.app Ni3 Ni4
        have Zi4 : n0 ≤ Ti4.heap.size := Nat.le_trans Zi3 Ki4.1
        have Ki4 := Keep.trans Ki3 Ki4 all0
        show Go p e below s _ _ (Ti4.setTop (mkF m 97 #[.val (.int p0), .val (.int p1), .val (.int p2), .val (.int p3), .val (.int pw), .val (.double (FP.ddiv (FP.i2d p0) (FP.i2d pw))), .second, .val (.int bb), .val (.int kk), .val (.double (0 : UInt64)), .second, .val (.int a2), .unset, .unset, .unset, .unset] [(.double (0 : UInt64))]))
        refine Go.st (U := (Ti4.setTop (mkF m 99 #[.val (.int p0), .val (.int p1), .val (.int p2), .val (.int p3), .val (.int pw), .val (.double (FP.ddiv (FP.i2d p0) (FP.i2d pw))), .second, .val (.int bb), .val (.int kk), .val (.double (0 : UInt64)), .second, .val (.int a2), .val (.double (0 : UInt64)), .second, .unset, .unset] []))) (fun t_ k_ => XS.dstore Xi4.here hx rfl (hb hby at_97) rfl (l' := #[.val (.int p0), .val (.int p1), .val (.int p2), .val (.int p3), .val (.int pw), .val (.double (FP.ddiv (FP.i2d p0) (FP.i2d pw))), .second, .val (.int bb), .val (.int kk), .val (.double (0 : UInt64)), .second, .val (.int a2), .val (.double (0 : UInt64)), .second, .unset, .unset]) rfl k_) ?_
        refine Go.st (U := (Ti4.setTop (mkF m 100 #[.val (.int p0), .val (.int p1), .val (.int p2), .val (.int p3), .val (.int pw), .val (.double (FP.ddiv (FP.i2d p0) (FP.i2d pw))), .second, .val (.int bb), .val (.int kk), .val (.double (0 : UInt64)), .second, .val (.int a2), .val (.double (0 : UInt64)), .second, .unset, .unset] [(.int p1)]))) (fun t_ k_ => XS.iloadN Xi4.here hx rfl (hb hby at_99) rfl k_) ?_
        refine Go.st (U := (Ti4.setTop (mkF m 103 #[.val (.int p0), .val (.int p1), .val (.int p2), .val (.int p3), .val (.int pw), .val (.double (FP.ddiv (FP.i2d p0) (FP.i2d pw))), .second, .val (.int bb), .val (.int kk), .val (.double (0 : UInt64)), .second, .val (.int a2), .val (.double (0 : UInt64)), .second, .unset, .unset] []))) (fun t_ k_ => XS.ifNo Xi4.here hx rfl (hb hby at_100) rfl ((if0 _ _).trans (teq hbz).2) k_) ?_
        refine Go.st (U := (Ti4.setTop (mkF m 105 #[.val (.int p0), .val (.int p1), .val (.int p2), .val (.int p3), .val (.int pw), .val (.double (FP.ddiv (FP.i2d p0) (FP.i2d pw))), .second, .val (.int bb), .val (.int kk), .val (.double (0 : UInt64)), .second, .val (.int a2), .val (.double (0 : UInt64)), .second, .unset, .unset] [(.double (0 : UInt64))]))) (fun t_ k_ => XS.dload Xi4.here hx rfl (hb hby at_103) rfl k_) ?_
        refine Go.st (U := (Ti4.setTop (mkF m 106 #[.val (.int p0), .val (.int p1), .val (.int p2), .val (.int p3), .val (.int pw), .val (.double (FP.ddiv (FP.i2d p0) (FP.i2d pw))), .second, .val (.int bb), .val (.int kk), .val (.double (0 : UInt64)), .second, .val (.int a2), .val (.double (0 : UInt64)), .second, .unset, .unset] [(.double (0 : UInt64)), (.double (0 : UInt64))]))) (fun t_ k_ => XS.dconst0 Xi4.here hx rfl (hb hby at_105) rfl k_) ?_
        refine Go.st (U := (Ti4.setTop (mkF m 107 #[.val (.int p0), .val (.int p1), .val (.int p2), .val (.int p3), .val (.int pw), .val (.double (FP.ddiv (FP.i2d p0) (FP.i2d pw))), .second, .val (.int bb), .val (.int kk), .val (.double (0 : UInt64)), .second, .val (.int a2), .val (.double (0 : UInt64)), .second, .unset, .unset] [(.int (cmpValue (FP.dcmp (0 : UInt64) (0 : UInt64)) .l))]))) (fun t_ k_ => XS.dcmpS Xi4.here hx rfl (hb hby at_106) rfl rfl k_) ?_
        refine Go.st (U := (Ti4.setTop (mkF m 110 #[.val (.int p0), .val (.int p1), .val (.int p2), .val (.int p3), .val (.int pw), .val (.double (FP.ddiv (FP.i2d p0) (FP.i2d pw))), .second, .val (.int bb), .val (.int kk), .val (.double (0 : UInt64)), .second, .val (.int a2), .val (.double (0 : UInt64)), .second, .unset, .unset] []))) (fun t_ k_ => XS.ifNo Xi4.here hx rfl (hb hby at_107) rfl ((if0 _ _).trans (teq (Jvm.OwnFl.cvi_eq Jvm.OwnFl.zint Jvm.OwnFl.zint rfl .l)).2) k_) ?_
        refine Go.st (U := (Ti4.setTop (mkF m 112 #[.val (.int p0), .val (.int p1), .val (.int p2), .val (.int p3), .val (.int pw), .val (.double (FP.ddiv (FP.i2d p0) (FP.i2d pw))), .second, .val (.int bb), .val (.int kk), .val (.double (0 : UInt64)), .second, .val (.int a2), .val (.double (0 : UInt64)), .second, .unset, .unset] [(.double (0 : UInt64))]))) (fun t_ k_ => XS.dload Xi4.here hx rfl (hb hby at_110) rfl k_) ?_
        refine Go.st (U := (Ti4.setTop (mkF m 113 #[.val (.int p0), .val (.int p1), .val (.int p2), .val (.int p3), .val (.int pw), .val (.double (FP.ddiv (FP.i2d p0) (FP.i2d pw))), .second, .val (.int bb), .val (.int kk), .val (.double (0 : UInt64)), .second, .val (.int a2), .val (.double (0 : UInt64)), .second, .unset, .unset] [(.double (0 : UInt64)), (.double (0 : UInt64))]))) (fun t_ k_ => XS.dconst0 Xi4.here hx rfl (hb hby at_112) rfl k_) ?_
        refine Go.st (U := (Ti4.setTop (mkF m 114 #[.val (.int p0), .val (.int p1), .val (.int p2), .val (.int p3), .val (.int pw), .val (.double (FP.ddiv (FP.i2d p0) (FP.i2d pw))), .second, .val (.int bb), .val (.int kk), .val (.double (0 : UInt64)), .second, .val (.int a2), .val (.double (0 : UInt64)), .second, .unset, .unset] [(.int (cmpValue (FP.dcmp (0 : UInt64) (0 : UInt64)) .l))]))) (fun t_ k_ => XS.dcmpS Xi4.here hx rfl (hb hby at_113) rfl rfl k_) ?_
        refine Go.st (U := (Ti4.setTop (mkF m 117 #[.val (.int p0), .val (.int p1), .val (.int p2), .val (.int p3), .val (.int pw), .val (.double (FP.ddiv (FP.i2d p0) (FP.i2d pw))), .second, .val (.int bb), .val (.int kk), .val (.double (0 : UInt64)), .second, .val (.int a2), .val (.double (0 : UInt64)), .second, .unset, .unset] []))) (fun t_ k_ => XS.ifNo Xi4.here hx rfl (hb hby at_114) rfl ((if0 _ _).trans (teq (Jvm.OwnFl.cvi_eq Jvm.OwnFl.zint Jvm.OwnFl.zint rfl .l)).2) k_) ?_
        refine Go.st (U := (Ti4.setTop (mkF m 118 #[.val (.int p0), .val (.int p1), .val (.int p2), .val (.int p3), .val (.int pw), .val (.double (FP.ddiv (FP.i2d p0) (FP.i2d pw))), .second, .val (.int bb), .val (.int kk), .val (.double (0 : UInt64)), .second, .val (.int a2), .val (.double (0 : UInt64)), .second, .unset, .unset] [(.int (1 : Int32))]))) (fun t_ k_ => XS.iconst Xi4.here hx rfl (hb hby at_117) k_) ?_
        refine Go.st (U := (Ti4.setTop (mkF m 122 #[.val (.int p0), .val (.int p1), .val (.int p2), .val (.int p3), .val (.int pw), .val (.double (FP.ddiv (FP.i2d p0) (FP.i2d pw))), .second, .val (.int bb), .val (.int kk), .val (.double (0 : UInt64)), .second, .val (.int a2), .val (.double (0 : UInt64)), .second, .unset, .unset] [(.int (1 : Int32))]))) (fun t_ k_ => XS.goto Xi4.here hx rfl (pc0 := 118) (pc' := 122) rfl (hb hby at_118) (by decide) (by decide) k_) ?_
        refine Go.retZ Xi4 hx hlk hret (hb hby at_122) (by decide) (by decide) ?_
        exact ⟨rfl, Ni4⟩
      refine Go.st (U := (Ti3.setTop (mkF m 77 #[.val (.int p0), .val (.int p1), .val (.int p2), .val (.int p3), .val (.int pw), .val (.double (FP.ddiv (FP.i2d p0) (FP.i2d pw))), .second, .val (.int bb), .val (.int kk), .val (.double (0 : UInt64)), .second, .unset, .unset, .unset, .unset, .unset] [(.int p0)]))) (fun t_ k_ => XS.iloadN Xi3.here hx rfl (hb hby at_76) rfl k_) ?_
      refine Go.st (U := (Ti3.setTop (mkF m 79 #[.val (.int p0), .val (.int p1), .val (.int p2), .val (.int p3), .val (.int pw), .val (.double (FP.ddiv (FP.i2d p0) (FP.i2d pw))), .second, .val (.int bb), .val (.int kk), .val (.double (0 : UInt64)), .second, .unset, .unset, .unset, .unset, .unset] [(.int (2147483647 : Int32)), (.int p0)]))) (Xi3.ldcInt hx hown (mvT hZ (hw _ (List.mem_of_getElem? (i := 40) rfl))) (g := (mkF m 77 #[.val (.int p0), .val (.int p1), .val (.int p2), .val (.int p3), .val (.int pw), .val (.double (FP.ddiv (FP.i2d p0) (FP.i2d pw))), .second, .val (.int bb), .val (.int kk), .val (.double (0 : UInt64)), .second, .unset, .unset, .unset, .unset, .unset] [(.int p0)])) rfl (hb hby at_77)) ?_
      by_cases h79 : p0 = (2147483647 : Int32)
      · refine Go.st (U := (Ti3.setTop (mkF m 82 #[.val (.int p0), .val (.int p1), .val (.int p2), .val (.int p3), .val (.int pw), .val (.double (FP.ddiv (FP.i2d p0) (FP.i2d pw))), .second, .val (.int bb), .val (.int kk), .val (.double (0 : UInt64)), .second, .unset, .unset, .unset, .unset, .unset] []))) (fun t_ k_ => XS.icmpNo Xi3.here hx rfl (hb hby at_79) rfl (teq h79).2 k_) ?_
        refine Go.st (U := (Ti3.setTop (mkF m 83 #[.val (.int p0), .val (.int p1), .val (.int p2), .val (.int p3), .val (.int pw), .val (.double (FP.ddiv (FP.i2d p0) (FP.i2d pw))), .second, .val (.int bb), .val (.int kk), .val (.double (0 : UInt64)), .second, .unset, .unset, .unset, .unset, .unset] [(.int p0)]))) (fun t_ k_ => XS.iloadN Xi3.here hx rfl (hb hby at_82) rfl k_) ?_
        refine Go.st (U := (Ti3.setTop (mkF m 89 #[.val (.int p0), .val (.int p1), .val (.int p2), .val (.int p3), .val (.int pw), .val (.double (FP.ddiv (FP.i2d p0) (FP.i2d pw))), .second, .val (.int bb), .val (.int kk), .val (.double (0 : UInt64)), .second, .unset, .unset, .unset, .unset, .unset] [(.int p0)]))) (fun t_ k_ => XS.goto Xi3.here hx rfl (pc0 := 83) (pc' := 89) rfl (hb hby at_83) (by decide) (by decide) k_) ?_
        refine Go.st (U := (Ti3.setTop (mkF m 91 #[.val (.int p0), .val (.int p1), .val (.int p2), .val (.int p3), .val (.int pw), .val (.double (FP.ddiv (FP.i2d p0) (FP.i2d pw))), .second, .val (.int bb), .val (.int kk), .val (.double (0 : UInt64)), .second, .val (.int p0), .unset, .unset, .unset, .unset] []))) (fun t_ k_ => XS.istore Xi3.here hx rfl (hb hby at_89) rfl (l' := #[.val (.int p0), .val (.int p1), .val (.int p2), .val (.int p3), .val (.int pw), .val (.double (FP.ddiv (FP.i2d p0) (FP.i2d pw))), .second, .val (.int bb), .val (.int kk), .val (.double (0 : UInt64)), .second, .val (.int p0), .unset, .unset, .unset, .unset]) rfl k_) ?_
        exact J91 p0 (Or.inr rfl)
      · refine Go.st (U := (Ti3.setTop (mkF m 86 #[.val (.int p0), .val (.int p1), .val (.int p2), .val (.int p3), .val (.int pw), .val (.double (FP.ddiv (FP.i2d p0) (FP.i2d pw))), .second, .val (.int bb), .val (.int kk), .val (.double (0 : UInt64)), .second, .unset, .unset, .unset, .unset, .unset] []))) (fun t_ k_ => XS.icmpYes Xi3.here hx rfl (pc0 := 79) (pc' := 86) rfl (hb hby at_79) rfl (feq h79).2 (by decide) (by decide) k_) ?_
        refine Go.st (U := (Ti3.setTop (mkF m 87 #[.val (.int p0), .val (.int p1), .val (.int p2), .val (.int p3), .val (.int pw), .val (.double (FP.ddiv (FP.i2d p0) (FP.i2d pw))), .second, .val (.int bb), .val (.int kk), .val (.double (0 : UInt64)), .second, .unset, .unset, .unset, .unset, .unset] [(.int p0)]))) (fun t_ k_ => XS.iloadN Xi3.here hx rfl (hb hby at_86) rfl k_) ?_
        refine Go.st (U := (Ti3.setTop (mkF m 88 #[.val (.int p0), .val (.int p1), .val (.int p2), .val (.int p3), .val (.int pw), .val (.double (FP.ddiv (FP.i2d p0) (FP.i2d pw))), .second, .val (.int bb), .val (.int kk), .val (.double (0 : UInt64)), .second, .unset, .unset, .unset, .unset, .unset] [(.int (1 : Int32)), (.int p0)]))) (fun t_ k_ => XS.iconst Xi3.here hx rfl (hb hby at_87) k_) ?_
        refine Go.st (U := (Ti3.setTop (mkF m 89 #[.val (.int p0), .val (.int p1), .val (.int p2), .val (.int p3), .val (.int pw), .val (.double (FP.ddiv (FP.i2d p0) (FP.i2d pw))), .second, .val (.int bb), .val (.int kk), .val (.double (0 : UInt64)), .second, .unset, .unset, .unset, .unset, .unset] [(.int (p0 + (1 : Int32)))]))) (fun t_ k_ => XS.iadd Xi3.here hx rfl (hb hby at_88) rfl k_) ?_
        refine Go.st (U := (Ti3.setTop (mkF m 91 #[.val (.int p0), .val (.int p1), .val (.int p2), .val (.int p3), .val (.int pw), .val (.double (FP.ddiv (FP.i2d p0) (FP.i2d pw))), .second, .val (.int bb), .val (.int kk), .val (.double (0 : UInt64)), .second, .val (.int (p0 + (1 : Int32))), .unset, .unset, .unset, .unset] []))) (fun t_ k_ => XS.istore Xi3.here hx rfl (hb hby at_89) rfl (l' := #[.val (.int p0), .val (.int p1), .val (.int p2), .val (.int p3), .val (.int pw), .val (.double (FP.ddiv (FP.i2d p0) (FP.i2d pw))), .second, .val (.int bb), .val (.int kk), .val (.double (0 : UInt64)), .second, .val (.int (p0 + (1 : Int32))), .unset, .unset, .unset, .unset]) rfl k_) ?_
        exact J91 (p0 + (1 : Int32)) (Or.inl (own_a2 h79))
    · refine Go.st (U := (Ti2.setTop (mkF m 70 #[.val (.int p0), .val (.int p1), .val (.int p2), .val (.int p3), .val (.int pw), .val (.double (FP.ddiv (FP.i2d p0) (FP.i2d pw))), .second, .val (.int bb), .val (.int kk), .unset, .unset, .unset, .unset, .unset, .unset, .unset] [(.int p1)]))) (fun t_ k_ => XS.iloadN Xi2.here hx rfl (hb hby at_69) rfl k_) ?_
      refine Go.st (U := (Ti2.setTop (mkF m 71 #[.val (.int p0), .val (.int p1), .val (.int p2), .val (.int p3), .val (.int pw), .val (.double (FP.ddiv (FP.i2d p0) (FP.i2d pw))), .second, .val (.int bb), .val (.int kk), .unset, .unset, .unset, .unset, .unset, .unset, .unset] [(.int p0), (.int p1)]))) (fun t_ k_ => XS.iloadN Xi2.here hx rfl (hb hby at_70) rfl k_) ?_
      refine Go.callS Xi2 hx hZ hown (hw _ (List.mem_of_getElem? (i := 0) rfl)) (hw _ (List.mem_of_getElem? (i := 1) rfl)) (hw _ (List.mem_of_getElem? (i := 2) rfl)) (hw _ (List.mem_of_getElem? (i := 3) rfl)) (by decide) (rm_ra1 l Z a0 hw [] p1 p0 Ti2.heap n0 Zi2 hbz ((own_n (own_zn hbz)))) (rfl : Ti2.heap = Ti2.heap) 0 (by decide) (by decide) (g := (mkF m 71 #[.val (.int p0), .val (.int p1), .val (.int p2), .val (.int p3), .val (.int pw), .val (.double (FP.ddiv (FP.i2d p0) (FP.i2d pw))), .second, .val (.int bb), .val (.int kk), .unset, .unset, .unset, .unset, .unset, .unset, .unset] [(.int p0), (.int p1)])) rfl (by rw [hml]; rfl) [(.int p1), (.int p0)] [] rfl (lenOf pd3 rfl) rfl (by show 2 * 0 + _ ≤ _; exact Nat.le_of_eq rfl) (hb hby at_71) (by decide) (by decide) ?_
      intro vi5 Ti5 Li5 hQi5 Xi5
      obtain ⟨rfl, Ni5, Ki5⟩ := hQi5
      have Ni5 := Fr.app Ni2 Ni5
      have Zi5 : n0 ≤ Ti5.heap.size := Nat.le_trans Zi2 Ki5.1
      have Ki5 := Keep.trans Ki2 Ki5 all0
      show Go p e below s _ _ (Ti5.setTop (mkF m 74 #[.val (.int p0), .val (.int p1), .val (.int p2), .val (.int p3), .val (.int pw), .val (.double (FP.ddiv (FP.i2d p0) (FP.i2d pw))), .second, .val (.int bb), .val (.int kk), .unset, .unset, .unset, .unset, .unset, .unset, .unset] [(.double (FP.ddiv (FP.i2d p0) (FP.i2d p1)))]))
      refine Go.st (U := (Ti5.setTop (mkF m 76 #[.val (.int p0), .val (.int p1), .val (.int p2), .val (.int p3), .val (.int pw), .val (.double (FP.ddiv (FP.i2d p0) (FP.i2d pw))), .second, .val (.int bb), .val (.int kk), .val (.double (FP.ddiv (FP.i2d p0) (FP.i2d p1))), .second, .unset, .unset, .unset, .unset, .unset] []))) (fun t_ k_ => XS.dstore Xi5.here hx rfl (hb hby at_74) rfl (l' := #[.val (.int p0), .val (.int p1), .val (.int p2), .val (.int p3), .val (.int pw), .val (.double (FP.ddiv (FP.i2d p0) (FP.i2d pw))), .second, .val (.int bb), .val (.int kk), .val (.double (FP.ddiv (FP.i2d p0) (FP.i2d p1))), .second, .unset, .unset, .unset, .unset, .unset]) rfl k_) ?_
      have J91 : ∀ (a2 : Int32) (B_a : a2.toInt = p0.toInt + 1 ∨ a2 = p0), Go p e below s room_1 (Q_law Z p0 p1 p2 p3 h0 n0) (Ti5.setTop (mkF m 91 #[.val (.int p0), .val (.int p1), .val (.int p2), .val (.int p3), .val (.int pw), .val (.double (FP.ddiv (FP.i2d p0) (FP.i2d pw))), .second, .val (.int bb), .val (.int kk), .val (.double (FP.ddiv (FP.i2d p0) (FP.i2d p1))), .second, .val (.int a2), .unset, .unset, .unset, .unset] [])) := by
        intro a2 B_a
        refine Go.st (U := (Ti5.setTop (mkF m 92 #[.val (.int p0), .val (.int p1), .val (.int p2), .val (.int p3), .val (.int pw), .val (.double (FP.ddiv (FP.i2d p0) (FP.i2d pw))), .second, .val (.int bb), .val (.int kk), .val (.double (FP.ddiv (FP.i2d p0) (FP.i2d p1))), .second, .val (.int a2), .unset, .unset, .unset, .unset] [(.int p1)]))) (fun t_ k_ => XS.iloadN Xi5.here hx rfl (hb hby at_91) rfl k_) ?_
        refine Go.st (U := (Ti5.setTop (mkF m 94 #[.val (.int p0), .val (.int p1), .val (.int p2), .val (.int p3), .val (.int pw), .val (.double (FP.ddiv (FP.i2d p0) (FP.i2d pw))), .second, .val (.int bb), .val (.int kk), .val (.double (FP.ddiv (FP.i2d p0) (FP.i2d p1))), .second, .val (.int a2), .unset, .unset, .unset, .unset] [(.int a2), (.int p1)]))) (fun t_ k_ => XS.iload Xi5.here hx rfl (hb hby at_92) rfl k_) ?_
        refine Go.callS Xi5 hx hZ hown (hw _ (List.mem_of_getElem? (i := 0) rfl)) (hw _ (List.mem_of_getElem? (i := 1) rfl)) (hw _ (List.mem_of_getElem? (i := 2) rfl)) (hw _ (List.mem_of_getElem? (i := 3) rfl)) (by decide) (rm_ra1 l Z a0 hw [] p1 a2 Ti5.heap n0 Zi5 hbz ((own_n (own_zn hbz)))) (rfl : Ti5.heap = Ti5.heap) 0 (by decide) (by decide) (g := (mkF m 94 #[.val (.int p0), .val (.int p1), .val (.int p2), .val (.int p3), .val (.int pw), .val (.double (FP.ddiv (FP.i2d p0) (FP.i2d pw))), .second, .val (.int bb), .val (.int kk), .val (.double (FP.ddiv (FP.i2d p0) (FP.i2d p1))), .second, .val (.int a2), .unset, .unset, .unset, .unset] [(.int a2), (.int p1)])) rfl (by rw [hml]; rfl) [(.int p1), (.int a2)] [] rfl (lenOf pd3 rfl) rfl (by show 2 * 0 + _ ≤ _; exact Nat.le_of_eq rfl) (hb hby at_94) (by decide) (by decide) ?_
        intro vi6 Ti6 Li6 hQi6 Xi6
        obtain ⟨rfl, Ni6, Ki6⟩ := hQi6
        have Ni6 := Fr.app Ni5 Ni6
        have Zi6 : n0 ≤ Ti6.heap.size := Nat.le_trans Zi5 Ki6.1
        have Ki6 := Keep.trans Ki5 Ki6 all0
        show Go p e below s _ _ (Ti6.setTop (mkF m 97 #[.val (.int p0), .val (.int p1), .val (.int p2), .val (.int p3), .val (.int pw), .val (.double (FP.ddiv (FP.i2d p0) (FP.i2d pw))), .second, .val (.int bb), .val (.int kk), .val (.double (FP.ddiv (FP.i2d p0) (FP.i2d p1))), .second, .val (.int a2), .unset, .unset, .unset, .unset] [(.double (FP.ddiv (FP.i2d a2) (FP.i2d p1)))]))
        refine Go.st (U := (Ti6.setTop (mkF m 99 #[.val (.int p0), .val (.int p1), .val (.int p2), .val (.int p3), .val (.int pw), .val (.double (FP.ddiv (FP.i2d p0) (FP.i2d pw))), .second, .val (.int bb), .val (.int kk), .val (.double (FP.ddiv (FP.i2d p0) (FP.i2d p1))), .second, .val (.int a2), .val (.double (FP.ddiv (FP.i2d a2) (FP.i2d p1))), .second, .unset, .unset] []))) (fun t_ k_ => XS.dstore Xi6.here hx rfl (hb hby at_97) rfl (l' := #[.val (.int p0), .val (.int p1), .val (.int p2), .val (.int p3), .val (.int pw), .val (.double (FP.ddiv (FP.i2d p0) (FP.i2d pw))), .second, .val (.int bb), .val (.int kk), .val (.double (FP.ddiv (FP.i2d p0) (FP.i2d p1))), .second, .val (.int a2), .val (.double (FP.ddiv (FP.i2d a2) (FP.i2d p1))), .second, .unset, .unset]) rfl k_) ?_
        refine Go.st (U := (Ti6.setTop (mkF m 100 #[.val (.int p0), .val (.int p1), .val (.int p2), .val (.int p3), .val (.int pw), .val (.double (FP.ddiv (FP.i2d p0) (FP.i2d pw))), .second, .val (.int bb), .val (.int kk), .val (.double (FP.ddiv (FP.i2d p0) (FP.i2d p1))), .second, .val (.int a2), .val (.double (FP.ddiv (FP.i2d a2) (FP.i2d p1))), .second, .unset, .unset] [(.int p1)]))) (fun t_ k_ => XS.iloadN Xi6.here hx rfl (hb hby at_99) rfl k_) ?_
        refine Go.st (U := (Ti6.setTop (mkF m 123 #[.val (.int p0), .val (.int p1), .val (.int p2), .val (.int p3), .val (.int pw), .val (.double (FP.ddiv (FP.i2d p0) (FP.i2d pw))), .second, .val (.int bb), .val (.int kk), .val (.double (FP.ddiv (FP.i2d p0) (FP.i2d p1))), .second, .val (.int a2), .val (.double (FP.ddiv (FP.i2d a2) (FP.i2d p1))), .second, .unset, .unset] []))) (fun t_ k_ => XS.ifYes Xi6.here hx rfl (pc0 := 100) (pc' := 123) rfl (hb hby at_100) rfl ((if0 _ _).trans (feq hbz).2) (by decide) (by decide) k_) ?_
        by_cases hs : lcmpW p0.toInt64 (0 : Int64) < (0 : Int32)
        · refine Go.st (U := (Ti6.setTop (mkF m 124 #[.val (.int p0), .val (.int p1), .val (.int p2), .val (.int p3), .val (.int pw), .val (.double (FP.ddiv (FP.i2d p0) (FP.i2d pw))), .second, .val (.int bb), .val (.int kk), .val (.double (FP.ddiv (FP.i2d p0) (FP.i2d p1))), .second, .val (.int a2), .val (.double (FP.ddiv (FP.i2d a2) (FP.i2d p1))), .second, .unset, .unset] [(.int p0)]))) (fun t_ k_ => XS.iloadN Xi6.here hx rfl (hb hby at_123) rfl k_) ?_
          refine Go.st (U := (Ti6.setTop (mkF m 125 #[.val (.int p0), .val (.int p1), .val (.int p2), .val (.int p3), .val (.int pw), .val (.double (FP.ddiv (FP.i2d p0) (FP.i2d pw))), .second, .val (.int bb), .val (.int kk), .val (.double (FP.ddiv (FP.i2d p0) (FP.i2d p1))), .second, .val (.int a2), .val (.double (FP.ddiv (FP.i2d a2) (FP.i2d p1))), .second, .unset, .unset] [(.long (p0.toInt64))]))) (fun t_ k_ => XS.i2l Xi6.here hx rfl (hb hby at_124) rfl k_) ?_
          refine Go.callS Xi6 hx hZ hown (hw _ (List.mem_of_getElem? (i := 41) rfl)) (hw _ (List.mem_of_getElem? (i := 42) rfl)) (hw _ (List.mem_of_getElem? (i := 43) rfl)) (hw _ (List.mem_of_getElem? (i := 44) rfl)) (by decide) (rm_absn l Z a0 hw [] (p0.toInt64) Ti6.heap n0 Zi6 hs) (rfl : Ti6.heap = Ti6.heap) 0 (by decide) (by decide) (g := (mkF m 125 #[.val (.int p0), .val (.int p1), .val (.int p2), .val (.int p3), .val (.int pw), .val (.double (FP.ddiv (FP.i2d p0) (FP.i2d pw))), .second, .val (.int bb), .val (.int kk), .val (.double (FP.ddiv (FP.i2d p0) (FP.i2d p1))), .second, .val (.int a2), .val (.double (FP.ddiv (FP.i2d a2) (FP.i2d p1))), .second, .unset, .unset] [(.long (p0.toInt64))])) rfl (by rw [hml]; rfl) [(.long (p0.toInt64))] [] rfl (lenOf pd4 rfl) rfl (by show 2 * 0 + _ ≤ _; exact Nat.le_of_eq rfl) (hb hby at_125) (by decide) (by decide) ?_
          intro vi7 Ti7 Li7 hQi7 Xi7
          obtain ⟨rfl, Ni7, ei7⟩ := hQi7
          have Ni7 := Fr.app Ni6 Ni7
          show Go p e below s _ _ (Ti7.setTop (mkF m 128 #[.val (.int p0), .val (.int p1), .val (.int p2), .val (.int p3), .val (.int pw), .val (.double (FP.ddiv (FP.i2d p0) (FP.i2d pw))), .second, .val (.int bb), .val (.int kk), .val (.double (FP.ddiv (FP.i2d p0) (FP.i2d p1))), .second, .val (.int a2), .val (.double (FP.ddiv (FP.i2d a2) (FP.i2d p1))), .second, .unset, .unset] [(.long (-(p0.toInt64)))]))
          generalize q_mg : (-(p0.toInt64)) = mg
          refine Go.st (U := (Ti7.setTop (mkF m 130 #[.val (.int p0), .val (.int p1), .val (.int p2), .val (.int p3), .val (.int pw), .val (.double (FP.ddiv (FP.i2d p0) (FP.i2d pw))), .second, .val (.int bb), .val (.int kk), .val (.double (FP.ddiv (FP.i2d p0) (FP.i2d p1))), .second, .val (.int a2), .val (.double (FP.ddiv (FP.i2d a2) (FP.i2d p1))), .second, .val (.long mg), .second] []))) (fun t_ k_ => XS.lstore Xi7.here hx rfl (hb hby at_128) rfl (l' := #[.val (.int p0), .val (.int p1), .val (.int p2), .val (.int p3), .val (.int pw), .val (.double (FP.ddiv (FP.i2d p0) (FP.i2d pw))), .second, .val (.int bb), .val (.int kk), .val (.double (FP.ddiv (FP.i2d p0) (FP.i2d p1))), .second, .val (.int a2), .val (.double (FP.ddiv (FP.i2d a2) (FP.i2d p1))), .second, .val (.long mg), .second]) rfl k_) ?_
          have B_g : mg.toInt = (p0.toInt.natAbs : Int) := by
            rw [← q_mg]
            exact own_absn hs
          refine Go.st (U := (Ti7.setTop (mkF m 132 #[.val (.int p0), .val (.int p1), .val (.int p2), .val (.int p3), .val (.int pw), .val (.double (FP.ddiv (FP.i2d p0) (FP.i2d pw))), .second, .val (.int bb), .val (.int kk), .val (.double (FP.ddiv (FP.i2d p0) (FP.i2d p1))), .second, .val (.int a2), .val (.double (FP.ddiv (FP.i2d a2) (FP.i2d p1))), .second, .val (.long mg), .second] [(.double (FP.ddiv (FP.i2d p0) (FP.i2d p1)))]))) (fun t_ k_ => XS.dload Xi7.here hx rfl (hb hby at_130) rfl k_) ?_
          refine Go.st (U := (Ti7.setTop (mkF m 134 #[.val (.int p0), .val (.int p1), .val (.int p2), .val (.int p3), .val (.int pw), .val (.double (FP.ddiv (FP.i2d p0) (FP.i2d pw))), .second, .val (.int bb), .val (.int kk), .val (.double (FP.ddiv (FP.i2d p0) (FP.i2d p1))), .second, .val (.int a2), .val (.double (FP.ddiv (FP.i2d a2) (FP.i2d p1))), .second, .val (.long mg), .second] [(.long mg), (.double (FP.ddiv (FP.i2d p0) (FP.i2d p1)))]))) (fun t_ k_ => XS.lload Xi7.here hx rfl (hb hby at_132) rfl k_) ?_
          refine Go.st (U := (Ti7.setTop (mkF m 135 #[.val (.int p0), .val (.int p1), .val (.int p2), .val (.int p3), .val (.int pw), .val (.double (FP.ddiv (FP.i2d p0) (FP.i2d pw))), .second, .val (.int bb), .val (.int kk), .val (.double (FP.ddiv (FP.i2d p0) (FP.i2d p1))), .second, .val (.int a2), .val (.double (FP.ddiv (FP.i2d a2) (FP.i2d p1))), .second, .val (.long mg), .second] [(.double (FP.l2d mg)), (.double (FP.ddiv (FP.i2d p0) (FP.i2d p1)))]))) (fun t_ k_ => XS.l2dS Xi7.here hx rfl (hb hby at_134) rfl rfl k_) ?_
          refine Go.st (U := (Ti7.setTop (mkF m 136 #[.val (.int p0), .val (.int p1), .val (.int p2), .val (.int p3), .val (.int pw), .val (.double (FP.ddiv (FP.i2d p0) (FP.i2d pw))), .second, .val (.int bb), .val (.int kk), .val (.double (FP.ddiv (FP.i2d p0) (FP.i2d p1))), .second, .val (.int a2), .val (.double (FP.ddiv (FP.i2d a2) (FP.i2d p1))), .second, .val (.long mg), .second] [(.int (cmpValue (FP.dcmp (FP.ddiv (FP.i2d p0) (FP.i2d p1)) (FP.l2d mg)) .l))]))) (fun t_ k_ => XS.dcmpS Xi7.here hx rfl (hb hby at_135) rfl rfl k_) ?_
          refine Go.st (U := (Ti7.setTop (mkF m 139 #[.val (.int p0), .val (.int p1), .val (.int p2), .val (.int p3), .val (.int pw), .val (.double (FP.ddiv (FP.i2d p0) (FP.i2d pw))), .second, .val (.int bb), .val (.int kk), .val (.double (FP.ddiv (FP.i2d p0) (FP.i2d p1))), .second, .val (.int a2), .val (.double (FP.ddiv (FP.i2d a2) (FP.i2d p1))), .second, .val (.long mg), .second] []))) (fun t_ k_ => XS.ifNo Xi7.here hx rfl (hb hby at_136) rfl ((if0 _ _).trans (flt (own_bd (own_zn hbz) B_g).1).2.2.1) k_) ?_
          refine Go.st (U := (Ti7.setTop (mkF m 141 #[.val (.int p0), .val (.int p1), .val (.int p2), .val (.int p3), .val (.int pw), .val (.double (FP.ddiv (FP.i2d p0) (FP.i2d pw))), .second, .val (.int bb), .val (.int kk), .val (.double (FP.ddiv (FP.i2d p0) (FP.i2d p1))), .second, .val (.int a2), .val (.double (FP.ddiv (FP.i2d a2) (FP.i2d p1))), .second, .val (.long mg), .second] [(.double (FP.ddiv (FP.i2d p0) (FP.i2d p1)))]))) (fun t_ k_ => XS.dload Xi7.here hx rfl (hb hby at_139) rfl k_) ?_
          refine Go.st (U := (Ti7.setTop (mkF m 143 #[.val (.int p0), .val (.int p1), .val (.int p2), .val (.int p3), .val (.int pw), .val (.double (FP.ddiv (FP.i2d p0) (FP.i2d pw))), .second, .val (.int bb), .val (.int kk), .val (.double (FP.ddiv (FP.i2d p0) (FP.i2d p1))), .second, .val (.int a2), .val (.double (FP.ddiv (FP.i2d a2) (FP.i2d p1))), .second, .val (.long mg), .second] [(.long mg), (.double (FP.ddiv (FP.i2d p0) (FP.i2d p1)))]))) (fun t_ k_ => XS.lload Xi7.here hx rfl (hb hby at_141) rfl k_) ?_
          refine Go.st (U := (Ti7.setTop (mkF m 144 #[.val (.int p0), .val (.int p1), .val (.int p2), .val (.int p3), .val (.int pw), .val (.double (FP.ddiv (FP.i2d p0) (FP.i2d pw))), .second, .val (.int bb), .val (.int kk), .val (.double (FP.ddiv (FP.i2d p0) (FP.i2d p1))), .second, .val (.int a2), .val (.double (FP.ddiv (FP.i2d a2) (FP.i2d p1))), .second, .val (.long mg), .second] [(.double (FP.l2d mg)), (.double (FP.ddiv (FP.i2d p0) (FP.i2d p1)))]))) (fun t_ k_ => XS.l2dS Xi7.here hx rfl (hb hby at_143) rfl rfl k_) ?_
          refine Go.st (U := (Ti7.setTop (mkF m 145 #[.val (.int p0), .val (.int p1), .val (.int p2), .val (.int p3), .val (.int pw), .val (.double (FP.ddiv (FP.i2d p0) (FP.i2d pw))), .second, .val (.int bb), .val (.int kk), .val (.double (FP.ddiv (FP.i2d p0) (FP.i2d p1))), .second, .val (.int a2), .val (.double (FP.ddiv (FP.i2d a2) (FP.i2d p1))), .second, .val (.long mg), .second] [(.double (FP.dneg (FP.l2d mg))), (.double (FP.ddiv (FP.i2d p0) (FP.i2d p1)))]))) (fun t_ k_ => XS.dnegS Xi7.here hx rfl (hb hby at_144) rfl rfl k_) ?_
          refine Go.st (U := (Ti7.setTop (mkF m 146 #[.val (.int p0), .val (.int p1), .val (.int p2), .val (.int p3), .val (.int pw), .val (.double (FP.ddiv (FP.i2d p0) (FP.i2d pw))), .second, .val (.int bb), .val (.int kk), .val (.double (FP.ddiv (FP.i2d p0) (FP.i2d p1))), .second, .val (.int a2), .val (.double (FP.ddiv (FP.i2d a2) (FP.i2d p1))), .second, .val (.long mg), .second] [(.int (cmpValue (FP.dcmp (FP.ddiv (FP.i2d p0) (FP.i2d p1)) (FP.dneg (FP.l2d mg))) .g))]))) (fun t_ k_ => XS.dcmpS Xi7.here hx rfl (hb hby at_145) rfl rfl k_) ?_
          refine Go.st (U := (Ti7.setTop (mkF m 151 #[.val (.int p0), .val (.int p1), .val (.int p2), .val (.int p3), .val (.int pw), .val (.double (FP.ddiv (FP.i2d p0) (FP.i2d pw))), .second, .val (.int bb), .val (.int kk), .val (.double (FP.ddiv (FP.i2d p0) (FP.i2d p1))), .second, .val (.int a2), .val (.double (FP.ddiv (FP.i2d a2) (FP.i2d p1))), .second, .val (.long mg), .second] []))) (fun t_ k_ => XS.ifYes Xi7.here hx rfl (pc0 := 146) (pc' := 151) rfl (hb hby at_146) rfl ((if0 _ _).trans (flt (own_bd (own_zn hbz) B_g).2).2.1) (by decide) (by decide) k_) ?_
          have J234 : Go p e below s room_1 (Q_law Z p0 p1 p2 p3 h0 n0) (Ti7.setTop (mkF m 234 #[.val (.int p0), .val (.int p1), .val (.int p2), .val (.int p3), .val (.int pw), .val (.double (FP.ddiv (FP.i2d p0) (FP.i2d pw))), .second, .val (.int bb), .val (.int kk), .val (.double (FP.ddiv (FP.i2d p0) (FP.i2d p1))), .second, .val (.int a2), .val (.double (FP.ddiv (FP.i2d a2) (FP.i2d p1))), .second, .val (.long mg), .second] [])) := by
            refine Go.st (U := (Ti7.setTop (mkF m 235 #[.val (.int p0), .val (.int p1), .val (.int p2), .val (.int p3), .val (.int pw), .val (.double (FP.ddiv (FP.i2d p0) (FP.i2d pw))), .second, .val (.int bb), .val (.int kk), .val (.double (FP.ddiv (FP.i2d p0) (FP.i2d p1))), .second, .val (.int a2), .val (.double (FP.ddiv (FP.i2d a2) (FP.i2d p1))), .second, .val (.long mg), .second] [(.int (1 : Int32))]))) (fun t_ k_ => XS.iconst Xi7.here hx rfl (hb hby at_234) k_) ?_
            refine Go.retZ Xi7 hx hlk hret (hb hby at_235) (by decide) (by decide) ?_
            exact ⟨rfl, Ni7⟩
          have J203 : Go p e below s room_1 (Q_law Z p0 p1 p2 p3 h0 n0) (Ti7.setTop (mkF m 203 #[.val (.int p0), .val (.int p1), .val (.int p2), .val (.int p3), .val (.int pw), .val (.double (FP.ddiv (FP.i2d p0) (FP.i2d pw))), .second, .val (.int bb), .val (.int kk), .val (.double (FP.ddiv (FP.i2d p0) (FP.i2d p1))), .second, .val (.int a2), .val (.double (FP.ddiv (FP.i2d a2) (FP.i2d p1))), .second, .val (.long mg), .second] [])) := by
            refine Go.st (U := (Ti7.setTop (mkF m 205 #[.val (.int p0), .val (.int p1), .val (.int p2), .val (.int p3), .val (.int pw), .val (.double (FP.ddiv (FP.i2d p0) (FP.i2d pw))), .second, .val (.int bb), .val (.int kk), .val (.double (FP.ddiv (FP.i2d p0) (FP.i2d p1))), .second, .val (.int a2), .val (.double (FP.ddiv (FP.i2d a2) (FP.i2d p1))), .second, .val (.long mg), .second] [(.int a2)]))) (fun t_ k_ => XS.iload Xi7.here hx rfl (hb hby at_203) rfl k_) ?_
            refine Go.st (U := (Ti7.setTop (mkF m 206 #[.val (.int p0), .val (.int p1), .val (.int p2), .val (.int p3), .val (.int pw), .val (.double (FP.ddiv (FP.i2d p0) (FP.i2d pw))), .second, .val (.int bb), .val (.int kk), .val (.double (FP.ddiv (FP.i2d p0) (FP.i2d p1))), .second, .val (.int a2), .val (.double (FP.ddiv (FP.i2d a2) (FP.i2d p1))), .second, .val (.long mg), .second] [(.int p0), (.int a2)]))) (fun t_ k_ => XS.iloadN Xi7.here hx rfl (hb hby at_205) rfl k_) ?_
            by_cases h206 : a2 = p0
            · refine Go.st (U := (Ti7.setTop (mkF m 234 #[.val (.int p0), .val (.int p1), .val (.int p2), .val (.int p3), .val (.int pw), .val (.double (FP.ddiv (FP.i2d p0) (FP.i2d pw))), .second, .val (.int bb), .val (.int kk), .val (.double (FP.ddiv (FP.i2d p0) (FP.i2d p1))), .second, .val (.int a2), .val (.double (FP.ddiv (FP.i2d a2) (FP.i2d p1))), .second, .val (.long mg), .second] []))) (fun t_ k_ => XS.icmpYes Xi7.here hx rfl (pc0 := 206) (pc' := 234) rfl (hb hby at_206) rfl (teq h206).1 (by decide) (by decide) k_) ?_
              exact J234  
            · refine Go.st (U := (Ti7.setTop (mkF m 209 #[.val (.int p0), .val (.int p1), .val (.int p2), .val (.int p3), .val (.int pw), .val (.double (FP.ddiv (FP.i2d p0) (FP.i2d pw))), .second, .val (.int bb), .val (.int kk), .val (.double (FP.ddiv (FP.i2d p0) (FP.i2d p1))), .second, .val (.int a2), .val (.double (FP.ddiv (FP.i2d a2) (FP.i2d p1))), .second, .val (.long mg), .second] []))) (fun t_ k_ => XS.icmpNo Xi7.here hx rfl (hb hby at_206) rfl (feq h206).1 k_) ?_
              have HA : a2.toInt = p0.toInt + 1 := B_a.resolve_right h206
              refine Go.st (U := (Ti7.setTop (mkF m 210 #[.val (.int p0), .val (.int p1), .val (.int p2), .val (.int p3), .val (.int pw), .val (.double (FP.ddiv (FP.i2d p0) (FP.i2d pw))), .second, .val (.int bb), .val (.int kk), .val (.double (FP.ddiv (FP.i2d p0) (FP.i2d p1))), .second, .val (.int a2), .val (.double (FP.ddiv (FP.i2d a2) (FP.i2d p1))), .second, .val (.long mg), .second] [(.int p1)]))) (fun t_ k_ => XS.iloadN Xi7.here hx rfl (hb hby at_209) rfl k_) ?_
              by_cases h210 : (0 : Int32) < p1
              · refine Go.st (U := (Ti7.setTop (mkF m 213 #[.val (.int p0), .val (.int p1), .val (.int p2), .val (.int p3), .val (.int pw), .val (.double (FP.ddiv (FP.i2d p0) (FP.i2d pw))), .second, .val (.int bb), .val (.int kk), .val (.double (FP.ddiv (FP.i2d p0) (FP.i2d p1))), .second, .val (.int a2), .val (.double (FP.ddiv (FP.i2d a2) (FP.i2d p1))), .second, .val (.long mg), .second] []))) (fun t_ k_ => XS.ifNo Xi7.here hx rfl (hb hby at_210) rfl ((if0 _ _).trans (tlt h210).2.2.2) k_) ?_
                refine Go.st (U := (Ti7.setTop (mkF m 215 #[.val (.int p0), .val (.int p1), .val (.int p2), .val (.int p3), .val (.int pw), .val (.double (FP.ddiv (FP.i2d p0) (FP.i2d pw))), .second, .val (.int bb), .val (.int kk), .val (.double (FP.ddiv (FP.i2d p0) (FP.i2d p1))), .second, .val (.int a2), .val (.double (FP.ddiv (FP.i2d a2) (FP.i2d p1))), .second, .val (.long mg), .second] [(.double (FP.ddiv (FP.i2d p0) (FP.i2d p1)))]))) (fun t_ k_ => XS.dload Xi7.here hx rfl (hb hby at_213) rfl k_) ?_
                refine Go.st (U := (Ti7.setTop (mkF m 217 #[.val (.int p0), .val (.int p1), .val (.int p2), .val (.int p3), .val (.int pw), .val (.double (FP.ddiv (FP.i2d p0) (FP.i2d pw))), .second, .val (.int bb), .val (.int kk), .val (.double (FP.ddiv (FP.i2d p0) (FP.i2d p1))), .second, .val (.int a2), .val (.double (FP.ddiv (FP.i2d a2) (FP.i2d p1))), .second, .val (.long mg), .second] [(.double (FP.ddiv (FP.i2d a2) (FP.i2d p1))), (.double (FP.ddiv (FP.i2d p0) (FP.i2d p1)))]))) (fun t_ k_ => XS.dload Xi7.here hx rfl (hb hby at_215) rfl k_) ?_
                refine Go.st (U := (Ti7.setTop (mkF m 218 #[.val (.int p0), .val (.int p1), .val (.int p2), .val (.int p3), .val (.int pw), .val (.double (FP.ddiv (FP.i2d p0) (FP.i2d pw))), .second, .val (.int bb), .val (.int kk), .val (.double (FP.ddiv (FP.i2d p0) (FP.i2d p1))), .second, .val (.int a2), .val (.double (FP.ddiv (FP.i2d a2) (FP.i2d p1))), .second, .val (.long mg), .second] [(.int (cmpValue (FP.dcmp (FP.ddiv (FP.i2d p0) (FP.i2d p1)) (FP.ddiv (FP.i2d a2) (FP.i2d p1))) .g))]))) (fun t_ k_ => XS.dcmpS Xi7.here hx rfl (hb hby at_217) rfl rfl k_) ?_
                refine Go.st (U := (Ti7.setTop (mkF m 234 #[.val (.int p0), .val (.int p1), .val (.int p2), .val (.int p3), .val (.int pw), .val (.double (FP.ddiv (FP.i2d p0) (FP.i2d pw))), .second, .val (.int bb), .val (.int kk), .val (.double (FP.ddiv (FP.i2d p0) (FP.i2d p1))), .second, .val (.int a2), .val (.double (FP.ddiv (FP.i2d a2) (FP.i2d p1))), .second, .val (.long mg), .second] []))) (fun t_ k_ => XS.ifYes Xi7.here hx rfl (pc0 := 218) (pc' := 234) rfl (hb hby at_218) rfl ((if0 _ _).trans (tlt ((own_mono (own_zn hbz) HA).1 (own_pz h210))).1) (by decide) (by decide) k_) ?_
                exact J234  
              · refine Go.st (U := (Ti7.setTop (mkF m 224 #[.val (.int p0), .val (.int p1), .val (.int p2), .val (.int p3), .val (.int pw), .val (.double (FP.ddiv (FP.i2d p0) (FP.i2d pw))), .second, .val (.int bb), .val (.int kk), .val (.double (FP.ddiv (FP.i2d p0) (FP.i2d p1))), .second, .val (.int a2), .val (.double (FP.ddiv (FP.i2d a2) (FP.i2d p1))), .second, .val (.long mg), .second] []))) (fun t_ k_ => XS.ifYes Xi7.here hx rfl (pc0 := 210) (pc' := 224) rfl (hb hby at_210) rfl ((if0 _ _).trans (flt h210).2.2.2) (by decide) (by decide) k_) ?_
                have HB : p1.toInt < 0 := by
                  have x1 := own_zn hbz; have x2 := own_nz h210
                  omega
                refine Go.st (U := (Ti7.setTop (mkF m 226 #[.val (.int p0), .val (.int p1), .val (.int p2), .val (.int p3), .val (.int pw), .val (.double (FP.ddiv (FP.i2d p0) (FP.i2d pw))), .second, .val (.int bb), .val (.int kk), .val (.double (FP.ddiv (FP.i2d p0) (FP.i2d p1))), .second, .val (.int a2), .val (.double (FP.ddiv (FP.i2d a2) (FP.i2d p1))), .second, .val (.long mg), .second] [(.double (FP.ddiv (FP.i2d p0) (FP.i2d p1)))]))) (fun t_ k_ => XS.dload Xi7.here hx rfl (hb hby at_224) rfl k_) ?_
                refine Go.st (U := (Ti7.setTop (mkF m 228 #[.val (.int p0), .val (.int p1), .val (.int p2), .val (.int p3), .val (.int pw), .val (.double (FP.ddiv (FP.i2d p0) (FP.i2d pw))), .second, .val (.int bb), .val (.int kk), .val (.double (FP.ddiv (FP.i2d p0) (FP.i2d p1))), .second, .val (.int a2), .val (.double (FP.ddiv (FP.i2d a2) (FP.i2d p1))), .second, .val (.long mg), .second] [(.double (FP.ddiv (FP.i2d a2) (FP.i2d p1))), (.double (FP.ddiv (FP.i2d p0) (FP.i2d p1)))]))) (fun t_ k_ => XS.dload Xi7.here hx rfl (hb hby at_226) rfl k_) ?_
                refine Go.st (U := (Ti7.setTop (mkF m 229 #[.val (.int p0), .val (.int p1), .val (.int p2), .val (.int p3), .val (.int pw), .val (.double (FP.ddiv (FP.i2d p0) (FP.i2d pw))), .second, .val (.int bb), .val (.int kk), .val (.double (FP.ddiv (FP.i2d p0) (FP.i2d p1))), .second, .val (.int a2), .val (.double (FP.ddiv (FP.i2d a2) (FP.i2d p1))), .second, .val (.long mg), .second] [(.int (cmpValue (FP.dcmp (FP.ddiv (FP.i2d p0) (FP.i2d p1)) (FP.ddiv (FP.i2d a2) (FP.i2d p1))) .l))]))) (fun t_ k_ => XS.dcmpS Xi7.here hx rfl (hb hby at_228) rfl rfl k_) ?_
                refine Go.st (U := (Ti7.setTop (mkF m 234 #[.val (.int p0), .val (.int p1), .val (.int p2), .val (.int p3), .val (.int pw), .val (.double (FP.ddiv (FP.i2d p0) (FP.i2d pw))), .second, .val (.int bb), .val (.int kk), .val (.double (FP.ddiv (FP.i2d p0) (FP.i2d p1))), .second, .val (.int a2), .val (.double (FP.ddiv (FP.i2d a2) (FP.i2d p1))), .second, .val (.long mg), .second] []))) (fun t_ k_ => XS.ifYes Xi7.here hx rfl (pc0 := 229) (pc' := 234) rfl (hb hby at_229) rfl ((if0 _ _).trans (tlt ((own_mono (own_zn hbz) HA).2 HB)).2.2.1) (by decide) (by decide) k_) ?_
                exact J234  
          refine Go.st (U := (Ti7.setTop (mkF m 152 #[.val (.int p0), .val (.int p1), .val (.int p2), .val (.int p3), .val (.int pw), .val (.double (FP.ddiv (FP.i2d p0) (FP.i2d pw))), .second, .val (.int bb), .val (.int kk), .val (.double (FP.ddiv (FP.i2d p0) (FP.i2d p1))), .second, .val (.int a2), .val (.double (FP.ddiv (FP.i2d a2) (FP.i2d p1))), .second, .val (.long mg), .second] [(.int p0)]))) (fun t_ k_ => XS.iloadN Xi7.here hx rfl (hb hby at_151) rfl k_) ?_
          by_cases h152 : p0 = (0 : Int32)
          · refine Go.st (U := (Ti7.setTop (mkF m 155 #[.val (.int p0), .val (.int p1), .val (.int p2), .val (.int p3), .val (.int pw), .val (.double (FP.ddiv (FP.i2d p0) (FP.i2d pw))), .second, .val (.int bb), .val (.int kk), .val (.double (FP.ddiv (FP.i2d p0) (FP.i2d p1))), .second, .val (.int a2), .val (.double (FP.ddiv (FP.i2d a2) (FP.i2d p1))), .second, .val (.long mg), .second] []))) (fun t_ k_ => XS.ifNo Xi7.here hx rfl (hb hby at_152) rfl ((if0 _ _).trans (teq h152).2) k_) ?_
            refine Go.st (U := (Ti7.setTop (mkF m 157 #[.val (.int p0), .val (.int p1), .val (.int p2), .val (.int p3), .val (.int pw), .val (.double (FP.ddiv (FP.i2d p0) (FP.i2d pw))), .second, .val (.int bb), .val (.int kk), .val (.double (FP.ddiv (FP.i2d p0) (FP.i2d p1))), .second, .val (.int a2), .val (.double (FP.ddiv (FP.i2d a2) (FP.i2d p1))), .second, .val (.long mg), .second] [(.double (FP.ddiv (FP.i2d p0) (FP.i2d p1)))]))) (fun t_ k_ => XS.dload Xi7.here hx rfl (hb hby at_155) rfl k_) ?_
            refine Go.st (U := (Ti7.setTop (mkF m 158 #[.val (.int p0), .val (.int p1), .val (.int p2), .val (.int p3), .val (.int pw), .val (.double (FP.ddiv (FP.i2d p0) (FP.i2d pw))), .second, .val (.int bb), .val (.int kk), .val (.double (FP.ddiv (FP.i2d p0) (FP.i2d p1))), .second, .val (.int a2), .val (.double (FP.ddiv (FP.i2d a2) (FP.i2d p1))), .second, .val (.long mg), .second] [(.double (0 : UInt64)), (.double (FP.ddiv (FP.i2d p0) (FP.i2d p1)))]))) (fun t_ k_ => XS.dconst0 Xi7.here hx rfl (hb hby at_157) rfl k_) ?_
            refine Go.st (U := (Ti7.setTop (mkF m 159 #[.val (.int p0), .val (.int p1), .val (.int p2), .val (.int p3), .val (.int pw), .val (.double (FP.ddiv (FP.i2d p0) (FP.i2d pw))), .second, .val (.int bb), .val (.int kk), .val (.double (FP.ddiv (FP.i2d p0) (FP.i2d p1))), .second, .val (.int a2), .val (.double (FP.ddiv (FP.i2d a2) (FP.i2d p1))), .second, .val (.long mg), .second] [(.int (cmpValue (FP.dcmp (FP.ddiv (FP.i2d p0) (FP.i2d p1)) (0 : UInt64)) .l))]))) (fun t_ k_ => XS.dcmpS Xi7.here hx rfl (hb hby at_158) rfl rfl k_) ?_
            refine Go.st (U := (Ti7.setTop (mkF m 203 #[.val (.int p0), .val (.int p1), .val (.int p2), .val (.int p3), .val (.int pw), .val (.double (FP.ddiv (FP.i2d p0) (FP.i2d pw))), .second, .val (.int bb), .val (.int kk), .val (.double (FP.ddiv (FP.i2d p0) (FP.i2d p1))), .second, .val (.int a2), .val (.double (FP.ddiv (FP.i2d a2) (FP.i2d p1))), .second, .val (.long mg), .second] []))) (fun t_ k_ => XS.ifYes Xi7.here hx rfl (pc0 := 159) (pc' := 203) rfl (hb hby at_159) rfl ((if0 _ _).trans (teq ((own_sg (own_zn hbz)).1 (own_z h152))).1) (by decide) (by decide) k_) ?_
            exact J203  
          · refine Go.st (U := (Ti7.setTop (mkF m 164 #[.val (.int p0), .val (.int p1), .val (.int p2), .val (.int p3), .val (.int pw), .val (.double (FP.ddiv (FP.i2d p0) (FP.i2d pw))), .second, .val (.int bb), .val (.int kk), .val (.double (FP.ddiv (FP.i2d p0) (FP.i2d p1))), .second, .val (.int a2), .val (.double (FP.ddiv (FP.i2d a2) (FP.i2d p1))), .second, .val (.long mg), .second] []))) (fun t_ k_ => XS.ifYes Xi7.here hx rfl (pc0 := 152) (pc' := 164) rfl (hb hby at_152) rfl ((if0 _ _).trans (feq h152).2) (by decide) (by decide) k_) ?_
            refine Go.st (U := (Ti7.setTop (mkF m 165 #[.val (.int p0), .val (.int p1), .val (.int p2), .val (.int p3), .val (.int pw), .val (.double (FP.ddiv (FP.i2d p0) (FP.i2d pw))), .second, .val (.int bb), .val (.int kk), .val (.double (FP.ddiv (FP.i2d p0) (FP.i2d p1))), .second, .val (.int a2), .val (.double (FP.ddiv (FP.i2d a2) (FP.i2d p1))), .second, .val (.long mg), .second] [(.int p0)]))) (fun t_ k_ => XS.iloadN Xi7.here hx rfl (hb hby at_164) rfl k_) ?_
            by_cases h165 : (0 : Int32) < p0
            · refine Go.st (U := (Ti7.setTop (mkF m 168 #[.val (.int p0), .val (.int p1), .val (.int p2), .val (.int p3), .val (.int pw), .val (.double (FP.ddiv (FP.i2d p0) (FP.i2d pw))), .second, .val (.int bb), .val (.int kk), .val (.double (FP.ddiv (FP.i2d p0) (FP.i2d p1))), .second, .val (.int a2), .val (.double (FP.ddiv (FP.i2d a2) (FP.i2d p1))), .second, .val (.long mg), .second] []))) (fun t_ k_ => XS.ifNo Xi7.here hx rfl (hb hby at_165) rfl ((if0 _ _).trans (tlt h165).2.2.2) k_) ?_
              refine Go.st (U := (Ti7.setTop (mkF m 169 #[.val (.int p0), .val (.int p1), .val (.int p2), .val (.int p3), .val (.int pw), .val (.double (FP.ddiv (FP.i2d p0) (FP.i2d pw))), .second, .val (.int bb), .val (.int kk), .val (.double (FP.ddiv (FP.i2d p0) (FP.i2d p1))), .second, .val (.int a2), .val (.double (FP.ddiv (FP.i2d a2) (FP.i2d p1))), .second, .val (.long mg), .second] [(.int (1 : Int32))]))) (fun t_ k_ => XS.iconst Xi7.here hx rfl (hb hby at_168) k_) ?_
              refine Go.st (U := (Ti7.setTop (mkF m 173 #[.val (.int p0), .val (.int p1), .val (.int p2), .val (.int p3), .val (.int pw), .val (.double (FP.ddiv (FP.i2d p0) (FP.i2d pw))), .second, .val (.int bb), .val (.int kk), .val (.double (FP.ddiv (FP.i2d p0) (FP.i2d p1))), .second, .val (.int a2), .val (.double (FP.ddiv (FP.i2d a2) (FP.i2d p1))), .second, .val (.long mg), .second] [(.int (1 : Int32))]))) (fun t_ k_ => XS.goto Xi7.here hx rfl (pc0 := 169) (pc' := 173) rfl (hb hby at_169) (by decide) (by decide) k_) ?_
              refine Go.st (U := (Ti7.setTop (mkF m 174 #[.val (.int p0), .val (.int p1), .val (.int p2), .val (.int p3), .val (.int pw), .val (.double (FP.ddiv (FP.i2d p0) (FP.i2d pw))), .second, .val (.int bb), .val (.int kk), .val (.double (FP.ddiv (FP.i2d p0) (FP.i2d p1))), .second, .val (.int a2), .val (.double (FP.ddiv (FP.i2d a2) (FP.i2d p1))), .second, .val (.long mg), .second] [(.int p1), (.int (1 : Int32))]))) (fun t_ k_ => XS.iloadN Xi7.here hx rfl (hb hby at_173) rfl k_) ?_
              by_cases h174 : (0 : Int32) < p1
              · refine Go.st (U := (Ti7.setTop (mkF m 177 #[.val (.int p0), .val (.int p1), .val (.int p2), .val (.int p3), .val (.int pw), .val (.double (FP.ddiv (FP.i2d p0) (FP.i2d pw))), .second, .val (.int bb), .val (.int kk), .val (.double (FP.ddiv (FP.i2d p0) (FP.i2d p1))), .second, .val (.int a2), .val (.double (FP.ddiv (FP.i2d a2) (FP.i2d p1))), .second, .val (.long mg), .second] [(.int (1 : Int32))]))) (fun t_ k_ => XS.ifNo Xi7.here hx rfl (hb hby at_174) rfl ((if0 _ _).trans (tlt h174).2.2.2) k_) ?_
                refine Go.st (U := (Ti7.setTop (mkF m 178 #[.val (.int p0), .val (.int p1), .val (.int p2), .val (.int p3), .val (.int pw), .val (.double (FP.ddiv (FP.i2d p0) (FP.i2d pw))), .second, .val (.int bb), .val (.int kk), .val (.double (FP.ddiv (FP.i2d p0) (FP.i2d p1))), .second, .val (.int a2), .val (.double (FP.ddiv (FP.i2d a2) (FP.i2d p1))), .second, .val (.long mg), .second] [(.int (1 : Int32)), (.int (1 : Int32))]))) (fun t_ k_ => XS.iconst Xi7.here hx rfl (hb hby at_177) k_) ?_
                refine Go.st (U := (Ti7.setTop (mkF m 182 #[.val (.int p0), .val (.int p1), .val (.int p2), .val (.int p3), .val (.int pw), .val (.double (FP.ddiv (FP.i2d p0) (FP.i2d pw))), .second, .val (.int bb), .val (.int kk), .val (.double (FP.ddiv (FP.i2d p0) (FP.i2d p1))), .second, .val (.int a2), .val (.double (FP.ddiv (FP.i2d a2) (FP.i2d p1))), .second, .val (.long mg), .second] [(.int (1 : Int32)), (.int (1 : Int32))]))) (fun t_ k_ => XS.goto Xi7.here hx rfl (pc0 := 178) (pc' := 182) rfl (hb hby at_178) (by decide) (by decide) k_) ?_
                refine Go.st (U := (Ti7.setTop (mkF m 185 #[.val (.int p0), .val (.int p1), .val (.int p2), .val (.int p3), .val (.int pw), .val (.double (FP.ddiv (FP.i2d p0) (FP.i2d pw))), .second, .val (.int bb), .val (.int kk), .val (.double (FP.ddiv (FP.i2d p0) (FP.i2d p1))), .second, .val (.int a2), .val (.double (FP.ddiv (FP.i2d a2) (FP.i2d p1))), .second, .val (.long mg), .second] []))) (fun t_ k_ => XS.icmpNo Xi7.here hx rfl (hb hby at_182) rfl (teq (rfl : _ = _)).2 k_) ?_
                have HS : (0 < p0.toInt ∧ 0 < p1.toInt) ∨ (p0.toInt < 0 ∧ p1.toInt < 0) := by
                  have x1 := own_zn hbz; have x2 := own_zn h152
                  have x3 := own_pz h165; have x4 := own_pz h174
                  omega
                refine Go.st (U := (Ti7.setTop (mkF m 187 #[.val (.int p0), .val (.int p1), .val (.int p2), .val (.int p3), .val (.int pw), .val (.double (FP.ddiv (FP.i2d p0) (FP.i2d pw))), .second, .val (.int bb), .val (.int kk), .val (.double (FP.ddiv (FP.i2d p0) (FP.i2d p1))), .second, .val (.int a2), .val (.double (FP.ddiv (FP.i2d a2) (FP.i2d p1))), .second, .val (.long mg), .second] [(.double (FP.ddiv (FP.i2d p0) (FP.i2d p1)))]))) (fun t_ k_ => XS.dload Xi7.here hx rfl (hb hby at_185) rfl k_) ?_
                refine Go.st (U := (Ti7.setTop (mkF m 188 #[.val (.int p0), .val (.int p1), .val (.int p2), .val (.int p3), .val (.int pw), .val (.double (FP.ddiv (FP.i2d p0) (FP.i2d pw))), .second, .val (.int bb), .val (.int kk), .val (.double (FP.ddiv (FP.i2d p0) (FP.i2d p1))), .second, .val (.int a2), .val (.double (FP.ddiv (FP.i2d a2) (FP.i2d p1))), .second, .val (.long mg), .second] [(.double (0 : UInt64)), (.double (FP.ddiv (FP.i2d p0) (FP.i2d p1)))]))) (fun t_ k_ => XS.dconst0 Xi7.here hx rfl (hb hby at_187) rfl k_) ?_
                refine Go.st (U := (Ti7.setTop (mkF m 189 #[.val (.int p0), .val (.int p1), .val (.int p2), .val (.int p3), .val (.int pw), .val (.double (FP.ddiv (FP.i2d p0) (FP.i2d pw))), .second, .val (.int bb), .val (.int kk), .val (.double (FP.ddiv (FP.i2d p0) (FP.i2d p1))), .second, .val (.int a2), .val (.double (FP.ddiv (FP.i2d a2) (FP.i2d p1))), .second, .val (.long mg), .second] [(.int (cmpValue (FP.dcmp (FP.ddiv (FP.i2d p0) (FP.i2d p1)) (0 : UInt64)) .l))]))) (fun t_ k_ => XS.dcmpS Xi7.here hx rfl (hb hby at_188) rfl rfl k_) ?_
                refine Go.st (U := (Ti7.setTop (mkF m 203 #[.val (.int p0), .val (.int p1), .val (.int p2), .val (.int p3), .val (.int pw), .val (.double (FP.ddiv (FP.i2d p0) (FP.i2d pw))), .second, .val (.int bb), .val (.int kk), .val (.double (FP.ddiv (FP.i2d p0) (FP.i2d p1))), .second, .val (.int a2), .val (.double (FP.ddiv (FP.i2d a2) (FP.i2d p1))), .second, .val (.long mg), .second] []))) (fun t_ k_ => XS.ifYes Xi7.here hx rfl (pc0 := 189) (pc' := 203) rfl (hb hby at_189) rfl ((if0 _ _).trans (tlt ((own_sg (own_zn hbz)).2.1 HS)).2.2.1) (by decide) (by decide) k_) ?_
                exact J203  
              · refine Go.st (U := (Ti7.setTop (mkF m 181 #[.val (.int p0), .val (.int p1), .val (.int p2), .val (.int p3), .val (.int pw), .val (.double (FP.ddiv (FP.i2d p0) (FP.i2d pw))), .second, .val (.int bb), .val (.int kk), .val (.double (FP.ddiv (FP.i2d p0) (FP.i2d p1))), .second, .val (.int a2), .val (.double (FP.ddiv (FP.i2d a2) (FP.i2d p1))), .second, .val (.long mg), .second] [(.int (1 : Int32))]))) (fun t_ k_ => XS.ifYes Xi7.here hx rfl (pc0 := 174) (pc' := 181) rfl (hb hby at_174) rfl ((if0 _ _).trans (flt h174).2.2.2) (by decide) (by decide) k_) ?_
                refine Go.st (U := (Ti7.setTop (mkF m 182 #[.val (.int p0), .val (.int p1), .val (.int p2), .val (.int p3), .val (.int pw), .val (.double (FP.ddiv (FP.i2d p0) (FP.i2d pw))), .second, .val (.int bb), .val (.int kk), .val (.double (FP.ddiv (FP.i2d p0) (FP.i2d p1))), .second, .val (.int a2), .val (.double (FP.ddiv (FP.i2d a2) (FP.i2d p1))), .second, .val (.long mg), .second] [(.int (0 : Int32)), (.int (1 : Int32))]))) (fun t_ k_ => XS.iconst Xi7.here hx rfl (hb hby at_181) k_) ?_
                refine Go.st (U := (Ti7.setTop (mkF m 194 #[.val (.int p0), .val (.int p1), .val (.int p2), .val (.int p3), .val (.int pw), .val (.double (FP.ddiv (FP.i2d p0) (FP.i2d pw))), .second, .val (.int bb), .val (.int kk), .val (.double (FP.ddiv (FP.i2d p0) (FP.i2d p1))), .second, .val (.int a2), .val (.double (FP.ddiv (FP.i2d a2) (FP.i2d p1))), .second, .val (.long mg), .second] []))) (fun t_ k_ => XS.icmpYes Xi7.here hx rfl (pc0 := 182) (pc' := 194) rfl (hb hby at_182) rfl (feq (by decide)).2 (by decide) (by decide) k_) ?_
                have HS : (0 < p0.toInt ∧ p1.toInt < 0) ∨ (p0.toInt < 0 ∧ 0 < p1.toInt) := by
                  have x1 := own_zn hbz; have x2 := own_zn h152
                  have x3 := own_pz h165; have x4 := own_nz h174
                  omega
                refine Go.st (U := (Ti7.setTop (mkF m 196 #[.val (.int p0), .val (.int p1), .val (.int p2), .val (.int p3), .val (.int pw), .val (.double (FP.ddiv (FP.i2d p0) (FP.i2d pw))), .second, .val (.int bb), .val (.int kk), .val (.double (FP.ddiv (FP.i2d p0) (FP.i2d p1))), .second, .val (.int a2), .val (.double (FP.ddiv (FP.i2d a2) (FP.i2d p1))), .second, .val (.long mg), .second] [(.double (FP.ddiv (FP.i2d p0) (FP.i2d p1)))]))) (fun t_ k_ => XS.dload Xi7.here hx rfl (hb hby at_194) rfl k_) ?_
                refine Go.st (U := (Ti7.setTop (mkF m 197 #[.val (.int p0), .val (.int p1), .val (.int p2), .val (.int p3), .val (.int pw), .val (.double (FP.ddiv (FP.i2d p0) (FP.i2d pw))), .second, .val (.int bb), .val (.int kk), .val (.double (FP.ddiv (FP.i2d p0) (FP.i2d p1))), .second, .val (.int a2), .val (.double (FP.ddiv (FP.i2d a2) (FP.i2d p1))), .second, .val (.long mg), .second] [(.double (0 : UInt64)), (.double (FP.ddiv (FP.i2d p0) (FP.i2d p1)))]))) (fun t_ k_ => XS.dconst0 Xi7.here hx rfl (hb hby at_196) rfl k_) ?_
                refine Go.st (U := (Ti7.setTop (mkF m 198 #[.val (.int p0), .val (.int p1), .val (.int p2), .val (.int p3), .val (.int pw), .val (.double (FP.ddiv (FP.i2d p0) (FP.i2d pw))), .second, .val (.int bb), .val (.int kk), .val (.double (FP.ddiv (FP.i2d p0) (FP.i2d p1))), .second, .val (.int a2), .val (.double (FP.ddiv (FP.i2d a2) (FP.i2d p1))), .second, .val (.long mg), .second] [(.int (cmpValue (FP.dcmp (FP.ddiv (FP.i2d p0) (FP.i2d p1)) (0 : UInt64)) .g))]))) (fun t_ k_ => XS.dcmpS Xi7.here hx rfl (hb hby at_197) rfl rfl k_) ?_
                refine Go.st (U := (Ti7.setTop (mkF m 203 #[.val (.int p0), .val (.int p1), .val (.int p2), .val (.int p3), .val (.int pw), .val (.double (FP.ddiv (FP.i2d p0) (FP.i2d pw))), .second, .val (.int bb), .val (.int kk), .val (.double (FP.ddiv (FP.i2d p0) (FP.i2d p1))), .second, .val (.int a2), .val (.double (FP.ddiv (FP.i2d a2) (FP.i2d p1))), .second, .val (.long mg), .second] []))) (fun t_ k_ => XS.ifYes Xi7.here hx rfl (pc0 := 198) (pc' := 203) rfl (hb hby at_198) rfl ((if0 _ _).trans (tlt ((own_sg (own_zn hbz)).2.2 HS)).1) (by decide) (by decide) k_) ?_
                exact J203  
            · refine Go.st (U := (Ti7.setTop (mkF m 172 #[.val (.int p0), .val (.int p1), .val (.int p2), .val (.int p3), .val (.int pw), .val (.double (FP.ddiv (FP.i2d p0) (FP.i2d pw))), .second, .val (.int bb), .val (.int kk), .val (.double (FP.ddiv (FP.i2d p0) (FP.i2d p1))), .second, .val (.int a2), .val (.double (FP.ddiv (FP.i2d a2) (FP.i2d p1))), .second, .val (.long mg), .second] []))) (fun t_ k_ => XS.ifYes Xi7.here hx rfl (pc0 := 165) (pc' := 172) rfl (hb hby at_165) rfl ((if0 _ _).trans (flt h165).2.2.2) (by decide) (by decide) k_) ?_
              refine Go.st (U := (Ti7.setTop (mkF m 173 #[.val (.int p0), .val (.int p1), .val (.int p2), .val (.int p3), .val (.int pw), .val (.double (FP.ddiv (FP.i2d p0) (FP.i2d pw))), .second, .val (.int bb), .val (.int kk), .val (.double (FP.ddiv (FP.i2d p0) (FP.i2d p1))), .second, .val (.int a2), .val (.double (FP.ddiv (FP.i2d a2) (FP.i2d p1))), .second, .val (.long mg), .second] [(.int (0 : Int32))]))) (fun t_ k_ => XS.iconst Xi7.here hx rfl (hb hby at_172) k_) ?_
              refine Go.st (U := (Ti7.setTop (mkF m 174 #[.val (.int p0), .val (.int p1), .val (.int p2), .val (.int p3), .val (.int pw), .val (.double (FP.ddiv (FP.i2d p0) (FP.i2d pw))), .second, .val (.int bb), .val (.int kk), .val (.double (FP.ddiv (FP.i2d p0) (FP.i2d p1))), .second, .val (.int a2), .val (.double (FP.ddiv (FP.i2d a2) (FP.i2d p1))), .second, .val (.long mg), .second] [(.int p1), (.int (0 : Int32))]))) (fun t_ k_ => XS.iloadN Xi7.here hx rfl (hb hby at_173) rfl k_) ?_
              by_cases h174 : (0 : Int32) < p1
              · refine Go.st (U := (Ti7.setTop (mkF m 177 #[.val (.int p0), .val (.int p1), .val (.int p2), .val (.int p3), .val (.int pw), .val (.double (FP.ddiv (FP.i2d p0) (FP.i2d pw))), .second, .val (.int bb), .val (.int kk), .val (.double (FP.ddiv (FP.i2d p0) (FP.i2d p1))), .second, .val (.int a2), .val (.double (FP.ddiv (FP.i2d a2) (FP.i2d p1))), .second, .val (.long mg), .second] [(.int (0 : Int32))]))) (fun t_ k_ => XS.ifNo Xi7.here hx rfl (hb hby at_174) rfl ((if0 _ _).trans (tlt h174).2.2.2) k_) ?_
                refine Go.st (U := (Ti7.setTop (mkF m 178 #[.val (.int p0), .val (.int p1), .val (.int p2), .val (.int p3), .val (.int pw), .val (.double (FP.ddiv (FP.i2d p0) (FP.i2d pw))), .second, .val (.int bb), .val (.int kk), .val (.double (FP.ddiv (FP.i2d p0) (FP.i2d p1))), .second, .val (.int a2), .val (.double (FP.ddiv (FP.i2d a2) (FP.i2d p1))), .second, .val (.long mg), .second] [(.int (1 : Int32)), (.int (0 : Int32))]))) (fun t_ k_ => XS.iconst Xi7.here hx rfl (hb hby at_177) k_) ?_
                refine Go.st (U := (Ti7.setTop (mkF m 182 #[.val (.int p0), .val (.int p1), .val (.int p2), .val (.int p3), .val (.int pw), .val (.double (FP.ddiv (FP.i2d p0) (FP.i2d pw))), .second, .val (.int bb), .val (.int kk), .val (.double (FP.ddiv (FP.i2d p0) (FP.i2d p1))), .second, .val (.int a2), .val (.double (FP.ddiv (FP.i2d a2) (FP.i2d p1))), .second, .val (.long mg), .second] [(.int (1 : Int32)), (.int (0 : Int32))]))) (fun t_ k_ => XS.goto Xi7.here hx rfl (pc0 := 178) (pc' := 182) rfl (hb hby at_178) (by decide) (by decide) k_) ?_
                refine Go.st (U := (Ti7.setTop (mkF m 194 #[.val (.int p0), .val (.int p1), .val (.int p2), .val (.int p3), .val (.int pw), .val (.double (FP.ddiv (FP.i2d p0) (FP.i2d pw))), .second, .val (.int bb), .val (.int kk), .val (.double (FP.ddiv (FP.i2d p0) (FP.i2d p1))), .second, .val (.int a2), .val (.double (FP.ddiv (FP.i2d a2) (FP.i2d p1))), .second, .val (.long mg), .second] []))) (fun t_ k_ => XS.icmpYes Xi7.here hx rfl (pc0 := 182) (pc' := 194) rfl (hb hby at_182) rfl (feq (by decide)).2 (by decide) (by decide) k_) ?_
                have HS : (0 < p0.toInt ∧ p1.toInt < 0) ∨ (p0.toInt < 0 ∧ 0 < p1.toInt) := by
                  have x1 := own_zn hbz; have x2 := own_zn h152
                  have x3 := own_nz h165; have x4 := own_pz h174
                  omega
                refine Go.st (U := (Ti7.setTop (mkF m 196 #[.val (.int p0), .val (.int p1), .val (.int p2), .val (.int p3), .val (.int pw), .val (.double (FP.ddiv (FP.i2d p0) (FP.i2d pw))), .second, .val (.int bb), .val (.int kk), .val (.double (FP.ddiv (FP.i2d p0) (FP.i2d p1))), .second, .val (.int a2), .val (.double (FP.ddiv (FP.i2d a2) (FP.i2d p1))), .second, .val (.long mg), .second] [(.double (FP.ddiv (FP.i2d p0) (FP.i2d p1)))]))) (fun t_ k_ => XS.dload Xi7.here hx rfl (hb hby at_194) rfl k_) ?_
                refine Go.st (U := (Ti7.setTop (mkF m 197 #[.val (.int p0), .val (.int p1), .val (.int p2), .val (.int p3), .val (.int pw), .val (.double (FP.ddiv (FP.i2d p0) (FP.i2d pw))), .second, .val (.int bb), .val (.int kk), .val (.double (FP.ddiv (FP.i2d p0) (FP.i2d p1))), .second, .val (.int a2), .val (.double (FP.ddiv (FP.i2d a2) (FP.i2d p1))), .second, .val (.long mg), .second] [(.double (0 : UInt64)), (.double (FP.ddiv (FP.i2d p0) (FP.i2d p1)))]))) (fun t_ k_ => XS.dconst0 Xi7.here hx rfl (hb hby at_196) rfl k_) ?_
                refine Go.st (U := (Ti7.setTop (mkF m 198 #[.val (.int p0), .val (.int p1), .val (.int p2), .val (.int p3), .val (.int pw), .val (.double (FP.ddiv (FP.i2d p0) (FP.i2d pw))), .second, .val (.int bb), .val (.int kk), .val (.double (FP.ddiv (FP.i2d p0) (FP.i2d p1))), .second, .val (.int a2), .val (.double (FP.ddiv (FP.i2d a2) (FP.i2d p1))), .second, .val (.long mg), .second] [(.int (cmpValue (FP.dcmp (FP.ddiv (FP.i2d p0) (FP.i2d p1)) (0 : UInt64)) .g))]))) (fun t_ k_ => XS.dcmpS Xi7.here hx rfl (hb hby at_197) rfl rfl k_) ?_
                refine Go.st (U := (Ti7.setTop (mkF m 203 #[.val (.int p0), .val (.int p1), .val (.int p2), .val (.int p3), .val (.int pw), .val (.double (FP.ddiv (FP.i2d p0) (FP.i2d pw))), .second, .val (.int bb), .val (.int kk), .val (.double (FP.ddiv (FP.i2d p0) (FP.i2d p1))), .second, .val (.int a2), .val (.double (FP.ddiv (FP.i2d a2) (FP.i2d p1))), .second, .val (.long mg), .second] []))) (fun t_ k_ => XS.ifYes Xi7.here hx rfl (pc0 := 198) (pc' := 203) rfl (hb hby at_198) rfl ((if0 _ _).trans (tlt ((own_sg (own_zn hbz)).2.2 HS)).1) (by decide) (by decide) k_) ?_
                exact J203  
              · refine Go.st (U := (Ti7.setTop (mkF m 181 #[.val (.int p0), .val (.int p1), .val (.int p2), .val (.int p3), .val (.int pw), .val (.double (FP.ddiv (FP.i2d p0) (FP.i2d pw))), .second, .val (.int bb), .val (.int kk), .val (.double (FP.ddiv (FP.i2d p0) (FP.i2d p1))), .second, .val (.int a2), .val (.double (FP.ddiv (FP.i2d a2) (FP.i2d p1))), .second, .val (.long mg), .second] [(.int (0 : Int32))]))) (fun t_ k_ => XS.ifYes Xi7.here hx rfl (pc0 := 174) (pc' := 181) rfl (hb hby at_174) rfl ((if0 _ _).trans (flt h174).2.2.2) (by decide) (by decide) k_) ?_
                refine Go.st (U := (Ti7.setTop (mkF m 182 #[.val (.int p0), .val (.int p1), .val (.int p2), .val (.int p3), .val (.int pw), .val (.double (FP.ddiv (FP.i2d p0) (FP.i2d pw))), .second, .val (.int bb), .val (.int kk), .val (.double (FP.ddiv (FP.i2d p0) (FP.i2d p1))), .second, .val (.int a2), .val (.double (FP.ddiv (FP.i2d a2) (FP.i2d p1))), .second, .val (.long mg), .second] [(.int (0 : Int32)), (.int (0 : Int32))]))) (fun t_ k_ => XS.iconst Xi7.here hx rfl (hb hby at_181) k_) ?_
                refine Go.st (U := (Ti7.setTop (mkF m 185 #[.val (.int p0), .val (.int p1), .val (.int p2), .val (.int p3), .val (.int pw), .val (.double (FP.ddiv (FP.i2d p0) (FP.i2d pw))), .second, .val (.int bb), .val (.int kk), .val (.double (FP.ddiv (FP.i2d p0) (FP.i2d p1))), .second, .val (.int a2), .val (.double (FP.ddiv (FP.i2d a2) (FP.i2d p1))), .second, .val (.long mg), .second] []))) (fun t_ k_ => XS.icmpNo Xi7.here hx rfl (hb hby at_182) rfl (teq (rfl : _ = _)).2 k_) ?_
                have HS : (0 < p0.toInt ∧ 0 < p1.toInt) ∨ (p0.toInt < 0 ∧ p1.toInt < 0) := by
                  have x1 := own_zn hbz; have x2 := own_zn h152
                  have x3 := own_nz h165; have x4 := own_nz h174
                  omega
                refine Go.st (U := (Ti7.setTop (mkF m 187 #[.val (.int p0), .val (.int p1), .val (.int p2), .val (.int p3), .val (.int pw), .val (.double (FP.ddiv (FP.i2d p0) (FP.i2d pw))), .second, .val (.int bb), .val (.int kk), .val (.double (FP.ddiv (FP.i2d p0) (FP.i2d p1))), .second, .val (.int a2), .val (.double (FP.ddiv (FP.i2d a2) (FP.i2d p1))), .second, .val (.long mg), .second] [(.double (FP.ddiv (FP.i2d p0) (FP.i2d p1)))]))) (fun t_ k_ => XS.dload Xi7.here hx rfl (hb hby at_185) rfl k_) ?_
                refine Go.st (U := (Ti7.setTop (mkF m 188 #[.val (.int p0), .val (.int p1), .val (.int p2), .val (.int p3), .val (.int pw), .val (.double (FP.ddiv (FP.i2d p0) (FP.i2d pw))), .second, .val (.int bb), .val (.int kk), .val (.double (FP.ddiv (FP.i2d p0) (FP.i2d p1))), .second, .val (.int a2), .val (.double (FP.ddiv (FP.i2d a2) (FP.i2d p1))), .second, .val (.long mg), .second] [(.double (0 : UInt64)), (.double (FP.ddiv (FP.i2d p0) (FP.i2d p1)))]))) (fun t_ k_ => XS.dconst0 Xi7.here hx rfl (hb hby at_187) rfl k_) ?_
                refine Go.st (U := (Ti7.setTop (mkF m 189 #[.val (.int p0), .val (.int p1), .val (.int p2), .val (.int p3), .val (.int pw), .val (.double (FP.ddiv (FP.i2d p0) (FP.i2d pw))), .second, .val (.int bb), .val (.int kk), .val (.double (FP.ddiv (FP.i2d p0) (FP.i2d p1))), .second, .val (.int a2), .val (.double (FP.ddiv (FP.i2d a2) (FP.i2d p1))), .second, .val (.long mg), .second] [(.int (cmpValue (FP.dcmp (FP.ddiv (FP.i2d p0) (FP.i2d p1)) (0 : UInt64)) .l))]))) (fun t_ k_ => XS.dcmpS Xi7.here hx rfl (hb hby at_188) rfl rfl k_) ?_
                refine Go.st (U := (Ti7.setTop (mkF m 203 #[.val (.int p0), .val (.int p1), .val (.int p2), .val (.int p3), .val (.int pw), .val (.double (FP.ddiv (FP.i2d p0) (FP.i2d pw))), .second, .val (.int bb), .val (.int kk), .val (.double (FP.ddiv (FP.i2d p0) (FP.i2d p1))), .second, .val (.int a2), .val (.double (FP.ddiv (FP.i2d a2) (FP.i2d p1))), .second, .val (.long mg), .second] []))) (fun t_ k_ => XS.ifYes Xi7.here hx rfl (pc0 := 189) (pc' := 203) rfl (hb hby at_189) rfl ((if0 _ _).trans (tlt ((own_sg (own_zn hbz)).2.1 HS)).2.2.1) (by decide) (by decide) k_) ?_
                exact J203  
        · refine Go.st (U := (Ti6.setTop (mkF m 124 #[.val (.int p0), .val (.int p1), .val (.int p2), .val (.int p3), .val (.int pw), .val (.double (FP.ddiv (FP.i2d p0) (FP.i2d pw))), .second, .val (.int bb), .val (.int kk), .val (.double (FP.ddiv (FP.i2d p0) (FP.i2d p1))), .second, .val (.int a2), .val (.double (FP.ddiv (FP.i2d a2) (FP.i2d p1))), .second, .unset, .unset] [(.int p0)]))) (fun t_ k_ => XS.iloadN Xi6.here hx rfl (hb hby at_123) rfl k_) ?_
          refine Go.st (U := (Ti6.setTop (mkF m 125 #[.val (.int p0), .val (.int p1), .val (.int p2), .val (.int p3), .val (.int pw), .val (.double (FP.ddiv (FP.i2d p0) (FP.i2d pw))), .second, .val (.int bb), .val (.int kk), .val (.double (FP.ddiv (FP.i2d p0) (FP.i2d p1))), .second, .val (.int a2), .val (.double (FP.ddiv (FP.i2d a2) (FP.i2d p1))), .second, .unset, .unset] [(.long (p0.toInt64))]))) (fun t_ k_ => XS.i2l Xi6.here hx rfl (hb hby at_124) rfl k_) ?_
          refine Go.callS Xi6 hx hZ hown (hw _ (List.mem_of_getElem? (i := 41) rfl)) (hw _ (List.mem_of_getElem? (i := 42) rfl)) (hw _ (List.mem_of_getElem? (i := 43) rfl)) (hw _ (List.mem_of_getElem? (i := 44) rfl)) (by decide) (rm_absp l Z a0 hw [] (p0.toInt64) Ti6.heap n0 Zi6 hs) (rfl : Ti6.heap = Ti6.heap) 0 (by decide) (by decide) (g := (mkF m 125 #[.val (.int p0), .val (.int p1), .val (.int p2), .val (.int p3), .val (.int pw), .val (.double (FP.ddiv (FP.i2d p0) (FP.i2d pw))), .second, .val (.int bb), .val (.int kk), .val (.double (FP.ddiv (FP.i2d p0) (FP.i2d p1))), .second, .val (.int a2), .val (.double (FP.ddiv (FP.i2d a2) (FP.i2d p1))), .second, .unset, .unset] [(.long (p0.toInt64))])) rfl (by rw [hml]; rfl) [(.long (p0.toInt64))] [] rfl (lenOf pd4 rfl) rfl (by show 2 * 0 + _ ≤ _; exact Nat.le_of_eq rfl) (hb hby at_125) (by decide) (by decide) ?_
          intro vi8 Ti8 Li8 hQi8 Xi8
          obtain ⟨rfl, Ni8, ei8⟩ := hQi8
          have Ni8 := Fr.app Ni6 Ni8
          show Go p e below s _ _ (Ti8.setTop (mkF m 128 #[.val (.int p0), .val (.int p1), .val (.int p2), .val (.int p3), .val (.int pw), .val (.double (FP.ddiv (FP.i2d p0) (FP.i2d pw))), .second, .val (.int bb), .val (.int kk), .val (.double (FP.ddiv (FP.i2d p0) (FP.i2d p1))), .second, .val (.int a2), .val (.double (FP.ddiv (FP.i2d a2) (FP.i2d p1))), .second, .unset, .unset] [(.long (p0.toInt64))]))
          generalize q_mg : (p0.toInt64) = mg
          refine Go.st (U := (Ti8.setTop (mkF m 130 #[.val (.int p0), .val (.int p1), .val (.int p2), .val (.int p3), .val (.int pw), .val (.double (FP.ddiv (FP.i2d p0) (FP.i2d pw))), .second, .val (.int bb), .val (.int kk), .val (.double (FP.ddiv (FP.i2d p0) (FP.i2d p1))), .second, .val (.int a2), .val (.double (FP.ddiv (FP.i2d a2) (FP.i2d p1))), .second, .val (.long mg), .second] []))) (fun t_ k_ => XS.lstore Xi8.here hx rfl (hb hby at_128) rfl (l' := #[.val (.int p0), .val (.int p1), .val (.int p2), .val (.int p3), .val (.int pw), .val (.double (FP.ddiv (FP.i2d p0) (FP.i2d pw))), .second, .val (.int bb), .val (.int kk), .val (.double (FP.ddiv (FP.i2d p0) (FP.i2d p1))), .second, .val (.int a2), .val (.double (FP.ddiv (FP.i2d a2) (FP.i2d p1))), .second, .val (.long mg), .second]) rfl k_) ?_
          have B_g : mg.toInt = (p0.toInt.natAbs : Int) := by
            rw [← q_mg]
            exact own_absp hs
          refine Go.st (U := (Ti8.setTop (mkF m 132 #[.val (.int p0), .val (.int p1), .val (.int p2), .val (.int p3), .val (.int pw), .val (.double (FP.ddiv (FP.i2d p0) (FP.i2d pw))), .second, .val (.int bb), .val (.int kk), .val (.double (FP.ddiv (FP.i2d p0) (FP.i2d p1))), .second, .val (.int a2), .val (.double (FP.ddiv (FP.i2d a2) (FP.i2d p1))), .second, .val (.long mg), .second] [(.double (FP.ddiv (FP.i2d p0) (FP.i2d p1)))]))) (fun t_ k_ => XS.dload Xi8.here hx rfl (hb hby at_130) rfl k_) ?_
          refine Go.st (U := (Ti8.setTop (mkF m 134 #[.val (.int p0), .val (.int p1), .val (.int p2), .val (.int p3), .val (.int pw), .val (.double (FP.ddiv (FP.i2d p0) (FP.i2d pw))), .second, .val (.int bb), .val (.int kk), .val (.double (FP.ddiv (FP.i2d p0) (FP.i2d p1))), .second, .val (.int a2), .val (.double (FP.ddiv (FP.i2d a2) (FP.i2d p1))), .second, .val (.long mg), .second] [(.long mg), (.double (FP.ddiv (FP.i2d p0) (FP.i2d p1)))]))) (fun t_ k_ => XS.lload Xi8.here hx rfl (hb hby at_132) rfl k_) ?_
          refine Go.st (U := (Ti8.setTop (mkF m 135 #[.val (.int p0), .val (.int p1), .val (.int p2), .val (.int p3), .val (.int pw), .val (.double (FP.ddiv (FP.i2d p0) (FP.i2d pw))), .second, .val (.int bb), .val (.int kk), .val (.double (FP.ddiv (FP.i2d p0) (FP.i2d p1))), .second, .val (.int a2), .val (.double (FP.ddiv (FP.i2d a2) (FP.i2d p1))), .second, .val (.long mg), .second] [(.double (FP.l2d mg)), (.double (FP.ddiv (FP.i2d p0) (FP.i2d p1)))]))) (fun t_ k_ => XS.l2dS Xi8.here hx rfl (hb hby at_134) rfl rfl k_) ?_
          refine Go.st (U := (Ti8.setTop (mkF m 136 #[.val (.int p0), .val (.int p1), .val (.int p2), .val (.int p3), .val (.int pw), .val (.double (FP.ddiv (FP.i2d p0) (FP.i2d pw))), .second, .val (.int bb), .val (.int kk), .val (.double (FP.ddiv (FP.i2d p0) (FP.i2d p1))), .second, .val (.int a2), .val (.double (FP.ddiv (FP.i2d a2) (FP.i2d p1))), .second, .val (.long mg), .second] [(.int (cmpValue (FP.dcmp (FP.ddiv (FP.i2d p0) (FP.i2d p1)) (FP.l2d mg)) .l))]))) (fun t_ k_ => XS.dcmpS Xi8.here hx rfl (hb hby at_135) rfl rfl k_) ?_
          refine Go.st (U := (Ti8.setTop (mkF m 139 #[.val (.int p0), .val (.int p1), .val (.int p2), .val (.int p3), .val (.int pw), .val (.double (FP.ddiv (FP.i2d p0) (FP.i2d pw))), .second, .val (.int bb), .val (.int kk), .val (.double (FP.ddiv (FP.i2d p0) (FP.i2d p1))), .second, .val (.int a2), .val (.double (FP.ddiv (FP.i2d a2) (FP.i2d p1))), .second, .val (.long mg), .second] []))) (fun t_ k_ => XS.ifNo Xi8.here hx rfl (hb hby at_136) rfl ((if0 _ _).trans (flt (own_bd (own_zn hbz) B_g).1).2.2.1) k_) ?_
          refine Go.st (U := (Ti8.setTop (mkF m 141 #[.val (.int p0), .val (.int p1), .val (.int p2), .val (.int p3), .val (.int pw), .val (.double (FP.ddiv (FP.i2d p0) (FP.i2d pw))), .second, .val (.int bb), .val (.int kk), .val (.double (FP.ddiv (FP.i2d p0) (FP.i2d p1))), .second, .val (.int a2), .val (.double (FP.ddiv (FP.i2d a2) (FP.i2d p1))), .second, .val (.long mg), .second] [(.double (FP.ddiv (FP.i2d p0) (FP.i2d p1)))]))) (fun t_ k_ => XS.dload Xi8.here hx rfl (hb hby at_139) rfl k_) ?_
          refine Go.st (U := (Ti8.setTop (mkF m 143 #[.val (.int p0), .val (.int p1), .val (.int p2), .val (.int p3), .val (.int pw), .val (.double (FP.ddiv (FP.i2d p0) (FP.i2d pw))), .second, .val (.int bb), .val (.int kk), .val (.double (FP.ddiv (FP.i2d p0) (FP.i2d p1))), .second, .val (.int a2), .val (.double (FP.ddiv (FP.i2d a2) (FP.i2d p1))), .second, .val (.long mg), .second] [(.long mg), (.double (FP.ddiv (FP.i2d p0) (FP.i2d p1)))]))) (fun t_ k_ => XS.lload Xi8.here hx rfl (hb hby at_141) rfl k_) ?_
          refine Go.st (U := (Ti8.setTop (mkF m 144 #[.val (.int p0), .val (.int p1), .val (.int p2), .val (.int p3), .val (.int pw), .val (.double (FP.ddiv (FP.i2d p0) (FP.i2d pw))), .second, .val (.int bb), .val (.int kk), .val (.double (FP.ddiv (FP.i2d p0) (FP.i2d p1))), .second, .val (.int a2), .val (.double (FP.ddiv (FP.i2d a2) (FP.i2d p1))), .second, .val (.long mg), .second] [(.double (FP.l2d mg)), (.double (FP.ddiv (FP.i2d p0) (FP.i2d p1)))]))) (fun t_ k_ => XS.l2dS Xi8.here hx rfl (hb hby at_143) rfl rfl k_) ?_
          refine Go.st (U := (Ti8.setTop (mkF m 145 #[.val (.int p0), .val (.int p1), .val (.int p2), .val (.int p3), .val (.int pw), .val (.double (FP.ddiv (FP.i2d p0) (FP.i2d pw))), .second, .val (.int bb), .val (.int kk), .val (.double (FP.ddiv (FP.i2d p0) (FP.i2d p1))), .second, .val (.int a2), .val (.double (FP.ddiv (FP.i2d a2) (FP.i2d p1))), .second, .val (.long mg), .second] [(.double (FP.dneg (FP.l2d mg))), (.double (FP.ddiv (FP.i2d p0) (FP.i2d p1)))]))) (fun t_ k_ => XS.dnegS Xi8.here hx rfl (hb hby at_144) rfl rfl k_) ?_
          refine Go.st (U := (Ti8.setTop (mkF m 146 #[.val (.int p0), .val (.int p1), .val (.int p2), .val (.int p3), .val (.int pw), .val (.double (FP.ddiv (FP.i2d p0) (FP.i2d pw))), .second, .val (.int bb), .val (.int kk), .val (.double (FP.ddiv (FP.i2d p0) (FP.i2d p1))), .second, .val (.int a2), .val (.double (FP.ddiv (FP.i2d a2) (FP.i2d p1))), .second, .val (.long mg), .second] [(.int (cmpValue (FP.dcmp (FP.ddiv (FP.i2d p0) (FP.i2d p1)) (FP.dneg (FP.l2d mg))) .g))]))) (fun t_ k_ => XS.dcmpS Xi8.here hx rfl (hb hby at_145) rfl rfl k_) ?_
          refine Go.st (U := (Ti8.setTop (mkF m 151 #[.val (.int p0), .val (.int p1), .val (.int p2), .val (.int p3), .val (.int pw), .val (.double (FP.ddiv (FP.i2d p0) (FP.i2d pw))), .second, .val (.int bb), .val (.int kk), .val (.double (FP.ddiv (FP.i2d p0) (FP.i2d p1))), .second, .val (.int a2), .val (.double (FP.ddiv (FP.i2d a2) (FP.i2d p1))), .second, .val (.long mg), .second] []))) (fun t_ k_ => XS.ifYes Xi8.here hx rfl (pc0 := 146) (pc' := 151) rfl (hb hby at_146) rfl ((if0 _ _).trans (flt (own_bd (own_zn hbz) B_g).2).2.1) (by decide) (by decide) k_) ?_
          have J234 : Go p e below s room_1 (Q_law Z p0 p1 p2 p3 h0 n0) (Ti8.setTop (mkF m 234 #[.val (.int p0), .val (.int p1), .val (.int p2), .val (.int p3), .val (.int pw), .val (.double (FP.ddiv (FP.i2d p0) (FP.i2d pw))), .second, .val (.int bb), .val (.int kk), .val (.double (FP.ddiv (FP.i2d p0) (FP.i2d p1))), .second, .val (.int a2), .val (.double (FP.ddiv (FP.i2d a2) (FP.i2d p1))), .second, .val (.long mg), .second] [])) := by
            refine Go.st (U := (Ti8.setTop (mkF m 235 #[.val (.int p0), .val (.int p1), .val (.int p2), .val (.int p3), .val (.int pw), .val (.double (FP.ddiv (FP.i2d p0) (FP.i2d pw))), .second, .val (.int bb), .val (.int kk), .val (.double (FP.ddiv (FP.i2d p0) (FP.i2d p1))), .second, .val (.int a2), .val (.double (FP.ddiv (FP.i2d a2) (FP.i2d p1))), .second, .val (.long mg), .second] [(.int (1 : Int32))]))) (fun t_ k_ => XS.iconst Xi8.here hx rfl (hb hby at_234) k_) ?_
            refine Go.retZ Xi8 hx hlk hret (hb hby at_235) (by decide) (by decide) ?_
            exact ⟨rfl, Ni8⟩
          have J203 : Go p e below s room_1 (Q_law Z p0 p1 p2 p3 h0 n0) (Ti8.setTop (mkF m 203 #[.val (.int p0), .val (.int p1), .val (.int p2), .val (.int p3), .val (.int pw), .val (.double (FP.ddiv (FP.i2d p0) (FP.i2d pw))), .second, .val (.int bb), .val (.int kk), .val (.double (FP.ddiv (FP.i2d p0) (FP.i2d p1))), .second, .val (.int a2), .val (.double (FP.ddiv (FP.i2d a2) (FP.i2d p1))), .second, .val (.long mg), .second] [])) := by
            refine Go.st (U := (Ti8.setTop (mkF m 205 #[.val (.int p0), .val (.int p1), .val (.int p2), .val (.int p3), .val (.int pw), .val (.double (FP.ddiv (FP.i2d p0) (FP.i2d pw))), .second, .val (.int bb), .val (.int kk), .val (.double (FP.ddiv (FP.i2d p0) (FP.i2d p1))), .second, .val (.int a2), .val (.double (FP.ddiv (FP.i2d a2) (FP.i2d p1))), .second, .val (.long mg), .second] [(.int a2)]))) (fun t_ k_ => XS.iload Xi8.here hx rfl (hb hby at_203) rfl k_) ?_
            refine Go.st (U := (Ti8.setTop (mkF m 206 #[.val (.int p0), .val (.int p1), .val (.int p2), .val (.int p3), .val (.int pw), .val (.double (FP.ddiv (FP.i2d p0) (FP.i2d pw))), .second, .val (.int bb), .val (.int kk), .val (.double (FP.ddiv (FP.i2d p0) (FP.i2d p1))), .second, .val (.int a2), .val (.double (FP.ddiv (FP.i2d a2) (FP.i2d p1))), .second, .val (.long mg), .second] [(.int p0), (.int a2)]))) (fun t_ k_ => XS.iloadN Xi8.here hx rfl (hb hby at_205) rfl k_) ?_
            by_cases h206 : a2 = p0
            · refine Go.st (U := (Ti8.setTop (mkF m 234 #[.val (.int p0), .val (.int p1), .val (.int p2), .val (.int p3), .val (.int pw), .val (.double (FP.ddiv (FP.i2d p0) (FP.i2d pw))), .second, .val (.int bb), .val (.int kk), .val (.double (FP.ddiv (FP.i2d p0) (FP.i2d p1))), .second, .val (.int a2), .val (.double (FP.ddiv (FP.i2d a2) (FP.i2d p1))), .second, .val (.long mg), .second] []))) (fun t_ k_ => XS.icmpYes Xi8.here hx rfl (pc0 := 206) (pc' := 234) rfl (hb hby at_206) rfl (teq h206).1 (by decide) (by decide) k_) ?_
              exact J234  
            · refine Go.st (U := (Ti8.setTop (mkF m 209 #[.val (.int p0), .val (.int p1), .val (.int p2), .val (.int p3), .val (.int pw), .val (.double (FP.ddiv (FP.i2d p0) (FP.i2d pw))), .second, .val (.int bb), .val (.int kk), .val (.double (FP.ddiv (FP.i2d p0) (FP.i2d p1))), .second, .val (.int a2), .val (.double (FP.ddiv (FP.i2d a2) (FP.i2d p1))), .second, .val (.long mg), .second] []))) (fun t_ k_ => XS.icmpNo Xi8.here hx rfl (hb hby at_206) rfl (feq h206).1 k_) ?_
              have HA : a2.toInt = p0.toInt + 1 := B_a.resolve_right h206
              refine Go.st (U := (Ti8.setTop (mkF m 210 #[.val (.int p0), .val (.int p1), .val (.int p2), .val (.int p3), .val (.int pw), .val (.double (FP.ddiv (FP.i2d p0) (FP.i2d pw))), .second, .val (.int bb), .val (.int kk), .val (.double (FP.ddiv (FP.i2d p0) (FP.i2d p1))), .second, .val (.int a2), .val (.double (FP.ddiv (FP.i2d a2) (FP.i2d p1))), .second, .val (.long mg), .second] [(.int p1)]))) (fun t_ k_ => XS.iloadN Xi8.here hx rfl (hb hby at_209) rfl k_) ?_
              by_cases h210 : (0 : Int32) < p1
              · refine Go.st (U := (Ti8.setTop (mkF m 213 #[.val (.int p0), .val (.int p1), .val (.int p2), .val (.int p3), .val (.int pw), .val (.double (FP.ddiv (FP.i2d p0) (FP.i2d pw))), .second, .val (.int bb), .val (.int kk), .val (.double (FP.ddiv (FP.i2d p0) (FP.i2d p1))), .second, .val (.int a2), .val (.double (FP.ddiv (FP.i2d a2) (FP.i2d p1))), .second, .val (.long mg), .second] []))) (fun t_ k_ => XS.ifNo Xi8.here hx rfl (hb hby at_210) rfl ((if0 _ _).trans (tlt h210).2.2.2) k_) ?_
                refine Go.st (U := (Ti8.setTop (mkF m 215 #[.val (.int p0), .val (.int p1), .val (.int p2), .val (.int p3), .val (.int pw), .val (.double (FP.ddiv (FP.i2d p0) (FP.i2d pw))), .second, .val (.int bb), .val (.int kk), .val (.double (FP.ddiv (FP.i2d p0) (FP.i2d p1))), .second, .val (.int a2), .val (.double (FP.ddiv (FP.i2d a2) (FP.i2d p1))), .second, .val (.long mg), .second] [(.double (FP.ddiv (FP.i2d p0) (FP.i2d p1)))]))) (fun t_ k_ => XS.dload Xi8.here hx rfl (hb hby at_213) rfl k_) ?_
                refine Go.st (U := (Ti8.setTop (mkF m 217 #[.val (.int p0), .val (.int p1), .val (.int p2), .val (.int p3), .val (.int pw), .val (.double (FP.ddiv (FP.i2d p0) (FP.i2d pw))), .second, .val (.int bb), .val (.int kk), .val (.double (FP.ddiv (FP.i2d p0) (FP.i2d p1))), .second, .val (.int a2), .val (.double (FP.ddiv (FP.i2d a2) (FP.i2d p1))), .second, .val (.long mg), .second] [(.double (FP.ddiv (FP.i2d a2) (FP.i2d p1))), (.double (FP.ddiv (FP.i2d p0) (FP.i2d p1)))]))) (fun t_ k_ => XS.dload Xi8.here hx rfl (hb hby at_215) rfl k_) ?_
                refine Go.st (U := (Ti8.setTop (mkF m 218 #[.val (.int p0), .val (.int p1), .val (.int p2), .val (.int p3), .val (.int pw), .val (.double (FP.ddiv (FP.i2d p0) (FP.i2d pw))), .second, .val (.int bb), .val (.int kk), .val (.double (FP.ddiv (FP.i2d p0) (FP.i2d p1))), .second, .val (.int a2), .val (.double (FP.ddiv (FP.i2d a2) (FP.i2d p1))), .second, .val (.long mg), .second] [(.int (cmpValue (FP.dcmp (FP.ddiv (FP.i2d p0) (FP.i2d p1)) (FP.ddiv (FP.i2d a2) (FP.i2d p1))) .g))]))) (fun t_ k_ => XS.dcmpS Xi8.here hx rfl (hb hby at_217) rfl rfl k_) ?_
                refine Go.st (U := (Ti8.setTop (mkF m 234 #[.val (.int p0), .val (.int p1), .val (.int p2), .val (.int p3), .val (.int pw), .val (.double (FP.ddiv (FP.i2d p0) (FP.i2d pw))), .second, .val (.int bb), .val (.int kk), .val (.double (FP.ddiv (FP.i2d p0) (FP.i2d p1))), .second, .val (.int a2), .val (.double (FP.ddiv (FP.i2d a2) (FP.i2d p1))), .second, .val (.long mg), .second] []))) (fun t_ k_ => XS.ifYes Xi8.here hx rfl (pc0 := 218) (pc' := 234) rfl (hb hby at_218) rfl ((if0 _ _).trans (tlt ((own_mono (own_zn hbz) HA).1 (own_pz h210))).1) (by decide) (by decide) k_) ?_
                exact J234  
              · refine Go.st (U := (Ti8.setTop (mkF m 224 #[.val (.int p0), .val (.int p1), .val (.int p2), .val (.int p3), .val (.int pw), .val (.double (FP.ddiv (FP.i2d p0) (FP.i2d pw))), .second, .val (.int bb), .val (.int kk), .val (.double (FP.ddiv (FP.i2d p0) (FP.i2d p1))), .second, .val (.int a2), .val (.double (FP.ddiv (FP.i2d a2) (FP.i2d p1))), .second, .val (.long mg), .second] []))) (fun t_ k_ => XS.ifYes Xi8.here hx rfl (pc0 := 210) (pc' := 224) rfl (hb hby at_210) rfl ((if0 _ _).trans (flt h210).2.2.2) (by decide) (by decide) k_) ?_
                have HB : p1.toInt < 0 := by
                  have x1 := own_zn hbz; have x2 := own_nz h210
                  omega
                refine Go.st (U := (Ti8.setTop (mkF m 226 #[.val (.int p0), .val (.int p1), .val (.int p2), .val (.int p3), .val (.int pw), .val (.double (FP.ddiv (FP.i2d p0) (FP.i2d pw))), .second, .val (.int bb), .val (.int kk), .val (.double (FP.ddiv (FP.i2d p0) (FP.i2d p1))), .second, .val (.int a2), .val (.double (FP.ddiv (FP.i2d a2) (FP.i2d p1))), .second, .val (.long mg), .second] [(.double (FP.ddiv (FP.i2d p0) (FP.i2d p1)))]))) (fun t_ k_ => XS.dload Xi8.here hx rfl (hb hby at_224) rfl k_) ?_
                refine Go.st (U := (Ti8.setTop (mkF m 228 #[.val (.int p0), .val (.int p1), .val (.int p2), .val (.int p3), .val (.int pw), .val (.double (FP.ddiv (FP.i2d p0) (FP.i2d pw))), .second, .val (.int bb), .val (.int kk), .val (.double (FP.ddiv (FP.i2d p0) (FP.i2d p1))), .second, .val (.int a2), .val (.double (FP.ddiv (FP.i2d a2) (FP.i2d p1))), .second, .val (.long mg), .second] [(.double (FP.ddiv (FP.i2d a2) (FP.i2d p1))), (.double (FP.ddiv (FP.i2d p0) (FP.i2d p1)))]))) (fun t_ k_ => XS.dload Xi8.here hx rfl (hb hby at_226) rfl k_) ?_
                refine Go.st (U := (Ti8.setTop (mkF m 229 #[.val (.int p0), .val (.int p1), .val (.int p2), .val (.int p3), .val (.int pw), .val (.double (FP.ddiv (FP.i2d p0) (FP.i2d pw))), .second, .val (.int bb), .val (.int kk), .val (.double (FP.ddiv (FP.i2d p0) (FP.i2d p1))), .second, .val (.int a2), .val (.double (FP.ddiv (FP.i2d a2) (FP.i2d p1))), .second, .val (.long mg), .second] [(.int (cmpValue (FP.dcmp (FP.ddiv (FP.i2d p0) (FP.i2d p1)) (FP.ddiv (FP.i2d a2) (FP.i2d p1))) .l))]))) (fun t_ k_ => XS.dcmpS Xi8.here hx rfl (hb hby at_228) rfl rfl k_) ?_
                refine Go.st (U := (Ti8.setTop (mkF m 234 #[.val (.int p0), .val (.int p1), .val (.int p2), .val (.int p3), .val (.int pw), .val (.double (FP.ddiv (FP.i2d p0) (FP.i2d pw))), .second, .val (.int bb), .val (.int kk), .val (.double (FP.ddiv (FP.i2d p0) (FP.i2d p1))), .second, .val (.int a2), .val (.double (FP.ddiv (FP.i2d a2) (FP.i2d p1))), .second, .val (.long mg), .second] []))) (fun t_ k_ => XS.ifYes Xi8.here hx rfl (pc0 := 229) (pc' := 234) rfl (hb hby at_229) rfl ((if0 _ _).trans (tlt ((own_mono (own_zn hbz) HA).2 HB)).2.2.1) (by decide) (by decide) k_) ?_
                exact J234  
          refine Go.st (U := (Ti8.setTop (mkF m 152 #[.val (.int p0), .val (.int p1), .val (.int p2), .val (.int p3), .val (.int pw), .val (.double (FP.ddiv (FP.i2d p0) (FP.i2d pw))), .second, .val (.int bb), .val (.int kk), .val (.double (FP.ddiv (FP.i2d p0) (FP.i2d p1))), .second, .val (.int a2), .val (.double (FP.ddiv (FP.i2d a2) (FP.i2d p1))), .second, .val (.long mg), .second] [(.int p0)]))) (fun t_ k_ => XS.iloadN Xi8.here hx rfl (hb hby at_151) rfl k_) ?_
          by_cases h152 : p0 = (0 : Int32)
          · refine Go.st (U := (Ti8.setTop (mkF m 155 #[.val (.int p0), .val (.int p1), .val (.int p2), .val (.int p3), .val (.int pw), .val (.double (FP.ddiv (FP.i2d p0) (FP.i2d pw))), .second, .val (.int bb), .val (.int kk), .val (.double (FP.ddiv (FP.i2d p0) (FP.i2d p1))), .second, .val (.int a2), .val (.double (FP.ddiv (FP.i2d a2) (FP.i2d p1))), .second, .val (.long mg), .second] []))) (fun t_ k_ => XS.ifNo Xi8.here hx rfl (hb hby at_152) rfl ((if0 _ _).trans (teq h152).2) k_) ?_
            refine Go.st (U := (Ti8.setTop (mkF m 157 #[.val (.int p0), .val (.int p1), .val (.int p2), .val (.int p3), .val (.int pw), .val (.double (FP.ddiv (FP.i2d p0) (FP.i2d pw))), .second, .val (.int bb), .val (.int kk), .val (.double (FP.ddiv (FP.i2d p0) (FP.i2d p1))), .second, .val (.int a2), .val (.double (FP.ddiv (FP.i2d a2) (FP.i2d p1))), .second, .val (.long mg), .second] [(.double (FP.ddiv (FP.i2d p0) (FP.i2d p1)))]))) (fun t_ k_ => XS.dload Xi8.here hx rfl (hb hby at_155) rfl k_) ?_
            refine Go.st (U := (Ti8.setTop (mkF m 158 #[.val (.int p0), .val (.int p1), .val (.int p2), .val (.int p3), .val (.int pw), .val (.double (FP.ddiv (FP.i2d p0) (FP.i2d pw))), .second, .val (.int bb), .val (.int kk), .val (.double (FP.ddiv (FP.i2d p0) (FP.i2d p1))), .second, .val (.int a2), .val (.double (FP.ddiv (FP.i2d a2) (FP.i2d p1))), .second, .val (.long mg), .second] [(.double (0 : UInt64)), (.double (FP.ddiv (FP.i2d p0) (FP.i2d p1)))]))) (fun t_ k_ => XS.dconst0 Xi8.here hx rfl (hb hby at_157) rfl k_) ?_
            refine Go.st (U := (Ti8.setTop (mkF m 159 #[.val (.int p0), .val (.int p1), .val (.int p2), .val (.int p3), .val (.int pw), .val (.double (FP.ddiv (FP.i2d p0) (FP.i2d pw))), .second, .val (.int bb), .val (.int kk), .val (.double (FP.ddiv (FP.i2d p0) (FP.i2d p1))), .second, .val (.int a2), .val (.double (FP.ddiv (FP.i2d a2) (FP.i2d p1))), .second, .val (.long mg), .second] [(.int (cmpValue (FP.dcmp (FP.ddiv (FP.i2d p0) (FP.i2d p1)) (0 : UInt64)) .l))]))) (fun t_ k_ => XS.dcmpS Xi8.here hx rfl (hb hby at_158) rfl rfl k_) ?_
            refine Go.st (U := (Ti8.setTop (mkF m 203 #[.val (.int p0), .val (.int p1), .val (.int p2), .val (.int p3), .val (.int pw), .val (.double (FP.ddiv (FP.i2d p0) (FP.i2d pw))), .second, .val (.int bb), .val (.int kk), .val (.double (FP.ddiv (FP.i2d p0) (FP.i2d p1))), .second, .val (.int a2), .val (.double (FP.ddiv (FP.i2d a2) (FP.i2d p1))), .second, .val (.long mg), .second] []))) (fun t_ k_ => XS.ifYes Xi8.here hx rfl (pc0 := 159) (pc' := 203) rfl (hb hby at_159) rfl ((if0 _ _).trans (teq ((own_sg (own_zn hbz)).1 (own_z h152))).1) (by decide) (by decide) k_) ?_
            exact J203  
          · refine Go.st (U := (Ti8.setTop (mkF m 164 #[.val (.int p0), .val (.int p1), .val (.int p2), .val (.int p3), .val (.int pw), .val (.double (FP.ddiv (FP.i2d p0) (FP.i2d pw))), .second, .val (.int bb), .val (.int kk), .val (.double (FP.ddiv (FP.i2d p0) (FP.i2d p1))), .second, .val (.int a2), .val (.double (FP.ddiv (FP.i2d a2) (FP.i2d p1))), .second, .val (.long mg), .second] []))) (fun t_ k_ => XS.ifYes Xi8.here hx rfl (pc0 := 152) (pc' := 164) rfl (hb hby at_152) rfl ((if0 _ _).trans (feq h152).2) (by decide) (by decide) k_) ?_
            refine Go.st (U := (Ti8.setTop (mkF m 165 #[.val (.int p0), .val (.int p1), .val (.int p2), .val (.int p3), .val (.int pw), .val (.double (FP.ddiv (FP.i2d p0) (FP.i2d pw))), .second, .val (.int bb), .val (.int kk), .val (.double (FP.ddiv (FP.i2d p0) (FP.i2d p1))), .second, .val (.int a2), .val (.double (FP.ddiv (FP.i2d a2) (FP.i2d p1))), .second, .val (.long mg), .second] [(.int p0)]))) (fun t_ k_ => XS.iloadN Xi8.here hx rfl (hb hby at_164) rfl k_) ?_
            by_cases h165 : (0 : Int32) < p0
            · refine Go.st (U := (Ti8.setTop (mkF m 168 #[.val (.int p0), .val (.int p1), .val (.int p2), .val (.int p3), .val (.int pw), .val (.double (FP.ddiv (FP.i2d p0) (FP.i2d pw))), .second, .val (.int bb), .val (.int kk), .val (.double (FP.ddiv (FP.i2d p0) (FP.i2d p1))), .second, .val (.int a2), .val (.double (FP.ddiv (FP.i2d a2) (FP.i2d p1))), .second, .val (.long mg), .second] []))) (fun t_ k_ => XS.ifNo Xi8.here hx rfl (hb hby at_165) rfl ((if0 _ _).trans (tlt h165).2.2.2) k_) ?_
              refine Go.st (U := (Ti8.setTop (mkF m 169 #[.val (.int p0), .val (.int p1), .val (.int p2), .val (.int p3), .val (.int pw), .val (.double (FP.ddiv (FP.i2d p0) (FP.i2d pw))), .second, .val (.int bb), .val (.int kk), .val (.double (FP.ddiv (FP.i2d p0) (FP.i2d p1))), .second, .val (.int a2), .val (.double (FP.ddiv (FP.i2d a2) (FP.i2d p1))), .second, .val (.long mg), .second] [(.int (1 : Int32))]))) (fun t_ k_ => XS.iconst Xi8.here hx rfl (hb hby at_168) k_) ?_
              refine Go.st (U := (Ti8.setTop (mkF m 173 #[.val (.int p0), .val (.int p1), .val (.int p2), .val (.int p3), .val (.int pw), .val (.double (FP.ddiv (FP.i2d p0) (FP.i2d pw))), .second, .val (.int bb), .val (.int kk), .val (.double (FP.ddiv (FP.i2d p0) (FP.i2d p1))), .second, .val (.int a2), .val (.double (FP.ddiv (FP.i2d a2) (FP.i2d p1))), .second, .val (.long mg), .second] [(.int (1 : Int32))]))) (fun t_ k_ => XS.goto Xi8.here hx rfl (pc0 := 169) (pc' := 173) rfl (hb hby at_169) (by decide) (by decide) k_) ?_
              refine Go.st (U := (Ti8.setTop (mkF m 174 #[.val (.int p0), .val (.int p1), .val (.int p2), .val (.int p3), .val (.int pw), .val (.double (FP.ddiv (FP.i2d p0) (FP.i2d pw))), .second, .val (.int bb), .val (.int kk), .val (.double (FP.ddiv (FP.i2d p0) (FP.i2d p1))), .second, .val (.int a2), .val (.double (FP.ddiv (FP.i2d a2) (FP.i2d p1))), .second, .val (.long mg), .second] [(.int p1), (.int (1 : Int32))]))) (fun t_ k_ => XS.iloadN Xi8.here hx rfl (hb hby at_173) rfl k_) ?_
              by_cases h174 : (0 : Int32) < p1
              · refine Go.st (U := (Ti8.setTop (mkF m 177 #[.val (.int p0), .val (.int p1), .val (.int p2), .val (.int p3), .val (.int pw), .val (.double (FP.ddiv (FP.i2d p0) (FP.i2d pw))), .second, .val (.int bb), .val (.int kk), .val (.double (FP.ddiv (FP.i2d p0) (FP.i2d p1))), .second, .val (.int a2), .val (.double (FP.ddiv (FP.i2d a2) (FP.i2d p1))), .second, .val (.long mg), .second] [(.int (1 : Int32))]))) (fun t_ k_ => XS.ifNo Xi8.here hx rfl (hb hby at_174) rfl ((if0 _ _).trans (tlt h174).2.2.2) k_) ?_
                refine Go.st (U := (Ti8.setTop (mkF m 178 #[.val (.int p0), .val (.int p1), .val (.int p2), .val (.int p3), .val (.int pw), .val (.double (FP.ddiv (FP.i2d p0) (FP.i2d pw))), .second, .val (.int bb), .val (.int kk), .val (.double (FP.ddiv (FP.i2d p0) (FP.i2d p1))), .second, .val (.int a2), .val (.double (FP.ddiv (FP.i2d a2) (FP.i2d p1))), .second, .val (.long mg), .second] [(.int (1 : Int32)), (.int (1 : Int32))]))) (fun t_ k_ => XS.iconst Xi8.here hx rfl (hb hby at_177) k_) ?_
                refine Go.st (U := (Ti8.setTop (mkF m 182 #[.val (.int p0), .val (.int p1), .val (.int p2), .val (.int p3), .val (.int pw), .val (.double (FP.ddiv (FP.i2d p0) (FP.i2d pw))), .second, .val (.int bb), .val (.int kk), .val (.double (FP.ddiv (FP.i2d p0) (FP.i2d p1))), .second, .val (.int a2), .val (.double (FP.ddiv (FP.i2d a2) (FP.i2d p1))), .second, .val (.long mg), .second] [(.int (1 : Int32)), (.int (1 : Int32))]))) (fun t_ k_ => XS.goto Xi8.here hx rfl (pc0 := 178) (pc' := 182) rfl (hb hby at_178) (by decide) (by decide) k_) ?_
                refine Go.st (U := (Ti8.setTop (mkF m 185 #[.val (.int p0), .val (.int p1), .val (.int p2), .val (.int p3), .val (.int pw), .val (.double (FP.ddiv (FP.i2d p0) (FP.i2d pw))), .second, .val (.int bb), .val (.int kk), .val (.double (FP.ddiv (FP.i2d p0) (FP.i2d p1))), .second, .val (.int a2), .val (.double (FP.ddiv (FP.i2d a2) (FP.i2d p1))), .second, .val (.long mg), .second] []))) (fun t_ k_ => XS.icmpNo Xi8.here hx rfl (hb hby at_182) rfl (teq (rfl : _ = _)).2 k_) ?_
                have HS : (0 < p0.toInt ∧ 0 < p1.toInt) ∨ (p0.toInt < 0 ∧ p1.toInt < 0) := by
                  have x1 := own_zn hbz; have x2 := own_zn h152
                  have x3 := own_pz h165; have x4 := own_pz h174
                  omega
                refine Go.st (U := (Ti8.setTop (mkF m 187 #[.val (.int p0), .val (.int p1), .val (.int p2), .val (.int p3), .val (.int pw), .val (.double (FP.ddiv (FP.i2d p0) (FP.i2d pw))), .second, .val (.int bb), .val (.int kk), .val (.double (FP.ddiv (FP.i2d p0) (FP.i2d p1))), .second, .val (.int a2), .val (.double (FP.ddiv (FP.i2d a2) (FP.i2d p1))), .second, .val (.long mg), .second] [(.double (FP.ddiv (FP.i2d p0) (FP.i2d p1)))]))) (fun t_ k_ => XS.dload Xi8.here hx rfl (hb hby at_185) rfl k_) ?_
                refine Go.st (U := (Ti8.setTop (mkF m 188 #[.val (.int p0), .val (.int p1), .val (.int p2), .val (.int p3), .val (.int pw), .val (.double (FP.ddiv (FP.i2d p0) (FP.i2d pw))), .second, .val (.int bb), .val (.int kk), .val (.double (FP.ddiv (FP.i2d p0) (FP.i2d p1))), .second, .val (.int a2), .val (.double (FP.ddiv (FP.i2d a2) (FP.i2d p1))), .second, .val (.long mg), .second] [(.double (0 : UInt64)), (.double (FP.ddiv (FP.i2d p0) (FP.i2d p1)))]))) (fun t_ k_ => XS.dconst0 Xi8.here hx rfl (hb hby at_187) rfl k_) ?_
                refine Go.st (U := (Ti8.setTop (mkF m 189 #[.val (.int p0), .val (.int p1), .val (.int p2), .val (.int p3), .val (.int pw), .val (.double (FP.ddiv (FP.i2d p0) (FP.i2d pw))), .second, .val (.int bb), .val (.int kk), .val (.double (FP.ddiv (FP.i2d p0) (FP.i2d p1))), .second, .val (.int a2), .val (.double (FP.ddiv (FP.i2d a2) (FP.i2d p1))), .second, .val (.long mg), .second] [(.int (cmpValue (FP.dcmp (FP.ddiv (FP.i2d p0) (FP.i2d p1)) (0 : UInt64)) .l))]))) (fun t_ k_ => XS.dcmpS Xi8.here hx rfl (hb hby at_188) rfl rfl k_) ?_
                refine Go.st (U := (Ti8.setTop (mkF m 203 #[.val (.int p0), .val (.int p1), .val (.int p2), .val (.int p3), .val (.int pw), .val (.double (FP.ddiv (FP.i2d p0) (FP.i2d pw))), .second, .val (.int bb), .val (.int kk), .val (.double (FP.ddiv (FP.i2d p0) (FP.i2d p1))), .second, .val (.int a2), .val (.double (FP.ddiv (FP.i2d a2) (FP.i2d p1))), .second, .val (.long mg), .second] []))) (fun t_ k_ => XS.ifYes Xi8.here hx rfl (pc0 := 189) (pc' := 203) rfl (hb hby at_189) rfl ((if0 _ _).trans (tlt ((own_sg (own_zn hbz)).2.1 HS)).2.2.1) (by decide) (by decide) k_) ?_
                exact J203  
              · refine Go.st (U := (Ti8.setTop (mkF m 181 #[.val (.int p0), .val (.int p1), .val (.int p2), .val (.int p3), .val (.int pw), .val (.double (FP.ddiv (FP.i2d p0) (FP.i2d pw))), .second, .val (.int bb), .val (.int kk), .val (.double (FP.ddiv (FP.i2d p0) (FP.i2d p1))), .second, .val (.int a2), .val (.double (FP.ddiv (FP.i2d a2) (FP.i2d p1))), .second, .val (.long mg), .second] [(.int (1 : Int32))]))) (fun t_ k_ => XS.ifYes Xi8.here hx rfl (pc0 := 174) (pc' := 181) rfl (hb hby at_174) rfl ((if0 _ _).trans (flt h174).2.2.2) (by decide) (by decide) k_) ?_
                refine Go.st (U := (Ti8.setTop (mkF m 182 #[.val (.int p0), .val (.int p1), .val (.int p2), .val (.int p3), .val (.int pw), .val (.double (FP.ddiv (FP.i2d p0) (FP.i2d pw))), .second, .val (.int bb), .val (.int kk), .val (.double (FP.ddiv (FP.i2d p0) (FP.i2d p1))), .second, .val (.int a2), .val (.double (FP.ddiv (FP.i2d a2) (FP.i2d p1))), .second, .val (.long mg), .second] [(.int (0 : Int32)), (.int (1 : Int32))]))) (fun t_ k_ => XS.iconst Xi8.here hx rfl (hb hby at_181) k_) ?_
                refine Go.st (U := (Ti8.setTop (mkF m 194 #[.val (.int p0), .val (.int p1), .val (.int p2), .val (.int p3), .val (.int pw), .val (.double (FP.ddiv (FP.i2d p0) (FP.i2d pw))), .second, .val (.int bb), .val (.int kk), .val (.double (FP.ddiv (FP.i2d p0) (FP.i2d p1))), .second, .val (.int a2), .val (.double (FP.ddiv (FP.i2d a2) (FP.i2d p1))), .second, .val (.long mg), .second] []))) (fun t_ k_ => XS.icmpYes Xi8.here hx rfl (pc0 := 182) (pc' := 194) rfl (hb hby at_182) rfl (feq (by decide)).2 (by decide) (by decide) k_) ?_
                have HS : (0 < p0.toInt ∧ p1.toInt < 0) ∨ (p0.toInt < 0 ∧ 0 < p1.toInt) := by
                  have x1 := own_zn hbz; have x2 := own_zn h152
                  have x3 := own_pz h165; have x4 := own_nz h174
                  omega
                refine Go.st (U := (Ti8.setTop (mkF m 196 #[.val (.int p0), .val (.int p1), .val (.int p2), .val (.int p3), .val (.int pw), .val (.double (FP.ddiv (FP.i2d p0) (FP.i2d pw))), .second, .val (.int bb), .val (.int kk), .val (.double (FP.ddiv (FP.i2d p0) (FP.i2d p1))), .second, .val (.int a2), .val (.double (FP.ddiv (FP.i2d a2) (FP.i2d p1))), .second, .val (.long mg), .second] [(.double (FP.ddiv (FP.i2d p0) (FP.i2d p1)))]))) (fun t_ k_ => XS.dload Xi8.here hx rfl (hb hby at_194) rfl k_) ?_
                refine Go.st (U := (Ti8.setTop (mkF m 197 #[.val (.int p0), .val (.int p1), .val (.int p2), .val (.int p3), .val (.int pw), .val (.double (FP.ddiv (FP.i2d p0) (FP.i2d pw))), .second, .val (.int bb), .val (.int kk), .val (.double (FP.ddiv (FP.i2d p0) (FP.i2d p1))), .second, .val (.int a2), .val (.double (FP.ddiv (FP.i2d a2) (FP.i2d p1))), .second, .val (.long mg), .second] [(.double (0 : UInt64)), (.double (FP.ddiv (FP.i2d p0) (FP.i2d p1)))]))) (fun t_ k_ => XS.dconst0 Xi8.here hx rfl (hb hby at_196) rfl k_) ?_
                refine Go.st (U := (Ti8.setTop (mkF m 198 #[.val (.int p0), .val (.int p1), .val (.int p2), .val (.int p3), .val (.int pw), .val (.double (FP.ddiv (FP.i2d p0) (FP.i2d pw))), .second, .val (.int bb), .val (.int kk), .val (.double (FP.ddiv (FP.i2d p0) (FP.i2d p1))), .second, .val (.int a2), .val (.double (FP.ddiv (FP.i2d a2) (FP.i2d p1))), .second, .val (.long mg), .second] [(.int (cmpValue (FP.dcmp (FP.ddiv (FP.i2d p0) (FP.i2d p1)) (0 : UInt64)) .g))]))) (fun t_ k_ => XS.dcmpS Xi8.here hx rfl (hb hby at_197) rfl rfl k_) ?_
                refine Go.st (U := (Ti8.setTop (mkF m 203 #[.val (.int p0), .val (.int p1), .val (.int p2), .val (.int p3), .val (.int pw), .val (.double (FP.ddiv (FP.i2d p0) (FP.i2d pw))), .second, .val (.int bb), .val (.int kk), .val (.double (FP.ddiv (FP.i2d p0) (FP.i2d p1))), .second, .val (.int a2), .val (.double (FP.ddiv (FP.i2d a2) (FP.i2d p1))), .second, .val (.long mg), .second] []))) (fun t_ k_ => XS.ifYes Xi8.here hx rfl (pc0 := 198) (pc' := 203) rfl (hb hby at_198) rfl ((if0 _ _).trans (tlt ((own_sg (own_zn hbz)).2.2 HS)).1) (by decide) (by decide) k_) ?_
                exact J203  
            · refine Go.st (U := (Ti8.setTop (mkF m 172 #[.val (.int p0), .val (.int p1), .val (.int p2), .val (.int p3), .val (.int pw), .val (.double (FP.ddiv (FP.i2d p0) (FP.i2d pw))), .second, .val (.int bb), .val (.int kk), .val (.double (FP.ddiv (FP.i2d p0) (FP.i2d p1))), .second, .val (.int a2), .val (.double (FP.ddiv (FP.i2d a2) (FP.i2d p1))), .second, .val (.long mg), .second] []))) (fun t_ k_ => XS.ifYes Xi8.here hx rfl (pc0 := 165) (pc' := 172) rfl (hb hby at_165) rfl ((if0 _ _).trans (flt h165).2.2.2) (by decide) (by decide) k_) ?_
              refine Go.st (U := (Ti8.setTop (mkF m 173 #[.val (.int p0), .val (.int p1), .val (.int p2), .val (.int p3), .val (.int pw), .val (.double (FP.ddiv (FP.i2d p0) (FP.i2d pw))), .second, .val (.int bb), .val (.int kk), .val (.double (FP.ddiv (FP.i2d p0) (FP.i2d p1))), .second, .val (.int a2), .val (.double (FP.ddiv (FP.i2d a2) (FP.i2d p1))), .second, .val (.long mg), .second] [(.int (0 : Int32))]))) (fun t_ k_ => XS.iconst Xi8.here hx rfl (hb hby at_172) k_) ?_
              refine Go.st (U := (Ti8.setTop (mkF m 174 #[.val (.int p0), .val (.int p1), .val (.int p2), .val (.int p3), .val (.int pw), .val (.double (FP.ddiv (FP.i2d p0) (FP.i2d pw))), .second, .val (.int bb), .val (.int kk), .val (.double (FP.ddiv (FP.i2d p0) (FP.i2d p1))), .second, .val (.int a2), .val (.double (FP.ddiv (FP.i2d a2) (FP.i2d p1))), .second, .val (.long mg), .second] [(.int p1), (.int (0 : Int32))]))) (fun t_ k_ => XS.iloadN Xi8.here hx rfl (hb hby at_173) rfl k_) ?_
              by_cases h174 : (0 : Int32) < p1
              · refine Go.st (U := (Ti8.setTop (mkF m 177 #[.val (.int p0), .val (.int p1), .val (.int p2), .val (.int p3), .val (.int pw), .val (.double (FP.ddiv (FP.i2d p0) (FP.i2d pw))), .second, .val (.int bb), .val (.int kk), .val (.double (FP.ddiv (FP.i2d p0) (FP.i2d p1))), .second, .val (.int a2), .val (.double (FP.ddiv (FP.i2d a2) (FP.i2d p1))), .second, .val (.long mg), .second] [(.int (0 : Int32))]))) (fun t_ k_ => XS.ifNo Xi8.here hx rfl (hb hby at_174) rfl ((if0 _ _).trans (tlt h174).2.2.2) k_) ?_
                refine Go.st (U := (Ti8.setTop (mkF m 178 #[.val (.int p0), .val (.int p1), .val (.int p2), .val (.int p3), .val (.int pw), .val (.double (FP.ddiv (FP.i2d p0) (FP.i2d pw))), .second, .val (.int bb), .val (.int kk), .val (.double (FP.ddiv (FP.i2d p0) (FP.i2d p1))), .second, .val (.int a2), .val (.double (FP.ddiv (FP.i2d a2) (FP.i2d p1))), .second, .val (.long mg), .second] [(.int (1 : Int32)), (.int (0 : Int32))]))) (fun t_ k_ => XS.iconst Xi8.here hx rfl (hb hby at_177) k_) ?_
                refine Go.st (U := (Ti8.setTop (mkF m 182 #[.val (.int p0), .val (.int p1), .val (.int p2), .val (.int p3), .val (.int pw), .val (.double (FP.ddiv (FP.i2d p0) (FP.i2d pw))), .second, .val (.int bb), .val (.int kk), .val (.double (FP.ddiv (FP.i2d p0) (FP.i2d p1))), .second, .val (.int a2), .val (.double (FP.ddiv (FP.i2d a2) (FP.i2d p1))), .second, .val (.long mg), .second] [(.int (1 : Int32)), (.int (0 : Int32))]))) (fun t_ k_ => XS.goto Xi8.here hx rfl (pc0 := 178) (pc' := 182) rfl (hb hby at_178) (by decide) (by decide) k_) ?_
                refine Go.st (U := (Ti8.setTop (mkF m 194 #[.val (.int p0), .val (.int p1), .val (.int p2), .val (.int p3), .val (.int pw), .val (.double (FP.ddiv (FP.i2d p0) (FP.i2d pw))), .second, .val (.int bb), .val (.int kk), .val (.double (FP.ddiv (FP.i2d p0) (FP.i2d p1))), .second, .val (.int a2), .val (.double (FP.ddiv (FP.i2d a2) (FP.i2d p1))), .second, .val (.long mg), .second] []))) (fun t_ k_ => XS.icmpYes Xi8.here hx rfl (pc0 := 182) (pc' := 194) rfl (hb hby at_182) rfl (feq (by decide)).2 (by decide) (by decide) k_) ?_
                have HS : (0 < p0.toInt ∧ p1.toInt < 0) ∨ (p0.toInt < 0 ∧ 0 < p1.toInt) := by
                  have x1 := own_zn hbz; have x2 := own_zn h152
                  have x3 := own_nz h165; have x4 := own_pz h174
                  omega
                refine Go.st (U := (Ti8.setTop (mkF m 196 #[.val (.int p0), .val (.int p1), .val (.int p2), .val (.int p3), .val (.int pw), .val (.double (FP.ddiv (FP.i2d p0) (FP.i2d pw))), .second, .val (.int bb), .val (.int kk), .val (.double (FP.ddiv (FP.i2d p0) (FP.i2d p1))), .second, .val (.int a2), .val (.double (FP.ddiv (FP.i2d a2) (FP.i2d p1))), .second, .val (.long mg), .second] [(.double (FP.ddiv (FP.i2d p0) (FP.i2d p1)))]))) (fun t_ k_ => XS.dload Xi8.here hx rfl (hb hby at_194) rfl k_) ?_
                refine Go.st (U := (Ti8.setTop (mkF m 197 #[.val (.int p0), .val (.int p1), .val (.int p2), .val (.int p3), .val (.int pw), .val (.double (FP.ddiv (FP.i2d p0) (FP.i2d pw))), .second, .val (.int bb), .val (.int kk), .val (.double (FP.ddiv (FP.i2d p0) (FP.i2d p1))), .second, .val (.int a2), .val (.double (FP.ddiv (FP.i2d a2) (FP.i2d p1))), .second, .val (.long mg), .second] [(.double (0 : UInt64)), (.double (FP.ddiv (FP.i2d p0) (FP.i2d p1)))]))) (fun t_ k_ => XS.dconst0 Xi8.here hx rfl (hb hby at_196) rfl k_) ?_
                refine Go.st (U := (Ti8.setTop (mkF m 198 #[.val (.int p0), .val (.int p1), .val (.int p2), .val (.int p3), .val (.int pw), .val (.double (FP.ddiv (FP.i2d p0) (FP.i2d pw))), .second, .val (.int bb), .val (.int kk), .val (.double (FP.ddiv (FP.i2d p0) (FP.i2d p1))), .second, .val (.int a2), .val (.double (FP.ddiv (FP.i2d a2) (FP.i2d p1))), .second, .val (.long mg), .second] [(.int (cmpValue (FP.dcmp (FP.ddiv (FP.i2d p0) (FP.i2d p1)) (0 : UInt64)) .g))]))) (fun t_ k_ => XS.dcmpS Xi8.here hx rfl (hb hby at_197) rfl rfl k_) ?_
                refine Go.st (U := (Ti8.setTop (mkF m 203 #[.val (.int p0), .val (.int p1), .val (.int p2), .val (.int p3), .val (.int pw), .val (.double (FP.ddiv (FP.i2d p0) (FP.i2d pw))), .second, .val (.int bb), .val (.int kk), .val (.double (FP.ddiv (FP.i2d p0) (FP.i2d p1))), .second, .val (.int a2), .val (.double (FP.ddiv (FP.i2d a2) (FP.i2d p1))), .second, .val (.long mg), .second] []))) (fun t_ k_ => XS.ifYes Xi8.here hx rfl (pc0 := 198) (pc' := 203) rfl (hb hby at_198) rfl ((if0 _ _).trans (tlt ((own_sg (own_zn hbz)).2.2 HS)).1) (by decide) (by decide) k_) ?_
                exact J203  
              · refine Go.st (U := (Ti8.setTop (mkF m 181 #[.val (.int p0), .val (.int p1), .val (.int p2), .val (.int p3), .val (.int pw), .val (.double (FP.ddiv (FP.i2d p0) (FP.i2d pw))), .second, .val (.int bb), .val (.int kk), .val (.double (FP.ddiv (FP.i2d p0) (FP.i2d p1))), .second, .val (.int a2), .val (.double (FP.ddiv (FP.i2d a2) (FP.i2d p1))), .second, .val (.long mg), .second] [(.int (0 : Int32))]))) (fun t_ k_ => XS.ifYes Xi8.here hx rfl (pc0 := 174) (pc' := 181) rfl (hb hby at_174) rfl ((if0 _ _).trans (flt h174).2.2.2) (by decide) (by decide) k_) ?_
                refine Go.st (U := (Ti8.setTop (mkF m 182 #[.val (.int p0), .val (.int p1), .val (.int p2), .val (.int p3), .val (.int pw), .val (.double (FP.ddiv (FP.i2d p0) (FP.i2d pw))), .second, .val (.int bb), .val (.int kk), .val (.double (FP.ddiv (FP.i2d p0) (FP.i2d p1))), .second, .val (.int a2), .val (.double (FP.ddiv (FP.i2d a2) (FP.i2d p1))), .second, .val (.long mg), .second] [(.int (0 : Int32)), (.int (0 : Int32))]))) (fun t_ k_ => XS.iconst Xi8.here hx rfl (hb hby at_181) k_) ?_
                refine Go.st (U := (Ti8.setTop (mkF m 185 #[.val (.int p0), .val (.int p1), .val (.int p2), .val (.int p3), .val (.int pw), .val (.double (FP.ddiv (FP.i2d p0) (FP.i2d pw))), .second, .val (.int bb), .val (.int kk), .val (.double (FP.ddiv (FP.i2d p0) (FP.i2d p1))), .second, .val (.int a2), .val (.double (FP.ddiv (FP.i2d a2) (FP.i2d p1))), .second, .val (.long mg), .second] []))) (fun t_ k_ => XS.icmpNo Xi8.here hx rfl (hb hby at_182) rfl (teq (rfl : _ = _)).2 k_) ?_
                have HS : (0 < p0.toInt ∧ 0 < p1.toInt) ∨ (p0.toInt < 0 ∧ p1.toInt < 0) := by
                  have x1 := own_zn hbz; have x2 := own_zn h152
                  have x3 := own_nz h165; have x4 := own_nz h174
                  omega
                refine Go.st (U := (Ti8.setTop (mkF m 187 #[.val (.int p0), .val (.int p1), .val (.int p2), .val (.int p3), .val (.int pw), .val (.double (FP.ddiv (FP.i2d p0) (FP.i2d pw))), .second, .val (.int bb), .val (.int kk), .val (.double (FP.ddiv (FP.i2d p0) (FP.i2d p1))), .second, .val (.int a2), .val (.double (FP.ddiv (FP.i2d a2) (FP.i2d p1))), .second, .val (.long mg), .second] [(.double (FP.ddiv (FP.i2d p0) (FP.i2d p1)))]))) (fun t_ k_ => XS.dload Xi8.here hx rfl (hb hby at_185) rfl k_) ?_
                refine Go.st (U := (Ti8.setTop (mkF m 188 #[.val (.int p0), .val (.int p1), .val (.int p2), .val (.int p3), .val (.int pw), .val (.double (FP.ddiv (FP.i2d p0) (FP.i2d pw))), .second, .val (.int bb), .val (.int kk), .val (.double (FP.ddiv (FP.i2d p0) (FP.i2d p1))), .second, .val (.int a2), .val (.double (FP.ddiv (FP.i2d a2) (FP.i2d p1))), .second, .val (.long mg), .second] [(.double (0 : UInt64)), (.double (FP.ddiv (FP.i2d p0) (FP.i2d p1)))]))) (fun t_ k_ => XS.dconst0 Xi8.here hx rfl (hb hby at_187) rfl k_) ?_
                refine Go.st (U := (Ti8.setTop (mkF m 189 #[.val (.int p0), .val (.int p1), .val (.int p2), .val (.int p3), .val (.int pw), .val (.double (FP.ddiv (FP.i2d p0) (FP.i2d pw))), .second, .val (.int bb), .val (.int kk), .val (.double (FP.ddiv (FP.i2d p0) (FP.i2d p1))), .second, .val (.int a2), .val (.double (FP.ddiv (FP.i2d a2) (FP.i2d p1))), .second, .val (.long mg), .second] [(.int (cmpValue (FP.dcmp (FP.ddiv (FP.i2d p0) (FP.i2d p1)) (0 : UInt64)) .l))]))) (fun t_ k_ => XS.dcmpS Xi8.here hx rfl (hb hby at_188) rfl rfl k_) ?_
                refine Go.st (U := (Ti8.setTop (mkF m 203 #[.val (.int p0), .val (.int p1), .val (.int p2), .val (.int p3), .val (.int pw), .val (.double (FP.ddiv (FP.i2d p0) (FP.i2d pw))), .second, .val (.int bb), .val (.int kk), .val (.double (FP.ddiv (FP.i2d p0) (FP.i2d p1))), .second, .val (.int a2), .val (.double (FP.ddiv (FP.i2d a2) (FP.i2d p1))), .second, .val (.long mg), .second] []))) (fun t_ k_ => XS.ifYes Xi8.here hx rfl (pc0 := 189) (pc' := 203) rfl (hb hby at_189) rfl ((if0 _ _).trans (tlt ((own_sg (own_zn hbz)).2.1 HS)).2.2.1) (by decide) (by decide) k_) ?_
                exact J203  
      refine Go.st (U := (Ti5.setTop (mkF m 77 #[.val (.int p0), .val (.int p1), .val (.int p2), .val (.int p3), .val (.int pw), .val (.double (FP.ddiv (FP.i2d p0) (FP.i2d pw))), .second, .val (.int bb), .val (.int kk), .val (.double (FP.ddiv (FP.i2d p0) (FP.i2d p1))), .second, .unset, .unset, .unset, .unset, .unset] [(.int p0)]))) (fun t_ k_ => XS.iloadN Xi5.here hx rfl (hb hby at_76) rfl k_) ?_
      refine Go.st (U := (Ti5.setTop (mkF m 79 #[.val (.int p0), .val (.int p1), .val (.int p2), .val (.int p3), .val (.int pw), .val (.double (FP.ddiv (FP.i2d p0) (FP.i2d pw))), .second, .val (.int bb), .val (.int kk), .val (.double (FP.ddiv (FP.i2d p0) (FP.i2d p1))), .second, .unset, .unset, .unset, .unset, .unset] [(.int (2147483647 : Int32)), (.int p0)]))) (Xi5.ldcInt hx hown (mvT hZ (hw _ (List.mem_of_getElem? (i := 40) rfl))) (g := (mkF m 77 #[.val (.int p0), .val (.int p1), .val (.int p2), .val (.int p3), .val (.int pw), .val (.double (FP.ddiv (FP.i2d p0) (FP.i2d pw))), .second, .val (.int bb), .val (.int kk), .val (.double (FP.ddiv (FP.i2d p0) (FP.i2d p1))), .second, .unset, .unset, .unset, .unset, .unset] [(.int p0)])) rfl (hb hby at_77)) ?_
      by_cases h79 : p0 = (2147483647 : Int32)
      · refine Go.st (U := (Ti5.setTop (mkF m 82 #[.val (.int p0), .val (.int p1), .val (.int p2), .val (.int p3), .val (.int pw), .val (.double (FP.ddiv (FP.i2d p0) (FP.i2d pw))), .second, .val (.int bb), .val (.int kk), .val (.double (FP.ddiv (FP.i2d p0) (FP.i2d p1))), .second, .unset, .unset, .unset, .unset, .unset] []))) (fun t_ k_ => XS.icmpNo Xi5.here hx rfl (hb hby at_79) rfl (teq h79).2 k_) ?_
        refine Go.st (U := (Ti5.setTop (mkF m 83 #[.val (.int p0), .val (.int p1), .val (.int p2), .val (.int p3), .val (.int pw), .val (.double (FP.ddiv (FP.i2d p0) (FP.i2d pw))), .second, .val (.int bb), .val (.int kk), .val (.double (FP.ddiv (FP.i2d p0) (FP.i2d p1))), .second, .unset, .unset, .unset, .unset, .unset] [(.int p0)]))) (fun t_ k_ => XS.iloadN Xi5.here hx rfl (hb hby at_82) rfl k_) ?_
        refine Go.st (U := (Ti5.setTop (mkF m 89 #[.val (.int p0), .val (.int p1), .val (.int p2), .val (.int p3), .val (.int pw), .val (.double (FP.ddiv (FP.i2d p0) (FP.i2d pw))), .second, .val (.int bb), .val (.int kk), .val (.double (FP.ddiv (FP.i2d p0) (FP.i2d p1))), .second, .unset, .unset, .unset, .unset, .unset] [(.int p0)]))) (fun t_ k_ => XS.goto Xi5.here hx rfl (pc0 := 83) (pc' := 89) rfl (hb hby at_83) (by decide) (by decide) k_) ?_
        refine Go.st (U := (Ti5.setTop (mkF m 91 #[.val (.int p0), .val (.int p1), .val (.int p2), .val (.int p3), .val (.int pw), .val (.double (FP.ddiv (FP.i2d p0) (FP.i2d pw))), .second, .val (.int bb), .val (.int kk), .val (.double (FP.ddiv (FP.i2d p0) (FP.i2d p1))), .second, .val (.int p0), .unset, .unset, .unset, .unset] []))) (fun t_ k_ => XS.istore Xi5.here hx rfl (hb hby at_89) rfl (l' := #[.val (.int p0), .val (.int p1), .val (.int p2), .val (.int p3), .val (.int pw), .val (.double (FP.ddiv (FP.i2d p0) (FP.i2d pw))), .second, .val (.int bb), .val (.int kk), .val (.double (FP.ddiv (FP.i2d p0) (FP.i2d p1))), .second, .val (.int p0), .unset, .unset, .unset, .unset]) rfl k_) ?_
        exact J91 p0 (Or.inr rfl)
      · refine Go.st (U := (Ti5.setTop (mkF m 86 #[.val (.int p0), .val (.int p1), .val (.int p2), .val (.int p3), .val (.int pw), .val (.double (FP.ddiv (FP.i2d p0) (FP.i2d pw))), .second, .val (.int bb), .val (.int kk), .val (.double (FP.ddiv (FP.i2d p0) (FP.i2d p1))), .second, .unset, .unset, .unset, .unset, .unset] []))) (fun t_ k_ => XS.icmpYes Xi5.here hx rfl (pc0 := 79) (pc' := 86) rfl (hb hby at_79) rfl (feq h79).2 (by decide) (by decide) k_) ?_
        refine Go.st (U := (Ti5.setTop (mkF m 87 #[.val (.int p0), .val (.int p1), .val (.int p2), .val (.int p3), .val (.int pw), .val (.double (FP.ddiv (FP.i2d p0) (FP.i2d pw))), .second, .val (.int bb), .val (.int kk), .val (.double (FP.ddiv (FP.i2d p0) (FP.i2d p1))), .second, .unset, .unset, .unset, .unset, .unset] [(.int p0)]))) (fun t_ k_ => XS.iloadN Xi5.here hx rfl (hb hby at_86) rfl k_) ?_
        refine Go.st (U := (Ti5.setTop (mkF m 88 #[.val (.int p0), .val (.int p1), .val (.int p2), .val (.int p3), .val (.int pw), .val (.double (FP.ddiv (FP.i2d p0) (FP.i2d pw))), .second, .val (.int bb), .val (.int kk), .val (.double (FP.ddiv (FP.i2d p0) (FP.i2d p1))), .second, .unset, .unset, .unset, .unset, .unset] [(.int (1 : Int32)), (.int p0)]))) (fun t_ k_ => XS.iconst Xi5.here hx rfl (hb hby at_87) k_) ?_
        refine Go.st (U := (Ti5.setTop (mkF m 89 #[.val (.int p0), .val (.int p1), .val (.int p2), .val (.int p3), .val (.int pw), .val (.double (FP.ddiv (FP.i2d p0) (FP.i2d pw))), .second, .val (.int bb), .val (.int kk), .val (.double (FP.ddiv (FP.i2d p0) (FP.i2d p1))), .second, .unset, .unset, .unset, .unset, .unset] [(.int (p0 + (1 : Int32)))]))) (fun t_ k_ => XS.iadd Xi5.here hx rfl (hb hby at_88) rfl k_) ?_
        refine Go.st (U := (Ti5.setTop (mkF m 91 #[.val (.int p0), .val (.int p1), .val (.int p2), .val (.int p3), .val (.int pw), .val (.double (FP.ddiv (FP.i2d p0) (FP.i2d pw))), .second, .val (.int bb), .val (.int kk), .val (.double (FP.ddiv (FP.i2d p0) (FP.i2d p1))), .second, .val (.int (p0 + (1 : Int32))), .unset, .unset, .unset, .unset] []))) (fun t_ k_ => XS.istore Xi5.here hx rfl (hb hby at_89) rfl (l' := #[.val (.int p0), .val (.int p1), .val (.int p2), .val (.int p3), .val (.int pw), .val (.double (FP.ddiv (FP.i2d p0) (FP.i2d pw))), .second, .val (.int bb), .val (.int kk), .val (.double (FP.ddiv (FP.i2d p0) (FP.i2d p1))), .second, .val (.int (p0 + (1 : Int32))), .unset, .unset, .unset, .unset]) rfl k_) ?_
        exact J91 (p0 + (1 : Int32)) (Or.inl (own_a2 h79))
  refine Go.st (U := (Ti1.setTop (mkF m 38 #[.val (.int p0), .val (.int p1), .val (.int p2), .val (.int p3), .val (.int pw), .val (.double (FP.ddiv (FP.i2d p0) (FP.i2d pw))), .second, .val (.int bz), .unset, .unset, .unset, .unset, .unset, .unset, .unset, .unset] [(.int bz)]))) (fun t_ k_ => XS.iload Xi1.here hx rfl (hb hby at_36) rfl k_) ?_
  by_cases h38 : bz = (0 : Int32)
  · refine Go.st (U := (Ti1.setTop (mkF m 41 #[.val (.int p0), .val (.int p1), .val (.int p2), .val (.int p3), .val (.int pw), .val (.double (FP.ddiv (FP.i2d p0) (FP.i2d pw))), .second, .val (.int bz), .unset, .unset, .unset, .unset, .unset, .unset, .unset, .unset] []))) (fun t_ k_ => XS.ifNo Xi1.here hx rfl (hb hby at_38) rfl ((if0 _ _).trans (teq h38).2) k_) ?_
    refine Go.st (U := (Ti1.setTop (mkF m 42 #[.val (.int p0), .val (.int p1), .val (.int p2), .val (.int p3), .val (.int pw), .val (.double (FP.ddiv (FP.i2d p0) (FP.i2d pw))), .second, .val (.int bz), .unset, .unset, .unset, .unset, .unset, .unset, .unset, .unset] [(.int (1 : Int32))]))) (fun t_ k_ => XS.iconst Xi1.here hx rfl (hb hby at_41) k_) ?_
    refine Go.st (U := (Ti1.setTop (mkF m 44 #[.val (.int p0), .val (.int p1), .val (.int p2), .val (.int p3), .val (.int pw), .val (.double (FP.ddiv (FP.i2d p0) (FP.i2d pw))), .second, .val (.int (1 : Int32)), .unset, .unset, .unset, .unset, .unset, .unset, .unset, .unset] []))) (fun t_ k_ => XS.istore Xi1.here hx rfl (hb hby at_42) rfl (l' := #[.val (.int p0), .val (.int p1), .val (.int p2), .val (.int p3), .val (.int pw), .val (.double (FP.ddiv (FP.i2d p0) (FP.i2d pw))), .second, .val (.int (1 : Int32)), .unset, .unset, .unset, .unset, .unset, .unset, .unset, .unset]) rfl k_) ?_
    exact J44 (1 : Int32) (by decide)
  · refine Go.st (U := (Ti1.setTop (mkF m 44 #[.val (.int p0), .val (.int p1), .val (.int p2), .val (.int p3), .val (.int pw), .val (.double (FP.ddiv (FP.i2d p0) (FP.i2d pw))), .second, .val (.int bz), .unset, .unset, .unset, .unset, .unset, .unset, .unset, .unset] []))) (fun t_ k_ => XS.ifYes Xi1.here hx rfl (pc0 := 38) (pc' := 44) rfl (hb hby at_38) rfl ((if0 _ _).trans (feq h38).2) (by decide) (by decide) k_) ?_
    exact J44 bz (own_b0 B_bz h38)
set_option maxRecDepth 65536 in
set_option maxHeartbeats 40000000 in
theorem comes_1 {Post : Tables → Env → Array Value → State → Outcome → State → Prop} (hpost : ∀ tb e args s v u, (limb_1_1.after args s (.returned v) u = true ∧ limb_1_2.after args s (.returned v) u = true ∧ True) → FrameEnd s (.returned v) u (Jvm.fieldLocs frame_1_writes args s ++ Jvm.arrayLocs frame_1_arrays args s ++ Jvm.staticLocs frame_1_statics s) 16 128 → Post tb e args s (.returned v) u) :
    ArmFor flags0 classFile x code maxLocals ret World_1 tables_1 room_1 Calls_1 rest_1 Pre_1 Post := by
  intro l hfl _ _ p e ha hc hk s m args below hf hA hF happ hP
  obtain ⟨hcalls, hrest, hpre⟩ := hP
  obtain ⟨-, -, -, hnamed, -, -, -, hat⟩ := (Spec.applies_iff hf).mp happ
  obtain ⟨hg, hn⟩ := and_e (Cond.before_iff.mp (show (Jvm.Cond.and given_1 narrow_1).before args s = true from hpre))
  obtain ⟨hcnt, k0⟩ := and_e hg
  obtain ⟨j0, k1⟩ := and_e k0
  obtain ⟨j1, k2⟩ := and_e k1
  obtain ⟨j2, k3⟩ := and_e k2
  have j3 := k3
  obtain ⟨w0, w1, w2, w3, rfl⟩ : ∃ w0 w1 w2 w3 : Value, args = #[w0, w1, w2, w3] := by
    have hs : args.size = 4 := by simpa [Cond.value, given_1] using hcnt
    obtain ⟨L⟩ := args
    match L, hs with
    | [w0, w1, w2, w3], _ => exact ⟨w0, w1, w2, w3, rfl⟩
  have hw := fun d (hd : d ∈ tables_1) => atoms_spec (ws := Jvm.Cond.code x code maxLocals ret :: tables_1) hat d (List.mem_cons_of_mem _ hd)
  have hfit : Fit s := fun {y c} hc i hi => by
    obtain ⟨ha, rfl⟩ := Array.getElem?_eq_some_iff.mp hc
    have q := List.all_eq_true.mp ((Array.all_eq_true_iff_forall_mem.mp hF) _ (Array.getElem_mem ha)) i (List.mem_range.mpr hi)
    simpa [Array.getElem?_eq_getElem hi] using q
  obtain ⟨i0, e0⟩ := is_v j0
  obtain rfl : w0 = (.int i0) := Option.some.inj e0
  obtain ⟨i1, e1⟩ := is_v j1
  obtain rfl : w1 = (.int i1) := Option.some.inj e1
  obtain ⟨i2, e2⟩ := is_v j2
  obtain rfl : w2 = (.int i2) := Option.some.inj e2
  obtain ⟨i3, e3⟩ := is_v j3
  obtain rfl : w3 = (.int i3) := Option.some.inj e3
  obtain ⟨n, o, h1, h2, h3, _, L, rfl, ⟨rfl, N⟩, hq⟩ := rm_law l s _ hw tables_1 i0 i1 i2 i3  s.heap s.heap.size (Nat.le_refl _)  p e ha hc hk s m _ below hf ((Spec.applies_iff_loose hf).mp happ).1 ⟨rfl, State.Warmed39.refl s, rfl⟩ trivial
  refine ⟨n, _, h1, h2, h3, hpost _ _ _ _ _ _ ⟨Cond.after_iff.mpr rfl, Cond.after_iff.mpr (eq_i res_at (Term.int_eval (1)) rfl), trivial⟩ ⟨hq.1, hq.2.1, (hq.2.2.sift fun y hy => Or.inr (N y hy)).mono (by decide) (by decide)⟩⟩
theorem main_1_1 : Claimed_1_1 := comes_1 fun _ _ _ _ _ _ h hF => ⟨h.1, hF⟩
theorem main_1_2 : Claimed_1_2 := comes_1 fun _ _ _ _ _ _ h hF => ⟨h.2.1, hF⟩
end Jvm.Pilot.@@N@@
namespace Jvm.Pilot.@@N@@
open Jvm Jvm.ClassFile Sem Op Lib Jvm.Free Jvm.Stand Jvm.Pilot.@@N@@.Jvm.D
/-! MADE BY PROGRAM (witnessworld.py) out of the Statement's table words and the real class files: 11 classes; the members and pool entries that the words name. The judged class is class 1, her method 2. -/
namespace start1
open Jvm.ClassFile
def u (s : String) : CpInfo := .utf8 (stringToUtf16 s)
/-- a pool by its gaps: so many unusable entries, then the entry; so many at the end -/
def gap : Nat → List CpInfo → List CpInfo
  | 0, r => r
  | n + 1, r => .unusable :: gap n r
def poolList (es : List (Nat × CpInfo)) (last : Nat) : List CpInfo := es.foldr (fun e r => gap e.1 (e.2 :: r)) (gap last [])
def pool (es : List (Nat × CpInfo)) (last : Nat) : Array CpInfo := ⟨poolList es last⟩
def fileOf (pool : Array CpInfo) (this : Nat) (attrs : Array Attribute := #[]) (ms : Array MethodInfo := #[]) (fl : Nat := 33) (sup : Nat := 0) (ifs : Array Nat := #[]) (fds : Array FieldInfo := #[]) : ClassFile where
  minorVersion := 0
  majorVersion := 65
  constantPool := pool
  accessFlags := fl
  thisClass := this
  superClass := sup
  interfaces := ifs
  fields := fds
  methods := ms
  attributes := attrs
def plain (name : String) (sup : Option ClassId) : Class where
  name := name
  kind := .ordinary
  loader := none
  accessFlags := 33
  super := sup
  interfaces := #[]
  cf := none
  fields := #[]
  methods := #[]
  instanceTypes := #[]
  staticTypes := #[]
  resolved := #[]
  callSites := []
  init := .initialized
  statics := none
  mirror := none

def pool0 : Array CpInfo := pool [(5, u "<init>"), (0, u "()V"), (1, .class_ 10), (1, u "java/lang/Object")] 113

def k0c0 : Code := { maxStack := 0, maxLocals := 1, code := object_method_1_code, exceptionTable := #[], attributes := #[] }
def k0m0 : Method := { name := "<init>", desc := "()V", sig := { parameters := [], returnType := none }, accessFlags := 1, code := some k0c0 }
/-- java/lang/Object -/
def k0 : Class := { plain "java/lang/Object" none with
  accessFlags := 33
  interfaces := #[]
  cf := some (fileOf pool0 8 #[] #[{ accessFlags := 1, nameIndex := 5, descriptorIndex := 6, attributes := #[] }] 33 0 #[] #[])
  fields := #[]
  methods := #[k0m0]
  instanceTypes := #[]
  staticTypes := #[]
  resolved := Array.replicate 124 none
  statics := none }

def pool1 : Array CpInfo := pool [(2, .class_ 4), (1, u "java/lang/Object"), (0, u "<init>"), (0, u "()V"), (0, .class_ 8), (0, u "com/example/weftmap/weftmap/sim/Summary"), (0, .methodref 7 10), (0, .nameAndType 5 11), (0, u "(IIIIDDDD)V"), (0, .methodref 7 13), (0, .nameAndType 14 15), (0, u "acceptanceRatio"), (0, u "()D"), (0, .methodref 17 18), (0, .class_ 19), (0, .nameAndType 20 21), (0, u "com/example/weftmap/weftmap/sim/SummaryAcceptanceRatioPinLaw"), (0, u "ratio"), (0, u "(II)D"), (0, .integer 46341), (2, .integer 2147483647), (0, .methodref 27 28), (0, .class_ 29), (0, .nameAndType 30 31), (0, u "java/lang/Math"), (0, u "abs"), (0, u "(J)J"), (2, u "law"), (0, u "(IIII)Z")] 3

def k1m0 : Method := { name := "<init>", desc := "()V", sig := { parameters := [], returnType := none }, accessFlags := 1, code := none }
def k1c1 : Code := { maxStack := 14, maxLocals := 2, code := method_2_code, exceptionTable := #[], attributes := #[] }
def k1m1 : Method := { name := "ratio", desc := "(II)D", sig := { parameters := [.int, .int], returnType := some .double }, accessFlags := 10, code := some k1c1 }
def k1c2 : Code := { maxStack := 4, maxLocals := 16, code := code, exceptionTable := #[], attributes := #[] }
def k1m2 : Method := { name := "law", desc := "(IIII)Z", sig := { parameters := [.int, .int, .int, .int], returnType := some .boolean }, accessFlags := 9, code := some k1c2 }
/-- com/example/weftmap/weftmap/sim/SummaryAcceptanceRatioPinLaw -/
def k1 : Class := { plain "com/example/weftmap/weftmap/sim/SummaryAcceptanceRatioPinLaw" (some 0) with
  accessFlags := 49
  interfaces := #[]
  cf := some (fileOf pool1 17 #[] #[{ accessFlags := 1, nameIndex := 5, descriptorIndex := 6, attributes := #[] }, { accessFlags := 10, nameIndex := 20, descriptorIndex := 21, attributes := #[] }, { accessFlags := 9, nameIndex := 34, descriptorIndex := 35, attributes := #[] }] 49 2 #[] #[])
  fields := #[]
  methods := #[k1m0, k1m1, k1m2]
  instanceTypes := #[]
  staticTypes := #[]
  resolved := Array.replicate 39 none
  statics := none }

def pool2 : Array CpInfo := pool [(1, .methodref 2 3), (0, .class_ 4), (0, .nameAndType 5 6), (0, u "java/lang/Object"), (0, u "<init>"), (0, u "()V"), (0, .class_ 8), (0, u "java/lang/Record")] 13

def k2c0 : Code := { maxStack := 1, maxLocals := 1, code := jdk_30_method_1_code, exceptionTable := #[], attributes := #[] }
def k2m0 : Method := { name := "<init>", desc := "()V", sig := { parameters := [], returnType := none }, accessFlags := 4, code := some k2c0 }
/-- java/lang/Record -/
def k2 : Class := { plain "java/lang/Record" (some 0) with
  accessFlags := 1057
  interfaces := #[]
  cf := some (fileOf pool2 7 #[] #[{ accessFlags := 4, nameIndex := 5, descriptorIndex := 6, attributes := #[] }] 1057 2 #[] #[])
  fields := #[]
  methods := #[k2m0]
  instanceTypes := #[]
  staticTypes := #[]
  resolved := Array.replicate 22 none
  statics := none }

def pool3 : Array CpInfo := pool [(1, .methodref 2 3), (0, .class_ 4), (0, .nameAndType 5 6), (0, u "java/lang/Record"), (0, u "<init>"), (0, u "()V"), (0, .fieldref 8 9), (0, .class_ 10), (0, .nameAndType 11 12), (0, u "com/example/weftmap/weftmap/sim/Summary"), (0, u "arrived"), (0, u "I"), (0, .fieldref 8 14), (0, .nameAndType 15 12), (0, u "accepted"), (0, .fieldref 8 17), (0, .nameAndType 18 12), (0, u "rejectedNode"), (0, .fieldref 8 20), (0, .nameAndType 21 12), (0, u "rejectedLink"), (0, .fieldref 8 23), (0, .nameAndType 24 25), (0, u "revenue"), (0, u "D"), (0, .fieldref 8 27), (0, .nameAndType 28 25), (0, u "cost"), (0, .fieldref 8 30), (0, .nameAndType 31 25), (0, u "nodeUtilization"), (0, .fieldref 8 33), (0, .nameAndType 34 25), (0, u "linkUtilization"), (30, u "acceptanceRatio"), (0, u "()D"), (87, u "(IIIIDDDD)V")] 60

def k3c0 : Code := { maxStack := 3, maxLocals := 13, code := prog_88_method_1_code, exceptionTable := #[], attributes := #[] }
def k3m0 : Method := { name := "<init>", desc := "(IIIIDDDD)V", sig := { parameters := [.int, .int, .int, .int, .double, .double, .double, .double], returnType := none }, accessFlags := 1, code := some k3c0 }
def k3c1 : Code := { maxStack := 4, maxLocals := 1, code := prog_88_method_3_code, exceptionTable := #[], attributes := #[] }
def k3m1 : Method := { name := "acceptanceRatio", desc := "()D", sig := { parameters := [], returnType := some .double }, accessFlags := 1, code := some k3c1 }
/-- com/example/weftmap/weftmap/sim/Summary -/
def k3 : Class := { plain "com/example/weftmap/weftmap/sim/Summary" (some 2) with
  accessFlags := 49
  interfaces := #[]
  cf := some (fileOf pool3 8 #[] #[{ accessFlags := 1, nameIndex := 5, descriptorIndex := 154, attributes := #[] }, { accessFlags := 1, nameIndex := 65, descriptorIndex := 66, attributes := #[] }] 49 2 #[] #[{ accessFlags := 18, nameIndex := 11, descriptorIndex := 12, attributes := #[] }, { accessFlags := 18, nameIndex := 15, descriptorIndex := 12, attributes := #[] }, { accessFlags := 18, nameIndex := 18, descriptorIndex := 12, attributes := #[] }, { accessFlags := 18, nameIndex := 21, descriptorIndex := 12, attributes := #[] }, { accessFlags := 18, nameIndex := 24, descriptorIndex := 25, attributes := #[] }, { accessFlags := 18, nameIndex := 28, descriptorIndex := 25, attributes := #[] }, { accessFlags := 18, nameIndex := 31, descriptorIndex := 25, attributes := #[] }, { accessFlags := 18, nameIndex := 34, descriptorIndex := 25, attributes := #[] }])
  fields := #[{ name := "arrived", type := .int, accessFlags := 18, slot := 0, constantValue := 0 }, { name := "accepted", type := .int, accessFlags := 18, slot := 1, constantValue := 0 }, { name := "rejectedNode", type := .int, accessFlags := 18, slot := 2, constantValue := 0 }, { name := "rejectedLink", type := .int, accessFlags := 18, slot := 3, constantValue := 0 }, { name := "revenue", type := .double, accessFlags := 18, slot := 4, constantValue := 0 }, { name := "cost", type := .double, accessFlags := 18, slot := 5, constantValue := 0 }, { name := "nodeUtilization", type := .double, accessFlags := 18, slot := 6, constantValue := 0 }, { name := "linkUtilization", type := .double, accessFlags := 18, slot := 7, constantValue := 0 }]
  methods := #[k3m0, k3m1]
  instanceTypes := #[.int, .int, .int, .int, .double, .double, .double, .double]
  staticTypes := #[]
  resolved := Array.replicate 215 none
  statics := none }

def pool4 : Array CpInfo := pool [(1, .class_ 2), (0, u "java/lang/Math"), (1, .class_ 6), (1, u "java/lang/Object"), (0, u "<init>"), (0, u "()V"), (89, .class_ 100), (1, u "java/lang/Math$RandomNumberGeneratorHolder"), (23, u "abs"), (0, u "(J)J"), (46, u "negativeZeroFloatBits"), (0, u "J"), (2, u "negativeZeroDoubleBits"), (68, u "$assertionsDisabled"), (0, u "Z"), (91, u "twoToTheDoubleScaleDown"), (0, u "D"), (4, u "twoToTheDoubleScaleUp"), (9, u "E"), (3, u "PI"), (2, u "TAU"), (2, u "DEGREES_TO_RADIANS"), (0, u "RADIANS_TO_DEGREES")] 94

def k4m0 : Method := { name := "<init>", desc := "()V", sig := { parameters := [], returnType := none }, accessFlags := 2, code := none }
def k4c1 : Code := { maxStack := 4, maxLocals := 2, code := jdk_29_method_61_code, exceptionTable := #[], attributes := #[] }
def k4m1 : Method := { name := "abs", desc := "(J)J", sig := { parameters := [.long], returnType := some .long }, accessFlags := 9, code := some k4c1 }
/-- java/lang/Math -/
def k4 : Class := { plain "java/lang/Math" (some 0) with
  accessFlags := 49
  interfaces := #[]
  cf := some (fileOf pool4 1 #[.nestMembers #[98]] #[{ accessFlags := 2, nameIndex := 7, descriptorIndex := 8, attributes := #[] }, { accessFlags := 9, nameIndex := 124, descriptorIndex := 125, attributes := #[] }] 49 4 #[] #[{ accessFlags := 25, nameIndex := 354, descriptorIndex := 339, attributes := #[] }, { accessFlags := 25, nameIndex := 358, descriptorIndex := 339, attributes := #[] }, { accessFlags := 25, nameIndex := 361, descriptorIndex := 339, attributes := #[] }, { accessFlags := 26, nameIndex := 364, descriptorIndex := 339, attributes := #[] }, { accessFlags := 26, nameIndex := 365, descriptorIndex := 339, attributes := #[] }, { accessFlags := 26, nameIndex := 172, descriptorIndex := 173, attributes := #[] }, { accessFlags := 26, nameIndex := 176, descriptorIndex := 173, attributes := #[] }, { accessFlags := 8, nameIndex := 344, descriptorIndex := 339, attributes := #[] }, { accessFlags := 8, nameIndex := 338, descriptorIndex := 339, attributes := #[] }, { accessFlags := 4120, nameIndex := 245, descriptorIndex := 246, attributes := #[] }])
  fields := #[{ name := "E", type := .double, accessFlags := 25, slot := 0, constantValue := 0 }, { name := "PI", type := .double, accessFlags := 25, slot := 1, constantValue := 0 }, { name := "TAU", type := .double, accessFlags := 25, slot := 2, constantValue := 0 }, { name := "DEGREES_TO_RADIANS", type := .double, accessFlags := 26, slot := 3, constantValue := 0 }, { name := "RADIANS_TO_DEGREES", type := .double, accessFlags := 26, slot := 4, constantValue := 0 }, { name := "negativeZeroFloatBits", type := .long, accessFlags := 26, slot := 5, constantValue := 0 }, { name := "negativeZeroDoubleBits", type := .long, accessFlags := 26, slot := 6, constantValue := 0 }, { name := "twoToTheDoubleScaleUp", type := .double, accessFlags := 8, slot := 7, constantValue := 0 }, { name := "twoToTheDoubleScaleDown", type := .double, accessFlags := 8, slot := 8, constantValue := 0 }, { name := "$assertionsDisabled", type := .boolean, accessFlags := 4120, slot := 9, constantValue := 0 }]
  methods := #[k4m0, k4m1]
  instanceTypes := #[]
  staticTypes := #[.double, .double, .double, .double, .double, .long, .long, .double, .double, .boolean]
  resolved := Array.replicate 460 none
  statics := none }

def pool5 : Array CpInfo := pool [(1, u "java/lang/Cloneable"), (0, .class_ 1), (0, u "java/lang/Object"), (0, .class_ 3)] 3

/-- java/lang/Cloneable -/
def k5 : Class := { plain "java/lang/Cloneable" (some 0) with
  accessFlags := 1537
  interfaces := #[]
  cf := some (fileOf pool5 2 #[] #[] 1537 4 #[] #[])
  fields := #[]
  methods := #[]
  instanceTypes := #[]
  staticTypes := #[]
  resolved := Array.replicate 8 none
  statics := none }

def pool6 : Array CpInfo := pool [(1, u "java/io/Serializable"), (0, .class_ 1), (0, u "java/lang/Object"), (0, .class_ 3)] 3

/-- java/io/Serializable -/
def k6 : Class := { plain "java/io/Serializable" (some 0) with
  accessFlags := 1537
  interfaces := #[]
  cf := some (fileOf pool6 2 #[] #[] 1537 4 #[] #[])
  fields := #[]
  methods := #[]
  instanceTypes := #[]
  staticTypes := #[]
  resolved := Array.replicate 8 none
  statics := none }

/-- the primitive byte -/
def k7 : Class := { plain "byte" none with kind := .primitive 'B', accessFlags := 0x411 }
/-- [B -/
def k8 : Class := { plain "[B" (some 0) with kind := .array 7 .byte, interfaces := #[5, 6], accessFlags := 1041 }

/-- the primitive int -/
def k9 : Class := { plain "int" none with kind := .primitive 'I', accessFlags := 0x411 }
/-- [I -/
def k10 : Class := { plain "[I" (some 0) with kind := .array 9 .int, interfaces := #[5, 6], accessFlags := 1041 }

def heap : Heap := #[]
def classes : Array Class := #[k0, k1, k2, k3, k4, k5, k6, k7, k8, k9, k10]
def interned : List (Array UInt16 × Addr) := []
def slotsUsed : Nat := 0
def theMethod : MethodId := ⟨1, 2⟩
def args0 : Array Value := #[.int 5, .int 7, .int 9, .int 11]
def aboutOver (below : List Frame) : State where
  vm := { classes := classes, interned := interned.toArray }
  heap := heap
  slotsUsed := slotsUsed
  threads := #[{ frames := .invoking theMethod args0 :: below }]
def below0 : List Frame := [.native { method := ⟨0, 0⟩, args := #[] }]
def about1 : State := aboutOver below0
def p0 : Program := .bare "" "" ""
def e0 : Env := launch0.env 0 0 0
theorem w_frames : about1.frames = Frame.invoking theMethod args0 :: below0 := rfl
set_option maxRecDepth 65536 in
theorem w_args : argsFit about1.vm theMethod args0 = true := by decide +kernel
set_option maxRecDepth 65536 in
theorem w_heap : heapFits about1 = true := by decide +kernel
set_option maxRecDepth 65536 in
theorem w_runnable : about1.curStatus? = some .runnable := by decide +kernel
set_option maxRecDepth 65536 in
theorem w_alone : about1.alone = true := by decide +kernel
set_option maxRecDepth 65536 in
theorem w_named : about1.methodNamed? x = some theMethod := by decide +kernel
set_option maxRecDepth 65536 in
theorem w_hears : about1.hears theMethod below0 = true := by decide +kernel
set_option maxRecDepth 65536 in
theorem w_ripe : about1.ripe theMethod args0 below0 = true := by decide +kernel
theorem w_running : about1.status = .running := rfl
set_option maxRecDepth 65536 in
theorem w_room : about1.hasRoom e0.platform room_1 = true :=
  launch0.hasRoom_least _ room_1 (by decide +kernel) (by decide +kernel) (by decide +kernel) (by decide +kernel) (by decide +kernel) (by decide +kernel)
theorem allAtoms_all (ts : List Jvm.Cond) (a : Array Jvm.Value) (st : Jvm.State) : (allAtoms ts).before a st = ts.all (fun c => c.before a st) := by
  induction ts with
  | nil => rfl
  | cons c t ih =>
    show (Jvm.Cond.and c (allAtoms t)).before a st = _
    rw [Jvm.Cond.before_and, ih, List.all_cons]
def words1 : List Jvm.Cond := Jvm.Cond.code x code maxLocals ret :: tables_1
/-- a 'code' word, met by the world's own term for the bytes: nothing is compared byte by byte -/
theorem code_word {y : MethodName} {bytes : ByteArray} {mx : Nat} {rt : Option FieldType} {a : Array Value} {s : State} {m : MethodId} {meth : Method} {c : Code} (h1 : s.methodNamed? y = some m) (h2 : s.vm.method? m = some meth) (h3 : meth.code = some c) (h4 : c.code = bytes)
    (h5 : (c.maxLocals == mx && c.exceptionTable.isEmpty && decide (c.maxStack ≤ mostOperands) && decide (meth.sig.returnType = rt) && !meth.locks && decide (parseMethodDescriptor y.desc = some meth.sig)) = true) : (Jvm.Cond.code y bytes mx rt).before a s = true := by
  simp only [Bool.and_eq_true, beq_iff_eq, Bool.not_eq_true', decide_eq_true_eq] at h5
  obtain ⟨⟨⟨⟨⟨g1, g2⟩, g3⟩, g4⟩, g5⟩, g6⟩ := h5
  simp [Cond.before, Cond.holds, Cond.value, h1, h2, h3, h4, g1, g2, g3, g4, g5, g6]
def isCode : Jvm.Cond → Bool
  | .code _ _ _ _ => true
  | _ => false
theorem all_split {L : List Jvm.Cond} {P : Jvm.Cond → Bool} (h1 : L.all (fun c => isCode c || P c) = true) (h2 : ∀ c ∈ L.filter isCode, P c = true) : L.all P = true := by
  refine List.all_eq_true.mpr fun c hc => ?_
  have h := List.all_eq_true.mp h1 c hc
  rcases Bool.eq_false_or_eq_true (isCode c) with hi | hi
  · exact h2 c (List.mem_filter.mpr ⟨hc, hi⟩)
  · simpa [hi] using h
set_option maxRecDepth 65536 in
theorem w_c0 : (Jvm.Cond.code x code maxLocals ret).before args0 about1 = true := code_word (m := ⟨1, 2⟩) (meth := k1m2) (c := k1c2) (by decide +kernel) rfl rfl rfl (by decide +kernel)
set_option maxRecDepth 65536 in
theorem w_c1 : (Jvm.Cond.code ({ cls := "com/example/weftmap/weftmap/sim/SummaryAcceptanceRatioPinLaw", name := "ratio", desc := "(II)D" } : Jvm.MethodName) method_2_code (2 : Nat) (Option.some Jvm.ClassFile.FieldType.double)).before args0 about1 = true := code_word (m := ⟨1, 1⟩) (meth := k1m1) (c := k1c1) (by decide +kernel) rfl rfl rfl (by decide +kernel)
set_option maxRecDepth 65536 in
theorem w_c2 : (Jvm.Cond.code ({ cls := "com/example/weftmap/weftmap/sim/Summary", name := "<init>", desc := "(IIIIDDDD)V" } : Jvm.MethodName) prog_88_method_1_code (13 : Nat) (Option.none : Option Jvm.ClassFile.FieldType)).before args0 about1 = true := code_word (m := ⟨3, 0⟩) (meth := k3m0) (c := k3c0) (by decide +kernel) rfl rfl rfl (by decide +kernel)
set_option maxRecDepth 65536 in
theorem w_c3 : (Jvm.Cond.code ({ cls := "java/lang/Record", name := "<init>", desc := "()V" } : Jvm.MethodName) jdk_30_method_1_code (1 : Nat) (Option.none : Option Jvm.ClassFile.FieldType)).before args0 about1 = true := code_word (m := ⟨2, 0⟩) (meth := k2m0) (c := k2c0) (by decide +kernel) rfl rfl rfl (by decide +kernel)
set_option maxRecDepth 65536 in
theorem w_c4 : (Jvm.Cond.code ({ cls := "java/lang/Object", name := "<init>", desc := "()V" } : Jvm.MethodName) object_method_1_code (1 : Nat) (Option.none : Option Jvm.ClassFile.FieldType)).before args0 about1 = true := code_word (m := ⟨0, 0⟩) (meth := k0m0) (c := k0c0) (by decide +kernel) rfl rfl rfl (by decide +kernel)
set_option maxRecDepth 65536 in
theorem w_c5 : (Jvm.Cond.code ({ cls := "com/example/weftmap/weftmap/sim/Summary", name := "acceptanceRatio", desc := "()D" } : Jvm.MethodName) prog_88_method_3_code (1 : Nat) (Option.some Jvm.ClassFile.FieldType.double)).before args0 about1 = true := code_word (m := ⟨3, 1⟩) (meth := k3m1) (c := k3c1) (by decide +kernel) rfl rfl rfl (by decide +kernel)
set_option maxRecDepth 65536 in
theorem w_c6 : (Jvm.Cond.code ({ cls := "java/lang/Math", name := "abs", desc := "(J)J" } : Jvm.MethodName) jdk_29_method_61_code (2 : Nat) (Option.some Jvm.ClassFile.FieldType.long)).before args0 about1 = true := code_word (m := ⟨4, 1⟩) (meth := k4m1) (c := k4c1) (by decide +kernel) rfl rfl rfl (by decide +kernel)
def codes1 : List Jvm.Cond := [Jvm.Cond.code x code maxLocals ret, Jvm.Cond.code ({ cls := "com/example/weftmap/weftmap/sim/SummaryAcceptanceRatioPinLaw", name := "ratio", desc := "(II)D" } : Jvm.MethodName) method_2_code (2 : Nat) (Option.some Jvm.ClassFile.FieldType.double), Jvm.Cond.code ({ cls := "com/example/weftmap/weftmap/sim/Summary", name := "<init>", desc := "(IIIIDDDD)V" } : Jvm.MethodName) prog_88_method_1_code (13 : Nat) (Option.none : Option Jvm.ClassFile.FieldType), Jvm.Cond.code ({ cls := "java/lang/Record", name := "<init>", desc := "()V" } : Jvm.MethodName) jdk_30_method_1_code (1 : Nat) (Option.none : Option Jvm.ClassFile.FieldType), Jvm.Cond.code ({ cls := "java/lang/Object", name := "<init>", desc := "()V" } : Jvm.MethodName) object_method_1_code (1 : Nat) (Option.none : Option Jvm.ClassFile.FieldType), Jvm.Cond.code ({ cls := "com/example/weftmap/weftmap/sim/Summary", name := "acceptanceRatio", desc := "()D" } : Jvm.MethodName) prog_88_method_3_code (1 : Nat) (Option.some Jvm.ClassFile.FieldType.double), Jvm.Cond.code ({ cls := "java/lang/Math", name := "abs", desc := "(J)J" } : Jvm.MethodName) jdk_29_method_61_code (2 : Nat) (Option.some Jvm.ClassFile.FieldType.long)]
set_option maxRecDepth 65536 in
theorem codes_eq : words1.filter isCode = codes1 := rfl
theorem w_codes : ∀ c ∈ words1.filter isCode, c.before args0 about1 = true := by
  rw [codes_eq]
  intro c hc
  simp only [codes1, List.mem_cons, List.not_mem_nil, or_false] at hc
  rcases hc with rfl | rfl | rfl | rfl | rfl | rfl | rfl
  · exact w_c0
  · exact w_c1
  · exact w_c2
  · exact w_c3
  · exact w_c4
  · exact w_c5
  · exact w_c6
set_option maxRecDepth 65536 in
theorem w_t1 : (words1.take 24).all (fun c => isCode c || c.before args0 about1) = true := by decide +kernel
set_option maxRecDepth 65536 in
theorem w_t2 : (words1.drop 24).all (fun c => isCode c || c.before args0 about1) = true := by decide +kernel
theorem w_tables : (allAtoms (Jvm.Cond.code x code maxLocals ret :: tables_1)).before args0 about1 = true := by
  rw [allAtoms_all]
  show words1.all (fun c => c.before args0 about1) = true
  refine all_split ?_ w_codes
  rw [← List.take_append_drop 24 words1, List.all_append, w_t1, w_t2]
  rfl
set_option maxRecDepth 65536 in
theorem w_case : (Jvm.Cond.and given_1 narrow_1).before args0 about1 = true := by decide +kernel
theorem w_applies : (headSpec (Jvm.Cond.code x code maxLocals ret :: tables_1) room_1).applies x e0.platform about1 = true :=
  (Spec.applies_iff w_frames).mpr ⟨w_running, w_runnable, w_alone, w_named, w_hears, w_ripe, w_room, w_tables⟩
theorem atStart : AtStart classFile x code maxLocals ret World_1 tables_1 room_1 Calls_1 rest_1 Pre_1 launch0 p0 e0 about1 theMethod args0 below0 :=
  ⟨lists_1, trivial, launch0.admits_env _ _ _, launch0.least_env, fairChoices_fair.cas, fairChoices_fair.clock, w_frames, w_args, w_heap, w_applies, trivial, trivial, w_case⟩
end start1
theorem witness_1 : WitnessClaimed_1 := ⟨start1.p0, start1.e0, start1.about1, start1.theMethod, start1.args0, start1.below0, start1.atStart⟩
end Jvm.Pilot.@@N@@
