import JvmDerived
import JvmDerived.Pilot.@@N@@Statement
import JvmDerived.Pilot.@@N@@Code
set_option linter.unusedVariables false
set_option linter.unusedSimpArgs false
@@BLOCK:NumsL.lean.txt@@
namespace Jvm.RoadKit
open Sem ClassFile Op Lib Jvm.Stand Jvm.Free Jvm.LawKit
section Go
variable {p : Program} {l : Launch} {e : Env} {R : Room} {s : State} {m : MethodId} {args : Array Value} {below : List Frame} {meth : Method} {c : Code} {T : State} {locs : List Loc} {cells slots : Nat} {Z : State} {a0 : Array Value} {h : Heap}
/-- the run from U comes to its return, and leaves what Qv says -/
def Go (p : Program) (e : Env) (below : List Frame) (s : State) (R : Room) (Qv : Option Value → Heap → List Loc → Prop) (U : State) : Prop :=
  ∃ s₂ o, Steps p.tables e below U s₂ ∧ s₂.status = .running ∧ Ended s₂ below o ∧ ∃ v L, o = .returned v ∧ Qv v s₂.heap L ∧ FrameEnd s o s₂ L R.cells R.slots
variable {Qv : Option Value → Heap → List Loc → Prop} {U V : State}
theorem Go.st (h : ∀ t, Steps p.tables e below U t → Steps p.tables e below V t) (k : Go p e below s R Qv U) : Go p e below s R Qv V := by
  obtain ⟨t, o, h1, r⟩ := k
  exact ⟨t, o, h t h1, r⟩
theorem Go.ret (X : Stand p l e R s m args below meth c T locs cells slots) (hlk : meth.locks = false) {v : Option Value} (hv : meth.sig.returnType = none → v = none) (hc : cells ≤ R.cells) (hs : slots ≤ R.slots) (hq : Qv v T.heap locs)
    (st : ∀ fs, (∀ (f : JFrame) (acts : List Action), f.method = m → f.locked = none → f.entered = [] → (doReturn e (T.setTop f) acts v).1 = T.setFrames fs) → Steps p.tables e below V (T.setFrames fs)) : Go p e below s R Qv V := by
  obtain ⟨fs, hr, hrun, hended, hW, hsame⟩ := X.leave (v := v) hv hlk
  exact ⟨_, _, st fs hr, hrun, hended, _, _, rfl, hq, ⟨_, rfl⟩, hW, hsame.mono hc hs⟩
theorem Go.retD (X : Stand p l e R s m args below meth c T locs cells slots) (hx : p.tables.exec = Jvm.exec) (hlk : meth.locks = false) (hret : meth.sig.returnType = some .double) {pc : Nat} {Ls : Array Slot} {z : UInt64} {rest : List Value} (hd : decode c.code pc = .ok (.dreturn, 1)) (hc : cells ≤ R.cells) (hs : slots ≤ R.slots)
    (hq : Qv (some (.double z)) T.heap locs) : Go p e below s R Qv (T.setTop (mkF m pc Ls (.double z :: rest))) :=
  Go.ret X hlk (v := some (.double z)) (fun q => by rw [hret] at q; cases q) hc hs hq fun fs hr => retOut X hx hret rfl (Or.inr (Or.inr (Or.inl ⟨rfl, rfl, _, rfl⟩))) hd hr
theorem Go.retJ (X : Stand p l e R s m args below meth c T locs cells slots) (hx : p.tables.exec = Jvm.exec) (hlk : meth.locks = false) (hret : meth.sig.returnType = some .long) {pc : Nat} {Ls : Array Slot} {z : Int64} {rest : List Value} (hd : decode c.code pc = .ok (.lreturn, 1)) (hc : cells ≤ R.cells) (hs : slots ≤ R.slots)
    (hq : Qv (some (.long z)) T.heap locs) : Go p e below s R Qv (T.setTop (mkF m pc Ls (.long z :: rest))) :=
  Go.ret X hlk (v := some (.long z)) (fun q => by rw [hret] at q; cases q) hc hs hq fun fs hr => retOut X hx hret rfl (Or.inr (Or.inl ⟨rfl, rfl, _, rfl⟩)) hd hr
theorem Go.retI (X : Stand p l e R s m args below meth c T locs cells slots) (hx : p.tables.exec = Jvm.exec) (hlk : meth.locks = false) (hret : meth.sig.returnType = some .int) {pc : Nat} {Ls : Array Slot} {z : Int32} {rest : List Value} (hd : decode c.code pc = .ok (.ireturn, 1)) (hc : cells ≤ R.cells) (hs : slots ≤ R.slots)
    (hq : Qv (some (.int z)) T.heap locs) : Go p e below s R Qv (T.setTop (mkF m pc Ls (.int z :: rest))) :=
  Go.ret X hlk (v := some (.int z)) (fun q => by rw [hret] at q; cases q) hc hs hq fun fs hr => retOut X hx hret rfl (Or.inl ⟨rfl, Or.inl rfl, _, rfl⟩) hd hr
theorem Go.retZ (X : Stand p l e R s m args below meth c T locs cells slots) (hx : p.tables.exec = Jvm.exec) (hlk : meth.locks = false) (hret : meth.sig.returnType = some .boolean) {pc : Nat} {Ls : Array Slot} {z : Int32} {rest : List Value} (hd : decode c.code pc = .ok (.ireturn, 1)) (hc : cells ≤ R.cells) (hs : slots ≤ R.slots)
    (hq : Qv (some (.int (nar .boolean z))) T.heap locs) : Go p e below s R Qv (T.setTop (mkF m pc Ls (.int z :: rest))) :=
  Go.ret X hlk (v := some (.int (nar .boolean z))) (fun q => by rw [hret] at q; cases q) hc hs hq fun fs hr => retN X hx hret (Or.inl rfl) hd hr
theorem Go.retV (X : Stand p l e R s m args below meth c T locs cells slots) (hx : p.tables.exec = Jvm.exec) (hlk : meth.locks = false) (hret : meth.sig.returnType = none) {pc : Nat} {Ls : Array Slot} {st : List Value} (hd : decode c.code pc = .ok (.return_, 1)) (hc : cells ≤ R.cells) (hs : slots ≤ R.slots)
    (hq : Qv none T.heap locs) : Go p e below s R Qv (T.setTop (mkF m pc Ls [])) :=
  Go.ret X hlk (v := none) (fun _ => rfl) hc hs hq fun fs hr => X.returnOut hx hret hd hr
theorem Go.callS (X : Stand p l e R s m args below meth c T locs cells slots) (hx : p.tables.exec = Jvm.exec) (hZ : Z.Warmed39 s.vm) {own : String} {index : Nat} {y : MethodName} {bytes : ByteArray} {maxL : Nat} {ret : Option FieldType} (hown : s.vm.findClass own = some m.cls)
    (w1 : (Cond.methodLink own index y).before a0 Z = true) (w2 : (Cond.static y).before a0 Z = true) (w3 : (Cond.initialized y.cls).before a0 Z = true) (w4 : (Cond.code y bytes maxL ret).before a0 Z = true) (hy : y.cls ≠ "java/lang/invoke/MethodHandle" ∧ y.cls ≠ "java/lang/invoke/VarHandle")
    {rm : Room} {as' : Array Value} {Q : Option Value → Heap → List Loc → Prop}
    (hM : MetFree l y (head1 [Cond.code y bytes maxL ret] rm) (fun a U => a = as' ∧ Z.Warmed39 U.vm ∧ U.heap = h) (fun _ _ _ _ _ => True) (fun _ U o U' => ∃ v L, o = .returned v ∧ Q v U'.heap L ∧ FrameEnd U o U' L rm.cells rm.slots))
    (eT : T.heap = h) (W : Nat) (hf : rm.frames + 1 ≤ R.frames) (hl : W + (maxL + 11) + rm.locals ≤ R.locals) {g : JFrame} (hg : g.method = m) (hsize : g.locals.size = c.maxLocals) (argsL rest : List Value) (ha : as' = argsL.toArray)
    (hlen : ∀ sig, parseMethodDescriptor y.desc = some sig → argsL.length = sig.parameters.length) (hst : g.stack = argsL.reverse ++ rest) (hW : 2 * g.monitorRoom + (rest.map fun v => v.category).sum ≤ W) (hd : decode c.code g.pc = .ok (.invokestatic index, 3)) (hc : cells + rm.cells ≤ R.cells) (hs : slots + rm.slots ≤ R.slots)
    (k : ∀ v T' L, Q v T'.heap L → Stand p l e R s m args below meth c T' (locs ++ L) (cells + rm.cells) (slots + rm.slots) → Go p e below s R Qv (T'.setTop { g with pc := g.pc + 3, stack := v.toList ++ rest })) : Go p e below s R Qv (T.setTop g) := by
  subst ha
  obtain ⟨v, vm1, ⟨T', L', c', n'⟩, -, X', ⟨L, hQ, l1, y1, z1⟩, st⟩ := Jvm.LawKit.callS X hx hown (mvT hZ w1) (mvT hZ w2) (mvT hZ w3) (mvT hZ w4) hy (backOf (W := W) hM hZ w4 w3 hf hl) hg hsize (argsL := argsL) (rest := rest) hlen hst hW hd (fun _ _ => ⟨rfl, eT, hc, hs⟩)
  dsimp only [Pt.U, Pt.locs, Pt.cells, Pt.slots] at X' l1 y1 z1 st hQ
  subst l1 y1 z1
  exact Go.st st (k v T' L hQ X')
theorem Go.callI (X : Stand p l e R s m args below meth c T locs cells slots) (hx : p.tables.exec = Jvm.exec) (hZ : Z.Warmed39 s.vm) {own : String} {index : Nat} {y : MethodName} {bytes : ByteArray} {maxL : Nat} (hown : s.vm.findClass own = some m.cls) (hy1 : y.name = "<init>")
    (w1 : (Cond.methodLink own index y).before a0 Z = true) (w2 : (Cond.instanceMethod y).before a0 Z = true) (w3 : (Cond.initialized y.cls).before a0 Z = true) (w4 : (Cond.code y bytes maxL none).before a0 Z = true) (hy : y.cls ≠ "java/lang/invoke/MethodHandle" ∧ y.cls ≠ "java/lang/invoke/VarHandle")
    {rm : Room} {as' : Array Value} {Q : Option Value → Heap → List Loc → Prop}
    (hM : MetFree l y (head1 [Cond.code y bytes maxL none] rm) (fun a U => a = as' ∧ Z.Warmed39 U.vm ∧ U.heap = h) (fun _ _ _ _ _ => True) (fun _ U o U' => ∃ v L, o = .returned v ∧ Q v U'.heap L ∧ FrameEnd U o U' L rm.cells rm.slots))
    (eT : T.heap = h) (W : Nat) (hf : rm.frames + 1 ≤ R.frames) (hl : W + (maxL + 11) + rm.locals ≤ R.locals) {g : JFrame} (hg : g.method = m) (hsize : g.locals.size = c.maxLocals) (a : Addr) (argsL rest : List Value) (ha : as' = (.ref a :: argsL).toArray)
    (hlen : ∀ sig, parseMethodDescriptor y.desc = some sig → argsL.length = sig.parameters.length) (hst : g.stack = argsL.reverse ++ .ref a :: rest) (hW : 2 * g.monitorRoom + (rest.map fun v => v.category).sum ≤ W) (hd : decode c.code g.pc = .ok (.invokespecial index, 3)) (hc : cells + rm.cells ≤ R.cells) (hs : slots + rm.slots ≤ R.slots)
    (k : ∀ v T' L, Q v T'.heap L → Stand p l e R s m args below meth c T' (locs ++ L) (cells + rm.cells) (slots + rm.slots) → Go p e below s R Qv (T'.setTop { g with pc := g.pc + 3, stack := v.toList ++ rest })) : Go p e below s R Qv (T.setTop g) := by
  subst ha
  obtain ⟨v, vm1, ⟨T', L', c', n'⟩, -, X', ⟨L, hQ, l1, y1, z1⟩, st⟩ := X.specialBack hx hy1 hown (mvT hZ w1) (mvT hZ w2) (mvT hZ w4) hy (backOf (W := W) hM hZ w4 w3 hf hl) hg hsize (Steps.refl _) (a := a) (argsL := argsL) (rest := rest) hlen hst hW hd (fun _ _ => ⟨rfl, eT, hc, hs⟩)
  dsimp only [Pt.U, Pt.locs, Pt.cells, Pt.slots] at X' l1 y1 z1 st hQ
  subst l1 y1 z1
  exact Go.st (fun t k => st.trans k) (k v T' L hQ X')
theorem Go.callV (X : Stand p l e R s m args below meth c T locs cells slots) (hx : p.tables.exec = Jvm.exec) (hZ : Z.Warmed39 s.vm) {own C : String} {index : Nat} {y : MethodName} {bytes : ByteArray} {maxL : Nat} {ret : Option FieldType} (hown : s.vm.findClass own = some m.cls)
    (w1 : (Cond.methodLink own index y).before a0 Z = true) (w2 : (Cond.declares y).before a0 Z = true) (w5 : (Cond.selects C y y).before a0 Z = true) (w6 : (Cond.instanceMethod y).before a0 Z = true) (w3 : (Cond.initialized y.cls).before a0 Z = true) (w4 : (Cond.code y bytes maxL ret).before a0 Z = true) (hy : y.cls ≠ "java/lang/invoke/MethodHandle" ∧ y.cls ≠ "java/lang/invoke/VarHandle")
    {rm : Room} {as' : Array Value} {Q : Option Value → Heap → List Loc → Prop}
    (hM : MetFree l y (head1 [Cond.code y bytes maxL ret] rm) (fun a U => a = as' ∧ Z.Warmed39 U.vm ∧ U.heap = h) (fun _ _ _ _ _ => True) (fun _ U o U' => ∃ v L, o = .returned v ∧ Q v U'.heap L ∧ FrameEnd U o U' L rm.cells rm.slots))
    (eT : T.heap = h) (a : Addr) (E : Exa Z h a C) (W : Nat) (hf : rm.frames + 1 ≤ R.frames) (hl : W + (maxL + 11) + rm.locals ≤ R.locals) {g : JFrame} (hg : g.method = m) (hsize : g.locals.size = c.maxLocals) (argsL rest : List Value) (ha : as' = (.ref a :: argsL).toArray)
    (hlen : ∀ sig, parseMethodDescriptor y.desc = some sig → argsL.length = sig.parameters.length) (hst : g.stack = argsL.reverse ++ .ref a :: rest) (hW : 2 * g.monitorRoom + (rest.map fun v => v.category).sum ≤ W) (hd : decode c.code g.pc = .ok (.invokevirtual index, 3)) (hc : cells + rm.cells ≤ R.cells) (hs : slots + rm.slots ≤ R.slots)
    (k : ∀ v T' L, Q v T'.heap L → Stand p l e R s m args below meth c T' (locs ++ L) (cells + rm.cells) (slots + rm.slots) → Go p e below s R Qv (T'.setTop { g with pc := g.pc + 3, stack := v.toList ++ rest })) : Go p e below s R Qv (T.setTop g) := by
  subst ha
  obtain ⟨cB, kB, q1, q2, q3⟩ := isOf hZ eT E
  obtain ⟨v, vm1, ⟨T', L', c', n'⟩, -, X', ⟨L, hQ, l1, y1, z1⟩, st⟩ := X.virtualBack hx hown (mvT hZ w1) (mvT hZ w2) (notFace_of_selects (args := #[]) (mvT hZ w5)) (mvT hZ w5) (mvT hZ w6) hy (backOf (W := W) hM hZ w4 w3 hf hl) q1 q3 hg hsize (Steps.refl _) (argsL := argsL) (rest := rest) hlen hst hW hd (fun _ _ => ⟨rfl, eT, hc, hs⟩)
  dsimp only [Pt.U, Pt.locs, Pt.cells, Pt.slots] at X' l1 y1 z1 st hQ
  subst l1 y1 z1
  exact Go.st (fun t k => st.trans k) (k v T' L hQ X')
/-- a body's contract, by its walk -/
theorem Go.met {y : MethodName} {bytes : ByteArray} {maxL : Nat} {ret : Option FieldType} {ws : List Cond} {rm : Room} {as' : Array Value} {Q : Option Value → Heap → List Loc → Prop} (hn : plainFor y = true)
    (body : ∀ (p : Program) (e : Env) (s : State) (m : MethodId) (below : List Frame) (meth : Method) (c : Code) (s₁ : State), p.tables.exec = Jvm.exec → c.code = bytes → c.maxLocals = maxL → s.vm.findClass y.cls = some m.cls → meth.name = y.name → meth.sig.returnType = ret → meth.locks = false → Z.Warmed39 s.vm → s₁.heap = h →
      Stand p l e rm s m as' below meth c s₁ [] 0 0 → Go p e below s rm Q (s₁.setTop (entryFrame m as' maxL))) :
    MetFree l y (head1 (Cond.code y bytes maxL ret :: ws) rm) (fun a U => a = as' ∧ Z.Warmed39 U.vm ∧ U.heap = h) (fun _ _ _ _ _ => True) (fun _ U o U' => ∃ v L, o = .returned v ∧ Q v U'.heap L ∧ FrameEnd U o U' L rm.cells rm.slots) := by
  refine MetFree.of_bodySF hn hisR ?_
  intro p e s m args below meth c s₁ Bd hml hP hK
  obtain ⟨rfl, hZ, hh⟩ := hP
  exact body p e s m below meth c s₁ Bd.exec Bd.bytes hml (findClass_of_methodNamed Bd.named) (name_of_methodNamed Bd.named Bd.method).1 Bd.returns Bd.notSynchronized hZ (by rw [← hh, Bd.state]; rfl) (Stand.of_body Bd)
theorem Keep.size_le {h0 h : Heap} {ws : List Addr} (K : Keep h0 h ws) : h0.size ≤ h.size := K.1
theorem Go.cast {g g' : JFrame} (q : g = g') (k : Go p e below s R Qv (T.setTop g')) : Go p e below s R Qv (T.setTop g) := q ▸ k
end Go
end Jvm.RoadKit
namespace Jvm.OwnFl
open Jvm Jvm.FP Jvm.FP.Core Jvm.Free.Fl Op
/-- a double as a whole number of the least doubles -/
abbrev zv (a : UInt64) : Int := zval b64 (val64 a)
theorem zv_def (a : UInt64) : zv a = zval b64 (val64 a) := rfl
theorem nn_int {i : Int} {a : UInt64} (h : DInt i a) : NoNaN64 a := val64_no.mpr (DInt_ne_nan h)
theorem nn_fin {a : UInt64} (h : DFin a) : NoNaN64 a := val64_no.mpr h.ne_nan
theorem fin_int {i : Int} {a : UInt64} (h : DInt i a) : DFin a := by
  unfold DInt at h
  cases hv : val64 a with
  | nan => rw [hv] at h; exact h.elim
  | inf s => rw [hv] at h; exact h.elim
  | fin s c q => exact ⟨s, c, q, hv⟩
/-! what a comparison pushes -/
theorem cv_lt {a b : UInt64} (ha : NoNaN64 a) (hb : NoNaN64 b) (h : zv a < zv b) (o : ClassFile.CmpOp) : cmpValue (FP.dcmp a b) o = -1 := by
  rw [show FP.dcmp a b = some .lt by
    show Core.dcmp a b = _
    rw [dcmp_zval (val64_no.mp ha) (val64_no.mp hb)]; exact congrArg some ((compare_lt_iff _ _).mpr h)]
  cases o <;> rfl
theorem cv_eq {a b : UInt64} (ha : NoNaN64 a) (hb : NoNaN64 b) (h : zv a = zv b) (o : ClassFile.CmpOp) : cmpValue (FP.dcmp a b) o = 0 := by
  rw [show FP.dcmp a b = some .eq by
    show Core.dcmp a b = _
    rw [dcmp_zval (val64_no.mp ha) (val64_no.mp hb)]; exact congrArg some ((compare_eq_iff _ _).mpr h)]
  cases o <;> rfl
theorem cv_gt {a b : UInt64} (ha : NoNaN64 a) (hb : NoNaN64 b) (h : zv b < zv a) (o : ClassFile.CmpOp) : cmpValue (FP.dcmp a b) o = 1 := by
  rw [show FP.dcmp a b = some .gt by
    show Core.dcmp a b = _
    rw [dcmp_zval (val64_no.mp ha) (val64_no.mp hb)]; exact congrArg some ((compare_gt_iff _ _).mpr h)]
  cases o <;> rfl
theorem cv_ge {a b : UInt64} (ha : NoNaN64 a) (hb : NoNaN64 b) (h : zv b ≤ zv a) (o : ClassFile.CmpOp) : ¬ (cmpValue (FP.dcmp a b) o < 0) := by
  rcases Int.lt_or_eq_of_le h with h | h
  · rw [cv_gt ha hb h o]; decide
  · rw [cv_eq ha hb h.symm o]; decide
theorem cv_le {a b : UInt64} (ha : NoNaN64 a) (hb : NoNaN64 b) (h : zv a ≤ zv b) (o : ClassFile.CmpOp) : ¬ (0 < cmpValue (FP.dcmp a b) o) := by
  rcases Int.lt_or_eq_of_le h with h | h
  · rw [cv_lt ha hb h o]; decide
  · rw [cv_eq ha hb h o]; decide
theorem cv_lt' {a b : UInt64} (ha : NoNaN64 a) (hb : NoNaN64 b) (h : zv a < zv b) (o : ClassFile.CmpOp) : cmpValue (FP.dcmp a b) o < 0 := by rw [cv_lt ha hb h o]; decide
theorem cv_gt' {a b : UInt64} (ha : NoNaN64 a) (hb : NoNaN64 b) (h : zv b < zv a) (o : ClassFile.CmpOp) : 0 < cmpValue (FP.dcmp a b) o := by rw [cv_gt ha hb h o]; decide
theorem cv_ne {a b : UInt64} (ha : NoNaN64 a) (hb : NoNaN64 b) (h : zv a ≠ zv b) (o : ClassFile.CmpOp) : ¬ (cmpValue (FP.dcmp a b) o = 0) := by
  rcases Int.lt_or_gt_of_ne h with h | h
  · rw [cv_lt ha hb h o]; decide
  · rw [cv_gt ha hb h o]; decide
/-! what lcmp pushes -/
theorem lc_eq {x y : Int64} : Jvm.RoadKit.lcmpW x y = 0 ↔ x.toInt = y.toInt := by
  rw [Int64.toInt_inj]
  unfold Jvm.RoadKit.lcmpW
  by_cases h : x > y
  · rw [if_pos h]; constructor
    · intro h1; exact absurd h1 (by decide)
    · rintro rfl; exact absurd h (Int64.lt_irrefl)
  · rw [if_neg h]
    by_cases h2 : x = y
    · rw [if_pos h2]; simp [h2]
    · rw [if_neg h2]; constructor
      · intro h1; exact absurd h1 (by decide)
      · intro h1; exact absurd h1 h2
theorem lc_gt {x y : Int64} : 0 < Jvm.RoadKit.lcmpW x y ↔ y.toInt < x.toInt := by
  rw [← Int64.lt_iff_toInt_lt]
  unfold Jvm.RoadKit.lcmpW
  by_cases h : x > y
  · rw [if_pos h]; exact ⟨fun _ => h, fun _ => by decide⟩
  · rw [if_neg h]
    by_cases h2 : x = y
    · rw [if_pos h2]; exact ⟨fun h1 => absurd h1 (by decide), fun h1 => absurd h1 h⟩
    · rw [if_neg h2]; exact ⟨fun h1 => absurd h1 (by decide), fun h1 => absurd h1 h⟩
theorem lc_lt {x y : Int64} : Jvm.RoadKit.lcmpW x y < 0 ↔ x.toInt < y.toInt := by
  by_cases h : x > y
  · have h3 := Int64.lt_iff_toInt_lt.mp h
    unfold Jvm.RoadKit.lcmpW
    rw [if_pos h]; exact ⟨fun h1 => absurd h1 (by decide), fun h1 => by omega⟩
  · have h3 : ¬ (y.toInt < x.toInt) := fun q => h (Int64.lt_iff_toInt_lt.mpr q)
    unfold Jvm.RoadKit.lcmpW
    rw [if_neg h]
    by_cases h2 : x = y
    · rw [if_pos h2]; subst h2; exact ⟨fun h1 => absurd h1 (by decide), fun h1 => by omega⟩
    · rw [if_neg h2]
      have h4 : x.toInt ≠ y.toInt := fun q => h2 (Int64.toInt_inj.mp q)
      exact ⟨fun _ => by omega, fun _ => by decide⟩
/-! whole numbers -/
theorem zv_int {i : Int} {a : UInt64} (h : DInt i a) : zv a = i * (one64 : Int) := DInt_zval h
theorem one_pos : (0 : Int) < (one64 : Int) := Int.ofNat_lt.mpr one64_pos
theorem cvi_eq {i j : Int} {a b : UInt64} (ha : DInt i a) (hb : DInt j b) (h : i = j) (o : ClassFile.CmpOp) : cmpValue (FP.dcmp a b) o = 0 :=
  cv_eq (nn_int ha) (nn_int hb) (by rw [zv_int ha, zv_int hb, h]) o
theorem cvi_lt {i j : Int} {a b : UInt64} (ha : DInt i a) (hb : DInt j b) (h : i < j) (o : ClassFile.CmpOp) : cmpValue (FP.dcmp a b) o = -1 :=
  cv_lt (nn_int ha) (nn_int hb) (by rw [zv_int ha, zv_int hb]; exact Int.mul_lt_mul_of_pos_right h one_pos) o
theorem cvi_gt {i j : Int} {a b : UInt64} (ha : DInt i a) (hb : DInt j b) (h : j < i) (o : ClassFile.CmpOp) : cmpValue (FP.dcmp a b) o = 1 :=
  cv_gt (nn_int ha) (nn_int hb) (by rw [zv_int ha, zv_int hb]; exact Int.mul_lt_mul_of_pos_right h one_pos) o
theorem zint : DInt 0 (0 : UInt64) := by unfold DInt; rw [val64_zero]; show signed false (0 * _) = 0 * _; simp [signed]
theorem l2dI {x : Int64} (h1 : -9007199254740992 ≤ x.toInt) (h2 : x.toInt ≤ 9007199254740992) : DInt x.toInt (FP.l2d x) := l2d_int (by omega)
theorem i2dI (x : Int32) : DInt x.toInt (FP.i2d x) := i2d_int x
theorem mulI {i j : Int} {a b : UInt64} (ha : DInt i a) (hb : DInt j b) (h : (i * j).natAbs ≤ 9007199254740992) : DInt (i * j) (FP.dmul a b) := dmul_int ha hb h
theorem addI {i j : Int} {a b : UInt64} (ha : DInt i a) (hb : DInt j b) (h : (i + j).natAbs ≤ 9007199254740992) : DInt (i + j) (FP.dadd a b) := dadd_int ha hb h
theorem subI {i j : Int} {a b : UInt64} (ha : DInt i a) (hb : DInt j b) (h : (i - j).natAbs ≤ 9007199254740992) : DInt (i - j) (FP.dsub a b) := dsub_int ha hb h
theorem absMul {i j : Int} {A B : Nat} (h1 : i.natAbs ≤ A) (h2 : j.natAbs ≤ B) : (i * j).natAbs ≤ A * B := by rw [Int.natAbs_mul]; exact Nat.mul_le_mul h1 h2
end Jvm.OwnFl
namespace Jvm.OwnFl
open Jvm Jvm.FP Jvm.FP.Core Jvm.Free.Fl Op
/-! ROUNDING: rz A B: the double nearest A / B, as a whole number of the least doubles -/
def rz (A B : Nat) : Nat := zmag b64 (roundRatio b64 false A B 0)
/-- v least doubles are a double -/
def Rep (v : Nat) : Prop := ∃ c q, Core.fits b64 (.fin false c q) ∧ inUnits c q b64.qmin = v
theorem qz : b64.qmin = -1074 := by decide
theorem rep_of {c k : Nat} (hc : c < 2 ^ 53) (hk : k ≤ 2045) : Rep (c * 2 ^ k) := by
  obtain ⟨c', q', h1, h2⟩ := round_exact good_b64 false (c := c) (q := b64.qmin + k) hc (by omega) (by have : b64.qmax = 971 := by decide
                                                                                                       rw [qz, this]; omega)
  refine ⟨c', q', ?_, ?_⟩
  · rw [← h1]; exact round_fits good_b64 _
  · rw [h2]; unfold inUnits; rw [show (b64.qmin + (k : Int) - b64.qmin).toNat = k by omega]
theorem rep_le {n k : Nat} (hn : n ≤ 2 ^ 53) (hk : k ≤ 2044) : Rep (n * 2 ^ k) := by
  rcases Nat.lt_or_eq_of_le hn with h | h
  · exact rep_of h (by omega)
  · have := rep_of (c := 2 ^ 52) (k := k + 1) (by decide) (by omega)
    rw [h]; rw [Nat.pow_succ] at this
    rw [show (2 : Nat) ^ 53 * 2 ^ k = 2 ^ 52 * (2 ^ k * 2) by rw [show (2 : Nat) ^ 53 = 2 ^ 52 * 2 from rfl]; grind]
    exact this
theorem rep_int {n : Nat} (hn : n ≤ 2 ^ 53) : Rep (n * one64) := rep_le hn (by decide)
theorem inU (A : Nat) : inUnits A 0 b64.qmin = A * one64 := by
  unfold inUnits; rw [← pow_qmin64, show (0 - b64.qmin : Int) = -b64.qmin by omega]
theorem rz_le {A B v : Nat} (hB : 0 < B) (hv : Rep v) (h : A * one64 ≤ v * B) : rz A B ≤ v := by
  obtain ⟨c, q, hf, rfl⟩ := hv
  refine zmag_roundRatio_le good_b64 hB hf (by simp) (e0 := b64.qmin) (Int.le_refl _) (by rw [qz]; decide) ?_
  rw [inU, show (b64.qmin - b64.qmin : Int).toNat = 0 by omega, Nat.pow_zero, Nat.mul_one]
  exact h
theorem rz_ge {A B v : Nat} (hB : 0 < B) (hv : Rep v) (h : v * B ≤ A * one64) : v ≤ rz A B := by
  obtain ⟨c, q, hf, rfl⟩ := hv
  refine zmag_roundRatio_ge good_b64 hB hf (e0 := b64.qmin) (Int.le_refl _) (by rw [qz]; decide) ?_
  rw [inU, show (b64.qmin - b64.qmin : Int).toNat = 0 by omega, Nat.pow_zero, Nat.mul_one]
  exact h
theorem rz_exact {A B v : Nat} (hB : 0 < B) (hv : Rep v) (h : A * one64 = v * B) : rz A B = v :=
  Nat.le_antisymm (rz_le hB hv (Nat.le_of_eq h)) (rz_ge hB hv (Nat.le_of_eq h.symm))
theorem rz_congr {A B A' B' : Nat} (hB : 0 < B) (hB' : 0 < B') (h : A * B' = A' * B) : rz A B = rz A' B' := by
  unfold rz
  rw [roundRatio_congr (f := b64) (s := false) (e := 0) (e' := 0) hB hB' (by simpa using h)]
theorem rz_zero (B : Nat) : rz 0 B = 0 := by
  unfold rz roundRatio; simp [zmag, inUnits]
theorem zmag_sign (s : Bool) (A B : Nat) (e : Int) : zmag b64 (roundRatio b64 s A B e) = zmag b64 (roundRatio b64 false A B e) := by
  unfold roundRatio roundAt settle bound
  split
  · rfl
  · split
    · split <;> rfl
    · split <;> rfl
/-- the quotient of two finite doubles -/
theorem val_ddiv {a b : UInt64} (ha : DFin a) (hb : DFin b) (h0 : zv b ≠ 0) :
    ∃ s A B, 0 < B ∧ zv a = signed (sgn (val64 a)) A ∧ zv b = signed (sgn (val64 b)) B ∧ s = (sgn (val64 a) != sgn (val64 b)) ∧ val64 (FP.ddiv a b) = roundRatio b64 s A B 0 := by
  obtain ⟨s, c, q, e1⟩ := ha
  obtain ⟨t, d, r, e2⟩ := hb
  have f1 := val64_fits a
  have f2 := val64_fits b
  have hzb : zv b = signed t (inUnits d r b64.qmin) := by rw [zv_def, e2]; rfl
  have hd : d ≠ 0 := by
    intro hd; apply h0; rw [hzb, hd]; unfold inUnits; rw [Nat.zero_mul, signed_zero]
  rw [e1] at f1; rw [e2] at f2
  have q1 := f1.2.1; have q2 := f2.2.1
  refine ⟨s != t, inUnits c q b64.qmin, inUnits d r b64.qmin, Nat.mul_pos (Nat.pos_of_ne_zero hd) (Nat.two_pow_pos _), by rw [zv_def, e1]; rfl, by rw [zv_def, e2]; rfl, by rw [e1, e2]; rfl, ?_⟩
  show val64 (Core.ddiv a b) = _
  rw [val64_ddiv, e1, e2]
  show (if d = 0 then _ else roundRatio b64 (s != t) c d (q - r)) = _
  rw [if_neg hd]
  refine roundRatio_congr (Nat.pos_of_ne_zero hd) (Nat.mul_pos (Nat.pos_of_ne_zero hd) (Nat.two_pow_pos _)) ?_
  unfold inUnits
  have e3 : (r - b64.qmin).toNat + (q - r - 0).toNat = (q - b64.qmin).toNat + (0 - (q - r)).toNat := by omega
  rw [show c * (d * 2 ^ (r - b64.qmin).toNat) * 2 ^ (q - r - 0).toNat = c * d * (2 ^ (r - b64.qmin).toNat * 2 ^ (q - r - 0).toNat) by grind, ← Nat.pow_add, e3, Nat.pow_add]
  grind
theorem zv_round (s : Bool) (A B : Nat) : zval b64 (roundRatio b64 s A B 0) = signed s (rz A B) := by
  unfold zval; rw [sgn_roundRatio, zmag_sign]; rfl
theorem nn_ddiv {a b : UInt64} (ha : DFin a) (hb : DFin b) (h0 : zv b ≠ 0) : NoNaN64 (FP.ddiv a b) := by
  obtain ⟨s, A, B, -, -, -, -, h⟩ := val_ddiv ha hb h0
  refine val64_no.mpr ?_
  rw [h]; exact roundRatio_ne_nan _ _ _ _ _
/-- where both are positive, or the dividend nought -/
theorem zv_ddiv {a b : UInt64} {A B : Nat} (ha : DFin a) (hb : DFin b) (h1 : zv a = (A : Int)) (h2 : zv b = (B : Int)) (hB : 0 < B) : zv (FP.ddiv a b) = (rz A B : Int) := by
  obtain ⟨s, A', B', p, q1, q2, hs, h⟩ := val_ddiv ha hb (by omega)
  have e1 : A' = A := by
    have := natAbs_signed (sgn (val64 a)) A'
    rw [← q1, h1] at this; omega
  have e2 : B' = B := by
    have := natAbs_signed (sgn (val64 b)) B'
    rw [← q2, h2] at this; omega
  subst e1 e2
  rw [zv_def, h, zv_round]
  by_cases z : A' = 0
  · subst z; rw [rz_zero, signed_zero]; rfl
  · have s1 : sgn (val64 a) = false := by
      cases hq : sgn (val64 a) with
      | false => rfl
      | true => rw [hq, h1] at q1; simp only [signed, if_true] at q1; omega
    have s2 : sgn (val64 b) = false := by
      cases hq : sgn (val64 b) with
      | false => rfl
      | true => rw [hq, h2] at q2; simp only [signed, if_true] at q2; omega
    rw [hs, s1, s2]; rfl
/-- the quotient of two whole numbers, the divisor positive -/
theorem zv_divI {i j : Nat} {a b : UInt64} (ha : DInt i a) (hb : DInt j b) (hj : 0 < j) : zv (FP.ddiv a b) = (rz i j : Int) := by
  have h1 : zv a = ((i * one64 : Nat) : Int) := by rw [zv_int ha]; rfl
  have h2 : zv b = ((j * one64 : Nat) : Int) := by rw [zv_int hb]; rfl
  rw [zv_ddiv (fin_int ha) (fin_int hb) h1 h2 (Nat.mul_pos hj one64_pos)]
  exact congrArg Int.ofNat (rz_congr (Nat.mul_pos hj one64_pos) hj (by grind))
theorem nn_divI {i j : Int} {a b : UInt64} (ha : DInt i a) (hb : DInt j b) (hj : j ≠ 0) : NoNaN64 (FP.ddiv a b) :=
  nn_ddiv (fin_int ha) (fin_int hb) (by rw [zv_int hb]; have := one_pos; intro h; rcases Int.mul_eq_zero.mp h with h | h <;> omega)
theorem sgn_key {k : Int} {t : Bool} {K : Nat} (hk : k * (one64 : Int) = signed t K) (h0 : k ≠ 0) : t = decide (k < 0) := by
  rcases Int.lt_or_gt_of_ne h0 with h | h
  · have h1 := Int.mul_neg_of_neg_of_pos h one_pos
    cases t with
    | true => simp [h]
    | false => rw [hk] at h1; simp only [signed] at h1; exfalso; simp at h1; omega
  · have h1 := Int.mul_pos h one_pos
    cases t with
    | false => simp; omega
    | true => rw [hk] at h1; simp only [signed, if_true] at h1; exfalso; omega
/-- the quotient of two whole numbers, by their signs -/
theorem zv_divS {i j : Int} {a b : UInt64} (ha : DInt i a) (hb : DInt j b) (hj : j ≠ 0) : ((0 ≤ i ∧ 0 < j) ∨ (i ≤ 0 ∧ j < 0) → zv (FP.ddiv a b) = (rz i.natAbs j.natAbs : Int)) ∧ ((0 ≤ i ∧ j < 0) ∨ (i ≤ 0 ∧ 0 < j) → zv (FP.ddiv a b) = -(rz i.natAbs j.natAbs : Int)) := by
  have hz : zv b ≠ 0 := by rw [zv_int hb]; have := one_pos; intro h; rcases Int.mul_eq_zero.mp h with h | h <;> omega
  obtain ⟨s, A, B, hB, h1, h2, hs, h⟩ := val_ddiv (fin_int ha) (fin_int hb) hz
  rw [zv_int ha] at h1; rw [zv_int hb] at h2
  have eA : i.natAbs * one64 = A := by have := congrArg Int.natAbs h1; rw [natAbs_signed, Int.natAbs_mul, Int.natAbs_natCast] at this; exact this
  have eB : j.natAbs * one64 = B := by have := congrArg Int.natAbs h2; rw [natAbs_signed, Int.natAbs_mul, Int.natAbs_natCast] at this; exact this
  have hr : rz A B = rz i.natAbs j.natAbs := by subst eA eB; exact rz_congr hB (by omega) (by generalize one64 = o; ac_rfl)
  have hv : zv (FP.ddiv a b) = signed s (rz A B) := by rw [zv_def, h, zv_round]
  have sb := sgn_key h2 hj
  by_cases hi : i = 0
  · have : rz A B = 0 := by rw [hr, hi]; exact rz_zero _
    rw [hv, this, signed_zero]
    rw [this] at hr
    omega
  · have sa := sgn_key h1 hi
    rw [sa, sb] at hs
    rw [hv, hr, hs]
    constructor
    · rintro (⟨q1, q2⟩ | ⟨q1, q2⟩)
      · have : ¬ i < 0 := by omega
        have : ¬ j < 0 := by omega
        simp [*, signed]
      · have : i < 0 := by omega
        simp [*, signed]
    · rintro (⟨q1, q2⟩ | ⟨q1, q2⟩)
      · have : ¬ i < 0 := by omega
        simp [*, signed]
      · have : i < 0 := by omega
        have : ¬ j < 0 := by omega
        simp [*, signed]
end Jvm.OwnFl
namespace Jvm.OwnFl
open Jvm Jvm.FP Jvm.FP.Core Jvm.Free.Fl Op
theorem rep_900 : Rep (2 ^ 900 * one64) := by
  have := rep_le (n := 1) (k := 1974) (by decide) (by decide)
  rw [Nat.one_mul] at this
  rw [show (2 : Nat) ^ 900 * one64 = 2 ^ 1974 by unfold one64; rw [← Nat.pow_add]]
  exact this
theorem rz_fin {A B : Nat} (hB : 0 < B) (h : A ≤ 2 ^ 900 * B) : ∃ c q, roundRatio b64 false A B 0 = .fin false c q := by
  rcases roundRatio_cases b64 false A B 0 with h1 | h1
  · exact h1
  · exfalso
    have h2 : rz A B ≤ 2 ^ 900 * one64 := rz_le hB rep_900 (by
      have := Nat.mul_le_mul_right one64 h
      rw [show 2 ^ 900 * B * one64 = 2 ^ 900 * one64 * B from Nat.mul_right_comm _ _ _] at this
      exact this)
    unfold rz at h2
    rw [h1] at h2
    have h3 : (2 : Nat) ^ 1974 < b64.tails * 2 ^ (b64.exps - 2) := by decide +kernel
    have h4 : (2 : Nat) ^ 900 * one64 = 2 ^ 1974 := by unfold one64; rw [← Nat.pow_add]
    rw [h4] at h2
    exact absurd (Nat.lt_of_le_of_lt h2 h3) (Nat.lt_irrefl _)
theorem rz_near {A B v : Nat} (hB : 0 < B) (h : A ≤ 2 ^ 900 * B) (hv : Rep v) : (((A * one64 : Nat) : Int) - ((rz A B * B : Nat) : Int)).natAbs ≤ (((A * one64 : Nat) : Int) - ((v * B : Nat) : Int)).natAbs := by
  obtain ⟨c, q, h1⟩ := rz_fin hB h
  obtain ⟨c', q', hf, rfl⟩ := hv
  have h2 := roundRatio_nearest good_b64 hB h1 (c' := c') (q' := q') (e0 := b64.qmin) hf.1 hf.2.1 (Int.le_refl _) (by rw [qz]; decide)
  unfold distance at h2
  rw [inU] at h2
  have h3 : rz A B = inUnits c q b64.qmin := by unfold rz; rw [h1]; rfl
  rw [h3, Int.natCast_mul (inUnits c q b64.qmin), Int.natCast_mul (inUnits c' q' b64.qmin)]
  exact h2
theorem rz_rep {A B : Nat} (hB : 0 < B) (h : A ≤ 2 ^ 900 * B) : Rep (rz A B) := by
  obtain ⟨c, q, h1⟩ := rz_fin hB h
  refine ⟨c, q, ?_, ?_⟩
  · rw [← h1]; exact roundRatio_fits good_b64 _ _ hB _
  · unfold rz; rw [h1]; rfl
/-- rounding is monotone -/
theorem rz_mono {A B A' B' : Nat} (hB : 0 < B) (hB' : 0 < B') (hf : A ≤ 2 ^ 900 * B) (hf' : A' ≤ 2 ^ 900 * B') (h : A * B' ≤ A' * B) : rz A B ≤ rz A' B' := by
  refine Nat.le_of_not_lt fun hlt => ?_
  have n1 := rz_near hB hf (rz_rep hB' hf')
  have n2 := rz_near hB' hf' (rz_rep hB hf)
  generalize hu : rz A' B' = u at *
  generalize hv : rz A B = v at *
  have l1 : u * B < v * B := (Nat.mul_lt_mul_right hB).mpr hlt
  have l2 : u * B' < v * B' := (Nat.mul_lt_mul_right hB').mpr hlt
  have k1 : u * B + v * B ≤ 2 * (A * one64) := by omega
  have k2 : 2 * (A' * one64) ≤ u * B' + v * B' := by omega
  have m1 := Nat.mul_le_mul_right B' k1
  have m2 := Nat.mul_le_mul_right B k2
  have m3 := Nat.mul_le_mul_right (2 * one64) h
  have e1 : (u * B + v * B) * B' = (u * B' + v * B') * B := by grind
  have e2 : 2 * (A * one64) * B' = A * B' * (2 * one64) := by grind
  have e3 : 2 * (A' * one64) * B = A' * B * (2 * one64) := by grind
  have hEq : A * B' * (2 * one64) = A' * B * (2 * one64) := by omega
  have hEq2 : A * B' = A' * B := Nat.eq_of_mul_eq_mul_right (Nat.mul_pos (by decide) one64_pos) hEq
  have := rz_congr hB hB' hEq2
  omega
/-- the error, where A / B is at most 2 ^ (t - 1020): at most 2 ^ t least doubles -/
theorem rz_err {A B t : Nat} (hB : 0 < B) (ht : t ≤ 1900) (h : A * 2 ^ 1020 ≤ B * 2 ^ t) : (((A * one64 : Nat) : Int) - ((rz A B * B : Nat) : Int)).natAbs ≤ B * 2 ^ t := by
  have hf : A ≤ 2 ^ 900 * B := by
    have h1 : B * 2 ^ t ≤ B * 2 ^ 1900 := Nat.mul_le_mul_left _ (Nat.pow_le_pow_right (by decide) ht)
    have h2 : A * 2 ^ 1020 ≤ 2 ^ 900 * B * 2 ^ 1020 := by
      rw [show (2 : Nat) ^ 900 * B * 2 ^ 1020 = B * 2 ^ 1920 by rw [show (2 : Nat) ^ 1920 = 2 ^ 900 * 2 ^ 1020 by rw [← Nat.pow_add]]; generalize (2 : Nat) ^ 900 = u; generalize (2 : Nat) ^ 1020 = v; ac_rfl]
      exact Nat.le_trans h (Nat.le_trans h1 (Nat.mul_le_mul_left _ (Nat.pow_le_pow_right (by decide) (by decide))))
    exact Nat.le_of_mul_le_mul_right h2 (Nat.two_pow_pos _)
  have hD : 0 < B * 2 ^ (t + 1) := Nat.mul_pos hB (Nat.two_pow_pos _)
  have hN : nearest (A * one64) (B * 2 ^ (t + 1)) ≤ 2 ^ 53 := by
    refine nearest_le hD ?_
    have h3 := Nat.mul_le_mul_right (2 ^ 54) h
    rw [show one64 = 2 ^ 1020 * 2 ^ 54 by unfold one64; rw [← Nat.pow_add], ← Nat.mul_assoc]
    refine Nat.le_trans h3 (Nat.le_of_eq ?_)
    rw [show (2 : Nat) ^ 54 = 2 ^ 53 * 2 from rfl, show (2 : Nat) ^ (t + 1) = 2 ^ t * 2 from rfl]; generalize (2 : Nat) ^ t = z; generalize (2 : Nat) ^ 53 = y; ac_rfl
  have n1 := rz_near hB hf (rep_le hN (k := t + 1) (by omega))
  have n2 := nearest_spec (A * one64) (B * 2 ^ (t + 1)) hD
  obtain ⟨n3, n4, -⟩ := n2
  generalize nearest (A * one64) (B * 2 ^ (t + 1)) = c at *
  have e1 : c * 2 ^ (t + 1) * B = c * (B * 2 ^ (t + 1)) := by ac_rfl
  rw [e1] at n1
  have e2 : (2 * c + 1) * (B * 2 ^ (t + 1)) = 2 * (c * (B * 2 ^ (t + 1))) + B * 2 ^ (t + 1) := by grind
  have e3 : 2 * c * (B * 2 ^ (t + 1)) = 2 * (c * (B * 2 ^ (t + 1))) := by grind
  have e4 : B * 2 ^ (t + 1) = 2 * (B * 2 ^ t) := by rw [Nat.pow_succ]; ac_rfl
  rw [e2] at n3
  rw [e3] at n4
  rw [e4] at n1 n3 n4
  generalize c * (2 * (B * 2 ^ t)) = y at *
  generalize B * 2 ^ t = z at *
  omega
theorem lt900 {x k : Nat} (h : x ≤ 2 ^ k) (hk : k < 900) : x < 2 ^ 900 := Nat.lt_of_le_of_lt h (Nat.pow_lt_pow_right (by decide) hk)
/-- strictly, for numerators of up to 52 digits -/
theorem rz_strict {A A' B : Nat} (hB : 0 < B) (hBm : B < 2 ^ 900) (h : A < A') (hA : A' ≤ 2 ^ 52) : rz A B < rz A' B := by
  have j1 : 2 ^ B.log2 ≤ B := Nat.log2_self_le (by omega)
  have j2 : B < 2 ^ (B.log2 + 1) := Nat.lt_log2_self
  have j3 : B.log2 < 900 := (Nat.pow_lt_pow_iff_right (by decide : 1 < 2)).mp (Nat.lt_of_le_of_lt j1 hBm)
  generalize B.log2 = j at *
  have e0 : (2 : Nat) ^ 52 * 2 ^ 1020 = 2 ^ j * 2 ^ (1072 - j) := by rw [← Nat.pow_add, ← Nat.pow_add, show j + (1072 - j) = 52 + 1020 by omega]
  have c1 : A' * 2 ^ 1020 ≤ B * 2 ^ (1072 - j) := Nat.le_trans (Nat.mul_le_mul_right _ hA) (by rw [e0]; exact Nat.mul_le_mul_right _ j1)
  have c0 : A * 2 ^ 1020 ≤ B * 2 ^ (1072 - j) := Nat.le_trans (Nat.mul_le_mul_right _ (Nat.le_of_lt h)) c1
  have c2 : B * 2 ^ (1072 - j) * 2 < one64 := by
    have : B * 2 ^ (1072 - j) * 2 = B * 2 ^ (1073 - j) := by rw [Nat.mul_assoc, ← Nat.pow_succ, show (1072 - j).succ = 1073 - j by omega]
    rw [this]
    have := (Nat.mul_lt_mul_right (Nat.two_pow_pos (1073 - j))).mpr j2
    rw [← Nat.pow_add, show j + 1 + (1073 - j) = 1074 by omega] at this
    exact this
  have r1 := rz_err hB (by omega) c1
  have r0 := rz_err hB (by omega) c0
  refine Nat.lt_of_not_le fun hle => ?_
  have m1 := Nat.mul_le_mul_right B hle
  have m2 : A * one64 + one64 ≤ A' * one64 := by
    have := Nat.mul_le_mul_right one64 h
    rw [Nat.succ_mul] at this; exact this
  generalize rz A B * B = x at *
  generalize rz A' B * B = y at *
  generalize B * 2 ^ (1072 - j) = z at *
  generalize A * one64 = u at *
  generalize A' * one64 = v at *
  omega
/-- strictly, for fractions up to 1 whose denominator is below 2 ^ 53 -/
theorem rz_strict1 {A A' B : Nat} (hB : 0 < B) (hBm : B < 2 ^ 53) (h : A < A') (hA : A' ≤ B) : rz A B < rz A' B := by
  have c1 : A' * 2 ^ 1020 ≤ B * 2 ^ 1020 := Nat.mul_le_mul_right _ hA
  have c0 : A * 2 ^ 1020 ≤ B * 2 ^ 1020 := Nat.mul_le_mul_right _ (by omega)
  have c2 : B * 2 ^ 1020 * 2 < one64 := by
    have := (Nat.mul_lt_mul_right (Nat.two_pow_pos 1021)).mpr hBm
    rw [← Nat.pow_add] at this
    rw [Nat.mul_assoc, ← Nat.pow_succ]; exact this
  have r1 := rz_err hB (by decide) c1
  have r0 := rz_err hB (by decide) c0
  refine Nat.lt_of_not_le fun hle => ?_
  have m1 := Nat.mul_le_mul_right B hle
  have m2 : A * one64 + one64 ≤ A' * one64 := by
    have := Nat.mul_le_mul_right one64 h
    rw [Nat.succ_mul] at this; exact this
  generalize rz A B * B = x at *
  generalize rz A' B * B = y at *
  generalize B * 2 ^ 1020 = z at *
  generalize A * one64 = u at *
  generalize A' * one64 = v at *
  omega
end Jvm.OwnFl
namespace Jvm.OwnFl
open Jvm Jvm.FP Jvm.FP.Core Jvm.Free.Fl Op
/-! sums, differences, products: rounded between the doubles that bound them -/
theorem repz {v : Int} (h : Rep v.natAbs) : ∃ V, Core.fits b64 V ∧ V ≠ .nan ∧ zval b64 V = v := by
  obtain ⟨c, q, hf, hq⟩ := h
  refine ⟨.fin (decide (v < 0)) c q, hf, by simp, ?_⟩
  show signed (decide (v < 0)) (inUnits c q b64.qmin) = v
  rw [hq]; unfold signed
  by_cases h : v < 0 <;> simp [h] <;> omega
theorem q0 : ((2 ^ (b64.qmin - b64.qmin).toNat : Nat) : Int) = 1 := by rw [show (b64.qmin - b64.qmin).toNat = 0 by omega]; rfl
theorem zadd_le {a b : UInt64} {v : Int} (ha : DFin a) (hb : DFin b) (hv : Rep v.natAbs) (h : zv a + zv b ≤ v) : zv (FP.dadd a b) ≤ v := by
  obtain ⟨V, h1, h2, rfl⟩ := repz hv
  obtain ⟨s, c, q, e1⟩ := ha
  obtain ⟨t, d, r, e2⟩ := hb
  have f1 := val64_fits a
  have f2 := val64_fits b
  rw [zv_def, zv_def, e1, e2] at h
  rw [e1] at f1; rw [e2] at f2
  obtain ⟨sg, n, e, k1, k2, k3⟩ := sum_units f1 f2
  show zval b64 (val64 (Core.dadd a b)) ≤ _
  rw [val64_dadd, e1, e2, k1]
  exact zval_round_le good_b64 h1 h2 (Int.le_refl _) k2 (by rw [k3, q0, Int.mul_one]; exact h)
theorem zadd_ge {a b : UInt64} {v : Int} (ha : DFin a) (hb : DFin b) (hv : Rep v.natAbs) (h : v ≤ zv a + zv b) : v ≤ zv (FP.dadd a b) := by
  obtain ⟨V, h1, h2, rfl⟩ := repz hv
  obtain ⟨s, c, q, e1⟩ := ha
  obtain ⟨t, d, r, e2⟩ := hb
  have f1 := val64_fits a
  have f2 := val64_fits b
  rw [zv_def, zv_def, e1, e2] at h
  rw [e1] at f1; rw [e2] at f2
  obtain ⟨sg, n, e, k1, k2, k3⟩ := sum_units f1 f2
  show _ ≤ zval b64 (val64 (Core.dadd a b))
  rw [val64_dadd, e1, e2, k1]
  exact zval_round_ge good_b64 h1 h2 (Int.le_refl _) k2 (by rw [k3, q0, Int.mul_one]; exact h)
theorem zadd {a b : UInt64} (ha : DFin a) (hb : DFin b) (hv : Rep (zv a + zv b).natAbs) : zv (FP.dadd a b) = zv a + zv b :=
  Int.le_antisymm (zadd_le ha hb hv (Int.le_refl _)) (zadd_ge ha hb hv (Int.le_refl _))
theorem zneg (a : UInt64) : zv (Core.dneg a) = -zv a := by
  show zval b64 (val64 (Core.dneg a)) = _
  rw [Core.val64_dneg]; exact zval_negate _ _
theorem neg_fin {a : UInt64} (ha : DFin a) : DFin (Core.dneg a) := by
  obtain ⟨s, c, q, e1⟩ := ha
  exact ⟨!s, c, q, by rw [Core.val64_dneg, e1]; rfl⟩
theorem zsub_le {a b : UInt64} {v : Int} (ha : DFin a) (hb : DFin b) (hv : Rep v.natAbs) (h : zv a - zv b ≤ v) : zv (FP.dsub a b) ≤ v := by
  show zv (Core.dsub a b) ≤ v
  rw [Core.dsub_eq]
  exact zadd_le ha (neg_fin hb) hv (by rw [zneg]; omega)
theorem zsub_ge {a b : UInt64} {v : Int} (ha : DFin a) (hb : DFin b) (hv : Rep v.natAbs) (h : v ≤ zv a - zv b) : v ≤ zv (FP.dsub a b) := by
  show v ≤ zv (Core.dsub a b)
  rw [Core.dsub_eq]
  exact zadd_ge ha (neg_fin hb) hv (by rw [zneg]; omega)
theorem zsub {a b : UInt64} (ha : DFin a) (hb : DFin b) (hv : Rep (zv a - zv b).natAbs) : zv (FP.dsub a b) = zv a - zv b :=
  Int.le_antisymm (zsub_le ha hb hv (Int.le_refl _)) (zsub_ge ha hb hv (Int.le_refl _))
theorem q2 : ((2 ^ (b64.qmin - 2 * b64.qmin).toNat : Nat) : Int) = (one64 : Int) := by rw [← pow_qmin64, show (b64.qmin - 2 * b64.qmin) = -b64.qmin by omega]
theorem zmul_le {a b : UInt64} {v : Int} (ha : DFin a) (hb : DFin b) (hv : Rep v.natAbs) (h : zv a * zv b ≤ v * (one64 : Int)) : zv (FP.dmul a b) ≤ v := by
  obtain ⟨V, h1, h2, rfl⟩ := repz hv
  obtain ⟨s, c, q, e1⟩ := ha
  obtain ⟨t, d, r, e2⟩ := hb
  have f1 := val64_fits a
  have f2 := val64_fits b
  rw [zv_def, zv_def, e1, e2] at h
  rw [e1] at f1; rw [e2] at f2
  obtain ⟨k1, k2, k3⟩ := product_units f1 f2
  show zval b64 (val64 (Core.dmul a b)) ≤ _
  rw [val64_dmul, e1, e2, k1]
  exact zval_round_le good_b64 h1 h2 (e0 := 2 * b64.qmin) (by rw [qz]; decide) k2 (by rw [k3, q2, signed_xor]; exact h)
theorem zmul_ge {a b : UInt64} {v : Int} (ha : DFin a) (hb : DFin b) (hv : Rep v.natAbs) (h : v * (one64 : Int) ≤ zv a * zv b) : v ≤ zv (FP.dmul a b) := by
  obtain ⟨V, h1, h2, rfl⟩ := repz hv
  obtain ⟨s, c, q, e1⟩ := ha
  obtain ⟨t, d, r, e2⟩ := hb
  have f1 := val64_fits a
  have f2 := val64_fits b
  rw [zv_def, zv_def, e1, e2] at h
  rw [e1] at f1; rw [e2] at f2
  obtain ⟨k1, k2, k3⟩ := product_units f1 f2
  show _ ≤ zval b64 (val64 (Core.dmul a b))
  rw [val64_dmul, e1, e2, k1]
  exact zval_round_ge good_b64 h1 h2 (e0 := 2 * b64.qmin) (by rw [qz]; decide) k2 (by rw [k3, q2, signed_xor]; exact h)
theorem zmul {a b : UInt64} {v : Int} (ha : DFin a) (hb : DFin b) (hv : Rep v.natAbs) (h : zv a * zv b = v * (one64 : Int)) : zv (FP.dmul a b) = v :=
  Int.le_antisymm (zmul_le ha hb hv (Int.le_of_eq h)) (zmul_ge ha hb hv (Int.le_of_eq h.symm))
theorem fin_le {a : UInt64} (hn : NoNaN64 a) (h : (zv a).natAbs ≤ 2 ^ 1974) : DFin a := by
  cases hv : val64 a with
  | nan => exact absurd hv (val64_no.mp hn)
  | fin s c q => exact ⟨s, c, q, hv⟩
  | inf s =>
    exfalso
    rw [zv_def, hv] at h
    have h1 : (zval b64 (.inf s)).natAbs = b64.tails * 2 ^ (b64.exps - 2) := natAbs_signed _ _
    rw [h1] at h
    have h3 : (2 : Nat) ^ 1974 < b64.tails * 2 ^ (b64.exps - 2) := by decide +kernel
    exact absurd (Nat.lt_of_le_of_lt h h3) (Nat.lt_irrefl _)
theorem nn_add {a b : UInt64} (ha : DFin a) (hb : DFin b) : NoNaN64 (FP.dadd a b) := noNaN64_no.mpr (Core.dadd_out ha.notNaN hb)
theorem nn_sub {a b : UInt64} (ha : DFin a) (hb : DFin b) : NoNaN64 (FP.dsub a b) := noNaN64_no.mpr (Core.dsub_out ha.notNaN hb)
theorem nn_mul {a b : UInt64} (ha : DFin a) (hb : DFin b) : NoNaN64 (FP.dmul a b) := noNaN64_no.mpr (Core.dmul_out ha hb)
end Jvm.OwnFl
namespace Jvm.OwnFl
open Jvm Jvm.FP Jvm.FP.Core Jvm.Free.Fl Op
theorem one1 : DInt 1 (4607182418800017408 : UInt64) := dint_one
/-- the quotient of two longs, not negative, of up to 53 digits -/
theorem quo {a b : Int64} (hb : 1 ≤ b.toInt ∧ b.toInt ≤ 9007199254740992) (ha : 0 ≤ a.toInt ∧ a.toInt ≤ 9007199254740992) : NoNaN64 (FP.ddiv (FP.l2d a) (FP.l2d b)) ∧ zv (FP.ddiv (FP.l2d a) (FP.l2d b)) = (rz a.toInt.toNat b.toInt.toNat : Int) := by
  have d1 := l2dI (x := a) (by omega) (by omega)
  have d2 := l2dI (x := b) (by omega) (by omega)
  refine ⟨nn_divI d1 d2 (by omega), zv_divI (by rw [show ((a.toInt.toNat : Nat) : Int) = a.toInt by omega]; exact d1) (by rw [show ((b.toInt.toNat : Nat) : Int) = b.toInt by omega]; exact d2) (by omega)⟩
theorem nsub {x y : Int64} (h1 : 0 ≤ x.toInt) (h2 : 0 ≤ y.toInt) : (x - y).toInt = x.toInt - y.toInt := by
  have a1 := x.toInt_lt; have a2 := y.toInt_lt
  exact Jvm.Kit.i64_sub (by omega) (by omega)
theorem p1ne {x : Int64} (h1 : 0 ≤ x.toInt) (h2 : x.toInt ≤ 4611686018427387904) : x + 1 ≠ 0 := by
  intro h
  have h3 := congrArg Int64.toInt h
  rw [Jvm.Kit.i64_add (by rw [Int64.toInt_one]; omega) (by rw [Int64.toInt_one]; omega), Int64.toInt_one, Int64.toInt_zero] at h3
  omega
theorem mask1 {x m v : Int64} {k : Nat} (hk : k < 62) (hm : m.toBitVec.toNat = 2 ^ k - 1) (q : (x &&& m) + 1 = v) : 1 ≤ v.toInt ∧ v.toInt ≤ 2 ^ k := by
  have h1 := Jvm.Kit.i64_mask x m (by omega) hm
  have p2 : (0 : Int) < 2 ^ k := Int.pow_pos (by decide)
  have h2 := Int.emod_nonneg x.toInt (Int.ne_of_gt p2)
  have h3 := Int.emod_lt_of_pos x.toInt p2
  have h4 : (2 : Int) ^ k ≤ 2 ^ 61 := by exact_mod_cast Nat.pow_le_pow_right (by decide) (by omega : k ≤ 61)
  rw [← q, Jvm.Kit.i64_add (by rw [Int64.toInt_one]; omega) (by rw [Int64.toInt_one]; omega), Int64.toInt_one, h1]
  omega
theorem remP {x d v : Int64} (h1 : 0 ≤ d.toInt) (h2 : d.toInt ≤ 4611686018427387904) (q : (x &&& (9223372036854775807 : Int64)) - (x &&& (9223372036854775807 : Int64)) / (d + 1) * (d + 1) = v) : 0 ≤ v.toInt ∧ v.toInt ≤ d.toInt := by
  have m1 := Jvm.Kit.i64_mask x 9223372036854775807 (k := 63) (by decide) (by decide)
  have m2 : 0 ≤ (x &&& (9223372036854775807 : Int64)).toInt := by rw [m1]; omega
  have m3 := Jvm.Kit.i64_rem_nonneg (x := x &&& (9223372036854775807 : Int64)) (y := d + 1) m2
  have m4 : (d + 1).toInt = d.toInt + 1 := by rw [Jvm.Kit.i64_add (by rw [Int64.toInt_one]; omega) (by rw [Int64.toInt_one]; omega), Int64.toInt_one]
  rw [m4] at m3
  rw [← q, m3]
  have h3 := Int.emod_nonneg (x &&& (9223372036854775807 : Int64)).toInt (b := d.toInt + 1) (by omega)
  have h4 := Int.emod_lt_of_pos (x &&& (9223372036854775807 : Int64)).toInt (b := d.toInt + 1) (by omega)
  omega
end Jvm.OwnFl
namespace Jvm.Pilot.@@N@@
open Jvm Jvm.ClassFile Sem Op Lib Jvm.Free Jvm.Stand Jvm.LawKit Jvm.RoadKit Bundle Jvm.Pilot.@@N@@.Jvm.D
section Own
open Jvm.OwnFl Jvm.FP.Core Jvm.Free.Fl
theorem own_q {n d : Int64} (hd : 1 ≤ d.toInt ∧ d.toInt ≤ 2 ^ 52) (hn : 0 ≤ n.toInt ∧ n.toInt ≤ d.toInt) : NoNaN64 (FP.ddiv (FP.l2d (d - n)) (FP.l2d d)) ∧ zv (FP.ddiv (FP.l2d (d - n)) (FP.l2d d)) = (rz (d.toInt - n.toInt).toNat d.toInt.toNat : Int) := by
  have e := nsub (x := d) (y := n) (by omega) (by omega)
  have := quo (a := d - n) (b := d) (by omega) (by omega)
  rw [e] at this; exact this
theorem own_rel {n d : Int64} (hd : 1 ≤ d.toInt ∧ d.toInt ≤ 2 ^ 52) (hn : 0 ≤ n.toInt ∧ n.toInt ≤ d.toInt) : cmpValue (FP.dcmp (FP.ddiv (FP.l2d (d - n)) (FP.l2d d)) (FP.ddiv (FP.l2d (d - n)) (FP.l2d d))) .l = 0 := cv_eq (own_q hd hn).1 (own_q hd hn).1 rfl .l
theorem own_ge0 {n d : Int64} (hd : 1 ≤ d.toInt ∧ d.toInt ≤ 2 ^ 52) (hn : 0 ≤ n.toInt ∧ n.toInt ≤ d.toInt) : ¬ (0 < cmpValue (FP.dcmp (0 : UInt64) (FP.ddiv (FP.l2d (d - n)) (FP.l2d d))) .g) := by
  refine cv_le (nn_int zint) (own_q hd hn).1 ?_ .g
  rw [(own_q hd hn).2, zv_int zint]; omega
theorem own_le1 {n d : Int64} (hd : 1 ≤ d.toInt ∧ d.toInt ≤ 2 ^ 52) (hn : 0 ≤ n.toInt ∧ n.toInt ≤ d.toInt) : ¬ (0 < cmpValue (FP.dcmp (FP.ddiv (FP.l2d (d - n)) (FP.l2d d)) (4607182418800017408 : UInt64)) .g) := by
  refine cv_le (own_q hd hn).1 (nn_int one1) ?_ .g
  rw [(own_q hd hn).2, zv_int one1]
  have := rz_le (A := (d.toInt - n.toInt).toNat) (B := d.toInt.toNat) (v := 1 * one64) (by omega) (rep_int (by decide)) (by rw [Nat.one_mul, Nat.mul_comm]; exact Nat.mul_le_mul_left _ (by omega))
  omega
theorem own_z {n d : Int64} (hd : 1 ≤ d.toInt ∧ d.toInt ≤ 2 ^ 52) (hn : 0 ≤ n.toInt ∧ n.toInt ≤ d.toInt) : (n.toInt = d.toInt → cmpValue (FP.dcmp (FP.ddiv (FP.l2d (d - n)) (FP.l2d d)) (0 : UInt64)) .l = 0) ∧ (¬ n.toInt = d.toInt → ¬ cmpValue (FP.dcmp (FP.ddiv (FP.l2d (d - n)) (FP.l2d d)) (0 : UInt64)) .l = 0) := by
  constructor
  · intro h
    refine cv_eq (own_q hd hn).1 (nn_int zint) ?_ .l
    rw [(own_q hd hn).2, zv_int zint, h, Int.sub_self]
    show ((rz 0 _ : Nat) : Int) = _
    rw [rz_zero]; omega
  · intro h
    refine cv_ne (own_q hd hn).1 (nn_int zint) ?_ .l
    rw [(own_q hd hn).2, zv_int zint]
    have := rz_strict (A := 0) (A' := (d.toInt - n.toInt).toNat) (B := d.toInt.toNat) (by omega) (lt900 (k := 52) (by omega) (by decide)) (by omega) (by omega)
    omega
theorem own_u {n d : Int64} (hd : 1 ≤ d.toInt ∧ d.toInt ≤ 2 ^ 52) (hn : 0 ≤ n.toInt ∧ n.toInt ≤ d.toInt) : (n.toInt = 0 → cmpValue (FP.dcmp (FP.ddiv (FP.l2d (d - n)) (FP.l2d d)) (4607182418800017408 : UInt64)) .l = 0) ∧ (¬ n.toInt = 0 → ¬ cmpValue (FP.dcmp (FP.ddiv (FP.l2d (d - n)) (FP.l2d d)) (4607182418800017408 : UInt64)) .l = 0) := by
  have e1 : rz d.toInt.toNat d.toInt.toNat = 1 * one64 := rz_exact (by omega) (rep_int (by decide)) (by rw [Nat.one_mul, Nat.mul_comm])
  constructor
  · intro h
    refine cv_eq (own_q hd hn).1 (nn_int one1) ?_ .l
    rw [(own_q hd hn).2, zv_int one1, h, Int.sub_zero, e1]; omega
  · intro h
    refine cv_ne (own_q hd hn).1 (nn_int one1) ?_ .l
    rw [(own_q hd hn).2, zv_int one1]
    have := rz_strict (A := (d.toInt - n.toInt).toNat) (A' := d.toInt.toNat) (B := d.toInt.toNat) (by omega) (lt900 (k := 52) (by omega) (by decide)) (by omega) (by omega)
    omega
theorem own_m {n m d : Int64} (hd : 1 ≤ d.toInt ∧ d.toInt ≤ 2 ^ 52) (hn : 0 ≤ n.toInt ∧ n.toInt ≤ d.toInt) (hm : 0 ≤ m.toInt ∧ m.toInt ≤ d.toInt) : (n.toInt < m.toInt → 0 < cmpValue (FP.dcmp (FP.ddiv (FP.l2d (d - n)) (FP.l2d d)) (FP.ddiv (FP.l2d (d - m)) (FP.l2d d))) .l) ∧ (¬ n.toInt < m.toInt → ¬ 0 < cmpValue (FP.dcmp (FP.ddiv (FP.l2d (d - n)) (FP.l2d d)) (FP.ddiv (FP.l2d (d - m)) (FP.l2d d))) .l) := by
  constructor
  · intro h
    refine cv_gt' (own_q hd hn).1 (own_q hd hm).1 ?_ .l
    rw [(own_q hd hn).2, (own_q hd hm).2]
    have := rz_strict (A := (d.toInt - m.toInt).toNat) (A' := (d.toInt - n.toInt).toNat) (B := d.toInt.toNat) (by omega) (lt900 (k := 52) (by omega) (by decide)) (by omega) (by omega)
    omega
  · intro h
    refine cv_le (own_q hd hn).1 (own_q hd hm).1 ?_ .l
    rw [(own_q hd hn).2, (own_q hd hm).2]
    rcases Nat.lt_or_ge (d.toInt - n.toInt).toNat (d.toInt - m.toInt).toNat with h1 | h1
    · have := rz_strict (A := (d.toInt - n.toInt).toNat) (A' := (d.toInt - m.toInt).toNat) (B := d.toInt.toNat) (by omega) (lt900 (k := 52) (by omega) (by decide)) h1 (by omega)
      omega
    · rw [show (d.toInt - n.toInt).toNat = (d.toInt - m.toInt).toNat by omega]; exact Int.le_refl _
end Own
theorem d1_0 : decode jdk_30_method_1_code 0 = .ok (.aload_n 0, 1) := by decide +kernel
theorem d1_1 : decode jdk_30_method_1_code 1 = .ok (.invokespecial 1, 3) := by decide +kernel
theorem d1_4 : decode jdk_30_method_1_code 4 = .ok (.return_, 1) := by decide +kernel
theorem pn0 : plainName "java/lang/Record" = true := by first | (simp [plainName, overriddenIn]; done) | decide +kernel
def Q_rec (Z : State) (a : Addr) (h0 : Heap) (n0 : Nat) (v : Option Value) (h : Heap) (L : List Loc) : Prop := v = none ∧ Fr n0 L ∧ h = h0
theorem ef_rec (m : MethodId) (y0 : Addr) : entryFrame m #[(.ref y0)] 1 = mkF m 0 #[.val (.ref y0)] [] := by first | (simp [entryFrame, mkF, argsToLocals, Value.category, maxLocals]; done) | rfl
set_option maxRecDepth 65536 in
set_option maxHeartbeats 40000000 in
theorem rm_rec (l : Launch) (Z : State) (a0 : Array Value) (hw : ∀ d ∈ tables_1, d.before a0 Z = true) (ws : List Jvm.Cond) (a : Addr) (h0 : Heap) (n0 : Nat) (Z0 : n0 ≤ h0.size)  :
    MetFree l (⟨"java/lang/Record", "<init>", "()V"⟩ : MethodName) (head1 (Jvm.Cond.code (⟨"java/lang/Record", "<init>", "()V"⟩ : MethodName) jdk_30_method_1_code 1 none :: ws) ({ frames := 1, cells := 0, slots := 0, locals := 12 } : Room)) (fun aa_ U => aa_ = #[(.ref a)] ∧ Z.Warmed39 U.vm ∧ U.heap = h0) (fun _ _ _ _ _ => True) (fun _ U o U' => ∃ v L, o = .returned v ∧ Q_rec Z a h0 n0 v U'.heap L ∧ FrameEnd U o U' L (({ frames := 1, cells := 0, slots := 0, locals := 12 } : Room)).cells (({ frames := 1, cells := 0, slots := 0, locals := 12 } : Room)).slots) := by
  refine Go.met (plainFor_of_name pn0) ?_
  intro p e s m below meth c s₁ hx hby hml hown hnm hret hlk hZ e0 X0
  have N0 := Fr.nil n0
  refine Go.cast (ef_rec m a) ?_
  refine Go.st (U := (s₁.setTop (mkF m 1 #[.val (.ref a)] [(.ref a)]))) (fun t_ k_ => XS.aloadN X0.here hx rfl (hb hby d1_0) rfl rfl k_) ?_
  obtain ⟨Ti1, Xi1, ei1, sti1⟩ := initO X0 hx hZ hown (hw _ (List.mem_of_getElem? (i := 13) rfl)) (hw _ (List.mem_of_getElem? (i := 14) rfl)) (hw _ (List.mem_of_getElem? (i := 15) rfl)) e0 (g := (mkF m 1 #[.val (.ref a)] [(.ref a)])) rfl (by rw [hml]; rfl) rfl (hb hby d1_1) (by decide) (W := 0) (by show 2 * 0 + _ ≤ _; exact Nat.le_of_eq rfl) (by decide)
  refine Go.st (U := (Ti1.setTop (mkF m 4 #[.val (.ref a)] []))) sti1 ?_
  refine Go.retV (st := []) Xi1 hx hlk hret (hb hby d1_4) (by decide) (by decide) ?_
  show Q_rec Z a h0 n0 _ Ti1.heap _
  rw [ei1]
  exact ⟨rfl, N0, rfl⟩
theorem d0_0 : decode prog_30_method_1_code 0 = .ok (.aload_n 0, 1) := by decide +kernel
theorem d0_1 : decode prog_30_method_1_code 1 = .ok (.invokespecial 1, 3) := by decide +kernel
theorem d0_4 : decode prog_30_method_1_code 4 = .ok (.aload_n 0, 1) := by decide +kernel
theorem d0_5 : decode prog_30_method_1_code 5 = .ok (.lload_n 1, 1) := by decide +kernel
theorem d0_6 : decode prog_30_method_1_code 6 = .ok (.putfield 7, 3) := by decide +kernel
theorem d0_9 : decode prog_30_method_1_code 9 = .ok (.aload_n 0, 1) := by decide +kernel
theorem d0_10 : decode prog_30_method_1_code 10 = .ok (.lload_n 3, 1) := by decide +kernel
theorem d0_11 : decode prog_30_method_1_code 11 = .ok (.putfield 13, 3) := by decide +kernel
theorem d0_14 : decode prog_30_method_1_code 14 = .ok (.aload_n 0, 1) := by decide +kernel
theorem d0_15 : decode prog_30_method_1_code 15 = .ok (.lload 5, 2) := by decide +kernel
theorem d0_17 : decode prog_30_method_1_code 17 = .ok (.putfield 16, 3) := by decide +kernel
theorem d0_20 : decode prog_30_method_1_code 20 = .ok (.aload_n 0, 1) := by decide +kernel
theorem d0_21 : decode prog_30_method_1_code 21 = .ok (.lload 7, 2) := by decide +kernel
theorem d0_23 : decode prog_30_method_1_code 23 = .ok (.putfield 19, 3) := by decide +kernel
theorem d0_26 : decode prog_30_method_1_code 26 = .ok (.return_, 1) := by decide +kernel
theorem pn1 : plainName "com/example/sublattice/sublattice/service/Likeness" = true := by first | (simp [plainName, overriddenIn]; done) | decide +kernel
def Q_lik (Z : State) (a : Addr) (x0 : Int64) (x1 : Int64) (x2 : Int64) (x3 : Int64) (o0 : Value) (o1 : Value) (o2 : Value) (o3 : Value) (h0 : Heap) (n0 : Nat) (v : Option Value) (h : Heap) (L : List Loc) : Prop := v = none ∧ Fr n0 L ∧ Keep h0 h [a] ∧ Exa Z h a "com/example/sublattice/sublattice/service/Likeness" ∧ Fld Z h a "com/example/sublattice/sublattice/service/Likeness" "similarityNumerator" "J" (.long x0) ∧ Fld Z h a "com/example/sublattice/sublattice/service/Likeness" "similarityDenominator" "J" (.long x1) ∧ Fld Z h a "com/example/sublattice/sublattice/service/Likeness" "globalNumerator" "J" (.long x2) ∧ Fld Z h a "com/example/sublattice/sublattice/service/Likeness" "globalDenominator" "J" (.long x3)
theorem ef_lik (m : MethodId) (y0 : Addr) (y1 : Int64) (y2 : Int64) (y3 : Int64) (y4 : Int64) : entryFrame m #[(.ref y0), (.long y1), (.long y2), (.long y3), (.long y4)] 9 = mkF m 0 #[.val (.ref y0), .val (.long y1), .second, .val (.long y2), .second, .val (.long y3), .second, .val (.long y4), .second] [] := by first | (simp [entryFrame, mkF, argsToLocals, Value.category, maxLocals]; done) | rfl
theorem pd0 : parseMethodDescriptor "()V" = some ⟨[], none⟩ := by decide +kernel
set_option maxRecDepth 65536 in
set_option maxHeartbeats 40000000 in
theorem rm_lik (l : Launch) (Z : State) (a0 : Array Value) (hw : ∀ d ∈ tables_1, d.before a0 Z = true) (ws : List Jvm.Cond) (a : Addr) (x0 : Int64) (x1 : Int64) (x2 : Int64) (x3 : Int64) (o0 : Value) (o1 : Value) (o2 : Value) (o3 : Value) (h0 : Heap) (n0 : Nat) (Z0 : n0 ≤ h0.size) (E0_a : Exa Z h0 a "com/example/sublattice/sublattice/service/Likeness") (ge_a : n0 ≤ a) (F0_a_similarityNumerator : Fld Z h0 a "com/example/sublattice/sublattice/service/Likeness" "similarityNumerator" "J" o0) (F0_a_similarityDenominator : Fld Z h0 a "com/example/sublattice/sublattice/service/Likeness" "similarityDenominator" "J" o1) (F0_a_globalNumerator : Fld Z h0 a "com/example/sublattice/sublattice/service/Likeness" "globalNumerator" "J" o2) (F0_a_globalDenominator : Fld Z h0 a "com/example/sublattice/sublattice/service/Likeness" "globalDenominator" "J" o3) :
    MetFree l (⟨"com/example/sublattice/sublattice/service/Likeness", "<init>", "(JJJJ)V"⟩ : MethodName) (head1 (Jvm.Cond.code (⟨"com/example/sublattice/sublattice/service/Likeness", "<init>", "(JJJJ)V"⟩ : MethodName) prog_30_method_1_code 9 none :: ws) ({ frames := 2, cells := 0, slots := 0, locals := 24 } : Room)) (fun aa_ U => aa_ = #[(.ref a), (.long x0), (.long x1), (.long x2), (.long x3)] ∧ Z.Warmed39 U.vm ∧ U.heap = h0) (fun _ _ _ _ _ => True) (fun _ U o U' => ∃ v L, o = .returned v ∧ Q_lik Z a x0 x1 x2 x3 o0 o1 o2 o3 h0 n0 v U'.heap L ∧ FrameEnd U o U' L (({ frames := 2, cells := 0, slots := 0, locals := 24 } : Room)).cells (({ frames := 2, cells := 0, slots := 0, locals := 24 } : Room)).slots) := by
  refine Go.met (plainFor_of_name pn1) ?_
  intro p e s m below meth c s₁ hx hby hml hown hnm hret hlk hZ e0 X0
  have N0 := Fr.nil n0
  refine Go.cast (ef_lik m a x0 x1 x2 x3) ?_
  refine Go.st (U := (s₁.setTop (mkF m 1 #[.val (.ref a), .val (.long x0), .second, .val (.long x1), .second, .val (.long x2), .second, .val (.long x3), .second] [(.ref a)]))) (fun t_ k_ => XS.aloadN X0.here hx rfl (hb hby d0_0) rfl rfl k_) ?_
  refine Go.callI X0 hx hZ hown rfl (hw _ (List.mem_of_getElem? (i := 8) rfl)) (hw _ (List.mem_of_getElem? (i := 9) rfl)) (hw _ (List.mem_of_getElem? (i := 11) rfl)) (hw _ (List.mem_of_getElem? (i := 12) rfl)) (by decide) (rm_rec l Z a0 hw [] a h0 n0 Z0 ) e0 0 (by decide) (by decide) (g := (mkF m 1 #[.val (.ref a), .val (.long x0), .second, .val (.long x1), .second, .val (.long x2), .second, .val (.long x3), .second] [(.ref a)])) rfl (by rw [hml]; rfl) a [] [] rfl (lenOf pd0 rfl) rfl (by show 2 * 0 + _ ≤ _; exact Nat.le_of_eq rfl) (hb hby d0_1) (by decide) (by decide) ?_
  intro vi1 Ti1 Li1 hQi1 Xi1
  obtain ⟨rfl, Ni1, ei1⟩ := hQi1
  have Ni1 := Fr.app N0 Ni1
  show Go p e below s _ _ (Ti1.setTop (mkF m 4 #[.val (.ref a), .val (.long x0), .second, .val (.long x1), .second, .val (.long x2), .second, .val (.long x3), .second] []))
  refine Go.st (U := (Ti1.setTop (mkF m 5 #[.val (.ref a), .val (.long x0), .second, .val (.long x1), .second, .val (.long x2), .second, .val (.long x3), .second] [(.ref a)]))) (fun t_ k_ => XS.aloadN Xi1.here hx rfl (hb hby d0_4) rfl rfl k_) ?_
  refine Go.st (U := (Ti1.setTop (mkF m 6 #[.val (.ref a), .val (.long x0), .second, .val (.long x1), .second, .val (.long x2), .second, .val (.long x3), .second] [(.long x0), (.ref a)]))) (fun t_ k_ => XS.lloadN Xi1.here hx rfl (hb hby d0_5) rfl k_) ?_
  obtain ⟨Ti2, hi2, Xi2, ei2, Wi2, sti2⟩ := putF Xi1 hx hZ hown (host := "") (Or.inl (hw _ (List.mem_of_getElem? (i := 16) rfl))) Via.refl ei1 F0_a_similarityNumerator E0_a (Or.inr ⟨(hw _ (List.mem_of_getElem? (i := 17) rfl)), rfl, hnm⟩) (hw _ (List.mem_of_getElem? (i := 3) rfl)) (ty := .long) (by decide) rfl rfl (g := (mkF m 6 #[.val (.ref a), .val (.long x0), .second, .val (.long x1), .second, .val (.long x2), .second, .val (.long x3), .second] [(.long x0), (.ref a)])) rfl rfl (hb hby d0_6)
  have Ni2 := Fr.snoc Xi2 Ni1 ge_a
  have Zi2 : n0 ≤ hi2.size := by rw [Wi2.size]; exact Z0
  have Fi2_a_similarityNumerator := Fld.same Wi2 F0_a_similarityNumerator
  have Fi2_a_similarityDenominator := Fld.other Wi2 F0_a_similarityDenominator (Or.inr (slot_ne (Or.inr (hw _ (List.mem_of_getElem? (i := 19) rfl))) (Or.inr (hw _ (List.mem_of_getElem? (i := 17) rfl))) (by decide) (t := .long) (t' := .long) (by decide) (by decide)))
  have Fi2_a_globalNumerator := Fld.other Wi2 F0_a_globalNumerator (Or.inr (slot_ne (Or.inr (hw _ (List.mem_of_getElem? (i := 21) rfl))) (Or.inr (hw _ (List.mem_of_getElem? (i := 17) rfl))) (by decide) (t := .long) (t' := .long) (by decide) (by decide)))
  have Fi2_a_globalDenominator := Fld.other Wi2 F0_a_globalDenominator (Or.inr (slot_ne (Or.inr (hw _ (List.mem_of_getElem? (i := 23) rfl))) (Or.inr (hw _ (List.mem_of_getElem? (i := 17) rfl))) (by decide) (t := .long) (t' := .long) (by decide) (by decide)))
  have Ei2_a := Exa.wr Wi2 E0_a
  have Ki2 := Keep.wr (Keep.refl h0 [a]) Wi2 (Or.inl (List.mem_of_getElem? (i := 0) rfl))
  refine Go.st (U := (Ti2.setTop (mkF m 9 #[.val (.ref a), .val (.long x0), .second, .val (.long x1), .second, .val (.long x2), .second, .val (.long x3), .second] []))) sti2 ?_
  refine Go.st (U := (Ti2.setTop (mkF m 10 #[.val (.ref a), .val (.long x0), .second, .val (.long x1), .second, .val (.long x2), .second, .val (.long x3), .second] [(.ref a)]))) (fun t_ k_ => XS.aloadN Xi2.here hx rfl (hb hby d0_9) rfl rfl k_) ?_
  refine Go.st (U := (Ti2.setTop (mkF m 11 #[.val (.ref a), .val (.long x0), .second, .val (.long x1), .second, .val (.long x2), .second, .val (.long x3), .second] [(.long x1), (.ref a)]))) (fun t_ k_ => XS.lloadN Xi2.here hx rfl (hb hby d0_10) rfl k_) ?_
  obtain ⟨Ti3, hi3, Xi3, ei3, Wi3, sti3⟩ := putF Xi2 hx hZ hown (host := "") (Or.inl (hw _ (List.mem_of_getElem? (i := 18) rfl))) Via.refl ei2 Fi2_a_similarityDenominator Ei2_a (Or.inr ⟨(hw _ (List.mem_of_getElem? (i := 19) rfl)), rfl, hnm⟩) (hw _ (List.mem_of_getElem? (i := 3) rfl)) (ty := .long) (by decide) rfl rfl (g := (mkF m 11 #[.val (.ref a), .val (.long x0), .second, .val (.long x1), .second, .val (.long x2), .second, .val (.long x3), .second] [(.long x1), (.ref a)])) rfl rfl (hb hby d0_11)
  have Ni3 := Fr.snoc Xi3 Ni2 ge_a
  have Zi3 : n0 ≤ hi3.size := by rw [Wi3.size]; exact Zi2
  have Fi3_a_similarityNumerator := Fld.other Wi3 Fi2_a_similarityNumerator (Or.inr (slot_ne (Or.inr (hw _ (List.mem_of_getElem? (i := 17) rfl))) (Or.inr (hw _ (List.mem_of_getElem? (i := 19) rfl))) (by decide) (t := .long) (t' := .long) (by decide) (by decide)))
  have Fi3_a_similarityDenominator := Fld.same Wi3 Fi2_a_similarityDenominator
  have Fi3_a_globalNumerator := Fld.other Wi3 Fi2_a_globalNumerator (Or.inr (slot_ne (Or.inr (hw _ (List.mem_of_getElem? (i := 21) rfl))) (Or.inr (hw _ (List.mem_of_getElem? (i := 19) rfl))) (by decide) (t := .long) (t' := .long) (by decide) (by decide)))
  have Fi3_a_globalDenominator := Fld.other Wi3 Fi2_a_globalDenominator (Or.inr (slot_ne (Or.inr (hw _ (List.mem_of_getElem? (i := 23) rfl))) (Or.inr (hw _ (List.mem_of_getElem? (i := 19) rfl))) (by decide) (t := .long) (t' := .long) (by decide) (by decide)))
  have Ei3_a := Exa.wr Wi3 Ei2_a
  have Ki3 := Keep.wr Ki2 Wi3 (Or.inl (List.mem_of_getElem? (i := 0) rfl))
  refine Go.st (U := (Ti3.setTop (mkF m 14 #[.val (.ref a), .val (.long x0), .second, .val (.long x1), .second, .val (.long x2), .second, .val (.long x3), .second] []))) sti3 ?_
  refine Go.st (U := (Ti3.setTop (mkF m 15 #[.val (.ref a), .val (.long x0), .second, .val (.long x1), .second, .val (.long x2), .second, .val (.long x3), .second] [(.ref a)]))) (fun t_ k_ => XS.aloadN Xi3.here hx rfl (hb hby d0_14) rfl rfl k_) ?_
  refine Go.st (U := (Ti3.setTop (mkF m 17 #[.val (.ref a), .val (.long x0), .second, .val (.long x1), .second, .val (.long x2), .second, .val (.long x3), .second] [(.long x2), (.ref a)]))) (fun t_ k_ => XS.lload Xi3.here hx rfl (hb hby d0_15) rfl k_) ?_
  obtain ⟨Ti4, hi4, Xi4, ei4, Wi4, sti4⟩ := putF Xi3 hx hZ hown (host := "") (Or.inl (hw _ (List.mem_of_getElem? (i := 20) rfl))) Via.refl ei3 Fi3_a_globalNumerator Ei3_a (Or.inr ⟨(hw _ (List.mem_of_getElem? (i := 21) rfl)), rfl, hnm⟩) (hw _ (List.mem_of_getElem? (i := 3) rfl)) (ty := .long) (by decide) rfl rfl (g := (mkF m 17 #[.val (.ref a), .val (.long x0), .second, .val (.long x1), .second, .val (.long x2), .second, .val (.long x3), .second] [(.long x2), (.ref a)])) rfl rfl (hb hby d0_17)
  have Ni4 := Fr.snoc Xi4 Ni3 ge_a
  have Zi4 : n0 ≤ hi4.size := by rw [Wi4.size]; exact Zi3
  have Fi4_a_similarityNumerator := Fld.other Wi4 Fi3_a_similarityNumerator (Or.inr (slot_ne (Or.inr (hw _ (List.mem_of_getElem? (i := 17) rfl))) (Or.inr (hw _ (List.mem_of_getElem? (i := 21) rfl))) (by decide) (t := .long) (t' := .long) (by decide) (by decide)))
  have Fi4_a_similarityDenominator := Fld.other Wi4 Fi3_a_similarityDenominator (Or.inr (slot_ne (Or.inr (hw _ (List.mem_of_getElem? (i := 19) rfl))) (Or.inr (hw _ (List.mem_of_getElem? (i := 21) rfl))) (by decide) (t := .long) (t' := .long) (by decide) (by decide)))
  have Fi4_a_globalNumerator := Fld.same Wi4 Fi3_a_globalNumerator
  have Fi4_a_globalDenominator := Fld.other Wi4 Fi3_a_globalDenominator (Or.inr (slot_ne (Or.inr (hw _ (List.mem_of_getElem? (i := 23) rfl))) (Or.inr (hw _ (List.mem_of_getElem? (i := 21) rfl))) (by decide) (t := .long) (t' := .long) (by decide) (by decide)))
  have Ei4_a := Exa.wr Wi4 Ei3_a
  have Ki4 := Keep.wr Ki3 Wi4 (Or.inl (List.mem_of_getElem? (i := 0) rfl))
  refine Go.st (U := (Ti4.setTop (mkF m 20 #[.val (.ref a), .val (.long x0), .second, .val (.long x1), .second, .val (.long x2), .second, .val (.long x3), .second] []))) sti4 ?_
  refine Go.st (U := (Ti4.setTop (mkF m 21 #[.val (.ref a), .val (.long x0), .second, .val (.long x1), .second, .val (.long x2), .second, .val (.long x3), .second] [(.ref a)]))) (fun t_ k_ => XS.aloadN Xi4.here hx rfl (hb hby d0_20) rfl rfl k_) ?_
  refine Go.st (U := (Ti4.setTop (mkF m 23 #[.val (.ref a), .val (.long x0), .second, .val (.long x1), .second, .val (.long x2), .second, .val (.long x3), .second] [(.long x3), (.ref a)]))) (fun t_ k_ => XS.lload Xi4.here hx rfl (hb hby d0_21) rfl k_) ?_
  obtain ⟨Ti5, hi5, Xi5, ei5, Wi5, sti5⟩ := putF Xi4 hx hZ hown (host := "") (Or.inl (hw _ (List.mem_of_getElem? (i := 22) rfl))) Via.refl ei4 Fi4_a_globalDenominator Ei4_a (Or.inr ⟨(hw _ (List.mem_of_getElem? (i := 23) rfl)), rfl, hnm⟩) (hw _ (List.mem_of_getElem? (i := 3) rfl)) (ty := .long) (by decide) rfl rfl (g := (mkF m 23 #[.val (.ref a), .val (.long x0), .second, .val (.long x1), .second, .val (.long x2), .second, .val (.long x3), .second] [(.long x3), (.ref a)])) rfl rfl (hb hby d0_23)
  have Ni5 := Fr.snoc Xi5 Ni4 ge_a
  have Zi5 : n0 ≤ hi5.size := by rw [Wi5.size]; exact Zi4
  have Fi5_a_similarityNumerator := Fld.other Wi5 Fi4_a_similarityNumerator (Or.inr (slot_ne (Or.inr (hw _ (List.mem_of_getElem? (i := 17) rfl))) (Or.inr (hw _ (List.mem_of_getElem? (i := 23) rfl))) (by decide) (t := .long) (t' := .long) (by decide) (by decide)))
  have Fi5_a_similarityDenominator := Fld.other Wi5 Fi4_a_similarityDenominator (Or.inr (slot_ne (Or.inr (hw _ (List.mem_of_getElem? (i := 19) rfl))) (Or.inr (hw _ (List.mem_of_getElem? (i := 23) rfl))) (by decide) (t := .long) (t' := .long) (by decide) (by decide)))
  have Fi5_a_globalNumerator := Fld.other Wi5 Fi4_a_globalNumerator (Or.inr (slot_ne (Or.inr (hw _ (List.mem_of_getElem? (i := 21) rfl))) (Or.inr (hw _ (List.mem_of_getElem? (i := 23) rfl))) (by decide) (t := .long) (t' := .long) (by decide) (by decide)))
  have Fi5_a_globalDenominator := Fld.same Wi5 Fi4_a_globalDenominator
  have Ei5_a := Exa.wr Wi5 Ei4_a
  have Ki5 := Keep.wr Ki4 Wi5 (Or.inl (List.mem_of_getElem? (i := 0) rfl))
  refine Go.st (U := (Ti5.setTop (mkF m 26 #[.val (.ref a), .val (.long x0), .second, .val (.long x1), .second, .val (.long x2), .second, .val (.long x3), .second] []))) sti5 ?_
  refine Go.retV (st := []) Xi5 hx hlk hret (hb hby d0_26) (by decide) (by decide) ?_
  show Q_lik Z a x0 x1 x2 x3 o0 o1 o2 o3 h0 n0 _ Ti5.heap _
  rw [ei5]
  exact ⟨rfl, Ni5, Ki5, Ei5_a, Fi5_a_similarityNumerator, Fi5_a_similarityDenominator, Fi5_a_globalNumerator, Fi5_a_globalDenominator⟩
theorem d3_0 : decode prog_30_method_4_code 0 = .ok (.aload_n 0, 1) := by decide +kernel
theorem d3_1 : decode prog_30_method_4_code 1 = .ok (.getfield 13, 3) := by decide +kernel
theorem d3_4 : decode prog_30_method_4_code 4 = .ok (.aload_n 0, 1) := by decide +kernel
theorem d3_5 : decode prog_30_method_4_code 5 = .ok (.getfield 7, 3) := by decide +kernel
theorem d3_8 : decode prog_30_method_4_code 8 = .ok (.lsub, 1) := by decide +kernel
theorem d3_9 : decode prog_30_method_4_code 9 = .ok (.l2d, 1) := by decide +kernel
theorem d3_10 : decode prog_30_method_4_code 10 = .ok (.aload_n 0, 1) := by decide +kernel
theorem d3_11 : decode prog_30_method_4_code 11 = .ok (.getfield 13, 3) := by decide +kernel
theorem d3_14 : decode prog_30_method_4_code 14 = .ok (.l2d, 1) := by decide +kernel
theorem d3_15 : decode prog_30_method_4_code 15 = .ok (.ddiv, 1) := by decide +kernel
theorem d3_16 : decode prog_30_method_4_code 16 = .ok (.dreturn, 1) := by decide +kernel
def Q_ld (Z : State) (a : Addr) (n : Int64) (d : Int64) (h0 : Heap) (n0 : Nat) (v : Option Value) (h : Heap) (L : List Loc) : Prop := v = some (.double (FP.ddiv (FP.l2d (d - n)) (FP.l2d d))) ∧ Fr n0 L ∧ h = h0
theorem ef_ld (m : MethodId) (y0 : Addr) : entryFrame m #[(.ref y0)] 1 = mkF m 0 #[.val (.ref y0)] [] := by first | (simp [entryFrame, mkF, argsToLocals, Value.category, maxLocals]; done) | rfl
set_option maxRecDepth 65536 in
set_option maxHeartbeats 40000000 in
theorem rm_ld (l : Launch) (Z : State) (a0 : Array Value) (hw : ∀ d ∈ tables_1, d.before a0 Z = true) (ws : List Jvm.Cond) (a : Addr) (n : Int64) (d : Int64) (h0 : Heap) (n0 : Nat) (Z0 : n0 ≤ h0.size) (F0_a_similarityNumerator : Fld Z h0 a "com/example/sublattice/sublattice/service/Likeness" "similarityNumerator" "J" (.long n)) (F0_a_similarityDenominator : Fld Z h0 a "com/example/sublattice/sublattice/service/Likeness" "similarityDenominator" "J" (.long d)) (nn : Jvm.Free.Fl.NoNaN64 (FP.ddiv (FP.l2d (d - n)) (FP.l2d d))) :
    MetFree l (⟨"com/example/sublattice/sublattice/service/Likeness", "localDistance", "()D"⟩ : MethodName) (head1 (Jvm.Cond.code (⟨"com/example/sublattice/sublattice/service/Likeness", "localDistance", "()D"⟩ : MethodName) prog_30_method_4_code 1 (some .double) :: ws) ({ frames := 0, cells := 0, slots := 0, locals := 0 } : Room)) (fun aa_ U => aa_ = #[(.ref a)] ∧ Z.Warmed39 U.vm ∧ U.heap = h0) (fun _ _ _ _ _ => True) (fun _ U o U' => ∃ v L, o = .returned v ∧ Q_ld Z a n d h0 n0 v U'.heap L ∧ FrameEnd U o U' L (({ frames := 0, cells := 0, slots := 0, locals := 0 } : Room)).cells (({ frames := 0, cells := 0, slots := 0, locals := 0 } : Room)).slots) := by
  refine Go.met (plainFor_of_name pn1) ?_
  intro p e s m below meth c s₁ hx hby hml hown hnm hret hlk hZ e0 X0
  have N0 := Fr.nil n0
  refine Go.cast (ef_ld m a) ?_
  refine Go.st (U := (s₁.setTop (mkF m 1 #[.val (.ref a)] [(.ref a)]))) (fun t_ k_ => XS.aloadN X0.here hx rfl (hb hby d3_0) rfl rfl k_) ?_
  obtain ⟨Ti1, Xi1, ei1, sti1⟩ := getF X0 hx hZ hown (host := "") (Or.inl (hw _ (List.mem_of_getElem? (i := 18) rfl))) Via.refl e0 F0_a_similarityDenominator (g := (mkF m 1 #[.val (.ref a)] [(.ref a)])) rfl rfl (hb hby d3_1)
  refine Go.st (U := (Ti1.setTop (mkF m 4 #[.val (.ref a)] [(.long d)]))) sti1 ?_
  refine Go.st (U := (Ti1.setTop (mkF m 5 #[.val (.ref a)] [(.ref a), (.long d)]))) (fun t_ k_ => XS.aloadN Xi1.here hx rfl (hb hby d3_4) rfl rfl k_) ?_
  obtain ⟨Ti2, Xi2, ei2, sti2⟩ := getF Xi1 hx hZ hown (host := "") (Or.inl (hw _ (List.mem_of_getElem? (i := 16) rfl))) Via.refl ei1 F0_a_similarityNumerator (g := (mkF m 5 #[.val (.ref a)] [(.ref a), (.long d)])) rfl rfl (hb hby d3_5)
  refine Go.st (U := (Ti2.setTop (mkF m 8 #[.val (.ref a)] [(.long n), (.long d)]))) sti2 ?_
  refine Go.st (U := (Ti2.setTop (mkF m 9 #[.val (.ref a)] [(.long (d - n))]))) (fun t_ k_ => XS.lsub Xi2.here hx rfl (hb hby d3_8) rfl k_) ?_
  refine Go.st (U := (Ti2.setTop (mkF m 10 #[.val (.ref a)] [(.double (FP.l2d (d - n)))]))) (fun t_ k_ => XS.l2dS Xi2.here hx rfl (hb hby d3_9) rfl rfl k_) ?_
  refine Go.st (U := (Ti2.setTop (mkF m 11 #[.val (.ref a)] [(.ref a), (.double (FP.l2d (d - n)))]))) (fun t_ k_ => XS.aloadN Xi2.here hx rfl (hb hby d3_10) rfl rfl k_) ?_
  obtain ⟨Ti3, Xi3, ei3, sti3⟩ := getF Xi2 hx hZ hown (host := "") (Or.inl (hw _ (List.mem_of_getElem? (i := 18) rfl))) Via.refl ei2 F0_a_similarityDenominator (g := (mkF m 11 #[.val (.ref a)] [(.ref a), (.double (FP.l2d (d - n)))])) rfl rfl (hb hby d3_11)
  refine Go.st (U := (Ti3.setTop (mkF m 14 #[.val (.ref a)] [(.long d), (.double (FP.l2d (d - n)))]))) sti3 ?_
  refine Go.st (U := (Ti3.setTop (mkF m 15 #[.val (.ref a)] [(.double (FP.l2d d)), (.double (FP.l2d (d - n)))]))) (fun t_ k_ => XS.l2dS Xi3.here hx rfl (hb hby d3_14) rfl rfl k_) ?_
  refine Go.st (U := (Ti3.setTop (mkF m 16 #[.val (.ref a)] [(.double (FP.ddiv (FP.l2d (d - n)) (FP.l2d d)))]))) (fun t_ k_ => XS.ddivS Xi3.here hx rfl (hb hby d3_15) rfl nn rfl k_) ?_
  refine Go.retD Xi3 hx hlk hret (hb hby d3_16) (by decide) (by decide) ?_
  show Q_ld Z a n d h0 n0 _ Ti3.heap _
  rw [ei3]
  exact ⟨rfl, N0, rfl⟩
theorem d4_0 : decode prog_30_method_3_code 0 = .ok (.aload_n 0, 1) := by decide +kernel
theorem d4_1 : decode prog_30_method_3_code 1 = .ok (.getfield 7, 3) := by decide +kernel
theorem d4_4 : decode prog_30_method_3_code 4 = .ok (.l2d, 1) := by decide +kernel
theorem d4_5 : decode prog_30_method_3_code 5 = .ok (.aload_n 0, 1) := by decide +kernel
theorem d4_6 : decode prog_30_method_3_code 6 = .ok (.getfield 13, 3) := by decide +kernel
theorem d4_9 : decode prog_30_method_3_code 9 = .ok (.l2d, 1) := by decide +kernel
theorem d4_10 : decode prog_30_method_3_code 10 = .ok (.ddiv, 1) := by decide +kernel
theorem d4_11 : decode prog_30_method_3_code 11 = .ok (.dreturn, 1) := by decide +kernel
def Q_si (Z : State) (a : Addr) (n : Int64) (d : Int64) (h0 : Heap) (n0 : Nat) (v : Option Value) (h : Heap) (L : List Loc) : Prop := v = some (.double (FP.ddiv (FP.l2d n) (FP.l2d d))) ∧ Fr n0 L ∧ h = h0
theorem ef_si (m : MethodId) (y0 : Addr) : entryFrame m #[(.ref y0)] 1 = mkF m 0 #[.val (.ref y0)] [] := by first | (simp [entryFrame, mkF, argsToLocals, Value.category, maxLocals]; done) | rfl
set_option maxRecDepth 65536 in
set_option maxHeartbeats 40000000 in
theorem rm_si (l : Launch) (Z : State) (a0 : Array Value) (hw : ∀ d ∈ tables_1, d.before a0 Z = true) (ws : List Jvm.Cond) (a : Addr) (n : Int64) (d : Int64) (h0 : Heap) (n0 : Nat) (Z0 : n0 ≤ h0.size) (F0_a_similarityNumerator : Fld Z h0 a "com/example/sublattice/sublattice/service/Likeness" "similarityNumerator" "J" (.long n)) (F0_a_similarityDenominator : Fld Z h0 a "com/example/sublattice/sublattice/service/Likeness" "similarityDenominator" "J" (.long d)) (nn : Jvm.Free.Fl.NoNaN64 (FP.ddiv (FP.l2d n) (FP.l2d d))) :
    MetFree l (⟨"com/example/sublattice/sublattice/service/Likeness", "similarity", "()D"⟩ : MethodName) (head1 (Jvm.Cond.code (⟨"com/example/sublattice/sublattice/service/Likeness", "similarity", "()D"⟩ : MethodName) prog_30_method_3_code 1 (some .double) :: ws) ({ frames := 0, cells := 0, slots := 0, locals := 0 } : Room)) (fun aa_ U => aa_ = #[(.ref a)] ∧ Z.Warmed39 U.vm ∧ U.heap = h0) (fun _ _ _ _ _ => True) (fun _ U o U' => ∃ v L, o = .returned v ∧ Q_si Z a n d h0 n0 v U'.heap L ∧ FrameEnd U o U' L (({ frames := 0, cells := 0, slots := 0, locals := 0 } : Room)).cells (({ frames := 0, cells := 0, slots := 0, locals := 0 } : Room)).slots) := by
  refine Go.met (plainFor_of_name pn1) ?_
  intro p e s m below meth c s₁ hx hby hml hown hnm hret hlk hZ e0 X0
  have N0 := Fr.nil n0
  refine Go.cast (ef_si m a) ?_
  refine Go.st (U := (s₁.setTop (mkF m 1 #[.val (.ref a)] [(.ref a)]))) (fun t_ k_ => XS.aloadN X0.here hx rfl (hb hby d4_0) rfl rfl k_) ?_
  obtain ⟨Ti1, Xi1, ei1, sti1⟩ := getF X0 hx hZ hown (host := "") (Or.inl (hw _ (List.mem_of_getElem? (i := 16) rfl))) Via.refl e0 F0_a_similarityNumerator (g := (mkF m 1 #[.val (.ref a)] [(.ref a)])) rfl rfl (hb hby d4_1)
  refine Go.st (U := (Ti1.setTop (mkF m 4 #[.val (.ref a)] [(.long n)]))) sti1 ?_
  refine Go.st (U := (Ti1.setTop (mkF m 5 #[.val (.ref a)] [(.double (FP.l2d n))]))) (fun t_ k_ => XS.l2dS Xi1.here hx rfl (hb hby d4_4) rfl rfl k_) ?_
  refine Go.st (U := (Ti1.setTop (mkF m 6 #[.val (.ref a)] [(.ref a), (.double (FP.l2d n))]))) (fun t_ k_ => XS.aloadN Xi1.here hx rfl (hb hby d4_5) rfl rfl k_) ?_
  obtain ⟨Ti2, Xi2, ei2, sti2⟩ := getF Xi1 hx hZ hown (host := "") (Or.inl (hw _ (List.mem_of_getElem? (i := 18) rfl))) Via.refl ei1 F0_a_similarityDenominator (g := (mkF m 6 #[.val (.ref a)] [(.ref a), (.double (FP.l2d n))])) rfl rfl (hb hby d4_6)
  refine Go.st (U := (Ti2.setTop (mkF m 9 #[.val (.ref a)] [(.long d), (.double (FP.l2d n))]))) sti2 ?_
  refine Go.st (U := (Ti2.setTop (mkF m 10 #[.val (.ref a)] [(.double (FP.l2d d)), (.double (FP.l2d n))]))) (fun t_ k_ => XS.l2dS Xi2.here hx rfl (hb hby d4_9) rfl rfl k_) ?_
  refine Go.st (U := (Ti2.setTop (mkF m 11 #[.val (.ref a)] [(.double (FP.ddiv (FP.l2d n) (FP.l2d d)))]))) (fun t_ k_ => XS.ddivS Xi2.here hx rfl (hb hby d4_10) rfl nn rfl k_) ?_
  refine Go.retD Xi2 hx hlk hret (hb hby d4_11) (by decide) (by decide) ?_
  show Q_si Z a n d h0 n0 _ Ti2.heap _
  rw [ei2]
  exact ⟨rfl, N0, rfl⟩
theorem pn2 : plainName "com/example/sublattice/sublattice/service/LikenessLocalDistancePinLaw" = true := by first | (simp [plainName, overriddenIn]; done) | decide +kernel
def Q_law (Z : State) (p0 : Int64) (p1 : Int64) (p2 : Int64) (p3 : Int64) (p4 : Int64) (h0 : Heap) (n0 : Nat) (v : Option Value) (h : Heap) (L : List Loc) : Prop := v = some (.int 1) ∧ Fr n0 L
theorem ef_law (m : MethodId) (y0 : Int64) (y1 : Int64) (y2 : Int64) (y3 : Int64) (y4 : Int64) : entryFrame m #[(.long y0), (.long y1), (.long y2), (.long y3), (.long y4)] maxLocals = mkF m 0 #[.val (.long y0), .second, .val (.long y1), .second, .val (.long y2), .second, .val (.long y3), .second, .val (.long y4), .second, .unset, .unset, .unset, .unset, .unset, .unset, .unset, .unset, .unset, .unset, .unset, .unset, .unset, .unset, .unset, .unset, .unset, .unset, .unset, .unset] [] := by first | (simp [entryFrame, mkF, argsToLocals, Value.category, maxLocals]; done) | rfl
theorem pd1 : parseMethodDescriptor "(JJJJ)V" = some ⟨[.long, .long, .long, .long], none⟩ := by decide +kernel
theorem pd2 : parseMethodDescriptor "()D" = some ⟨[], some .double⟩ := by decide +kernel
set_option maxRecDepth 65536 in
set_option maxHeartbeats 40000000 in
theorem rm_law (l : Launch) (Z : State) (a0 : Array Value) (hw : ∀ d ∈ tables_1, d.before a0 Z = true) (ws : List Jvm.Cond) (p0 : Int64) (p1 : Int64) (p2 : Int64) (p3 : Int64) (p4 : Int64) (h0 : Heap) (n0 : Nat) (Z0 : n0 ≤ h0.size)  :
    MetFree l x (head1 (Jvm.Cond.code x code maxLocals ret :: ws) room_1) (fun aa_ U => aa_ = #[(.long p0), (.long p1), (.long p2), (.long p3), (.long p4)] ∧ Z.Warmed39 U.vm ∧ U.heap = h0) (fun _ _ _ _ _ => True) (fun _ U o U' => ∃ v L, o = .returned v ∧ Q_law Z p0 p1 p2 p3 p4 h0 n0 v U'.heap L ∧ FrameEnd U o U' L (room_1).cells (room_1).slots) := by
  refine Go.met (plainFor_of_name pn2) ?_
  intro p e s m below meth c s₁ hx hby hml hown hnm hret hlk hZ e0 X0
  have hml : c.maxLocals = 30 := hml
  have N0 := Fr.nil n0
  refine Go.cast (ef_law m p0 p1 p2 p3 p4) ?_
  refine Go.st (U := (s₁.setTop (mkF m 1 #[.val (.long p0), .second, .val (.long p1), .second, .val (.long p2), .second, .val (.long p3), .second, .val (.long p4), .second, .unset, .unset, .unset, .unset, .unset, .unset, .unset, .unset, .unset, .unset, .unset, .unset, .unset, .unset, .unset, .unset, .unset, .unset, .unset, .unset] [(.long p0)]))) (fun t_ k_ => XS.lloadN X0.here hx rfl (hb hby at_0) rfl k_) ?_
  refine Go.st (U := (s₁.setTop (mkF m 4 #[.val (.long p0), .second, .val (.long p1), .second, .val (.long p2), .second, .val (.long p3), .second, .val (.long p4), .second, .unset, .unset, .unset, .unset, .unset, .unset, .unset, .unset, .unset, .unset, .unset, .unset, .unset, .unset, .unset, .unset, .unset, .unset, .unset, .unset] [(.long (4503599627370495 : Int64)), (.long p0)]))) (X0.ldc2Long hx hown (mvT hZ (hw _ (List.mem_of_getElem? (i := 0) rfl))) (g := (mkF m 1 #[.val (.long p0), .second, .val (.long p1), .second, .val (.long p2), .second, .val (.long p3), .second, .val (.long p4), .second, .unset, .unset, .unset, .unset, .unset, .unset, .unset, .unset, .unset, .unset, .unset, .unset, .unset, .unset, .unset, .unset, .unset, .unset, .unset, .unset] [(.long p0)])) rfl (hb hby at_1)) ?_
  refine Go.st (U := (s₁.setTop (mkF m 5 #[.val (.long p0), .second, .val (.long p1), .second, .val (.long p2), .second, .val (.long p3), .second, .val (.long p4), .second, .unset, .unset, .unset, .unset, .unset, .unset, .unset, .unset, .unset, .unset, .unset, .unset, .unset, .unset, .unset, .unset, .unset, .unset, .unset, .unset] [(.long (p0 &&& (4503599627370495 : Int64)))]))) (fun t_ k_ => XS.land X0.here hx rfl (hb hby at_4) rfl k_) ?_
  refine Go.st (U := (s₁.setTop (mkF m 6 #[.val (.long p0), .second, .val (.long p1), .second, .val (.long p2), .second, .val (.long p3), .second, .val (.long p4), .second, .unset, .unset, .unset, .unset, .unset, .unset, .unset, .unset, .unset, .unset, .unset, .unset, .unset, .unset, .unset, .unset, .unset, .unset, .unset, .unset] [(.long (1 : Int64)), (.long (p0 &&& (4503599627370495 : Int64)))]))) (fun t_ k_ => XS.lconst X0.here hx rfl (hb hby at_5) k_) ?_
  refine Go.st (U := (s₁.setTop (mkF m 7 #[.val (.long p0), .second, .val (.long p1), .second, .val (.long p2), .second, .val (.long p3), .second, .val (.long p4), .second, .unset, .unset, .unset, .unset, .unset, .unset, .unset, .unset, .unset, .unset, .unset, .unset, .unset, .unset, .unset, .unset, .unset, .unset, .unset, .unset] [(.long ((p0 &&& (4503599627370495 : Int64)) + (1 : Int64)))]))) (fun t_ k_ => XS.ladd X0.here hx rfl (hb hby at_6) rfl k_) ?_
  generalize q_d : ((p0 &&& (4503599627370495 : Int64)) + (1 : Int64)) = d
  refine Go.st (U := (s₁.setTop (mkF m 9 #[.val (.long p0), .second, .val (.long p1), .second, .val (.long p2), .second, .val (.long p3), .second, .val (.long p4), .second, .val (.long d), .second, .unset, .unset, .unset, .unset, .unset, .unset, .unset, .unset, .unset, .unset, .unset, .unset, .unset, .unset, .unset, .unset, .unset, .unset] []))) (fun t_ k_ => XS.lstore X0.here hx rfl (hb hby at_7) rfl (l' := #[.val (.long p0), .second, .val (.long p1), .second, .val (.long p2), .second, .val (.long p3), .second, .val (.long p4), .second, .val (.long d), .second, .unset, .unset, .unset, .unset, .unset, .unset, .unset, .unset, .unset, .unset, .unset, .unset, .unset, .unset, .unset, .unset, .unset, .unset]) rfl k_) ?_
  have B_d := Jvm.OwnFl.mask1 (k := 52) (by decide) (by decide) q_d
  refine Go.st (U := (s₁.setTop (mkF m 10 #[.val (.long p0), .second, .val (.long p1), .second, .val (.long p2), .second, .val (.long p3), .second, .val (.long p4), .second, .val (.long d), .second, .unset, .unset, .unset, .unset, .unset, .unset, .unset, .unset, .unset, .unset, .unset, .unset, .unset, .unset, .unset, .unset, .unset, .unset] [(.long p1)]))) (fun t_ k_ => XS.lloadN X0.here hx rfl (hb hby at_9) rfl k_) ?_
  refine Go.st (U := (s₁.setTop (mkF m 13 #[.val (.long p0), .second, .val (.long p1), .second, .val (.long p2), .second, .val (.long p3), .second, .val (.long p4), .second, .val (.long d), .second, .unset, .unset, .unset, .unset, .unset, .unset, .unset, .unset, .unset, .unset, .unset, .unset, .unset, .unset, .unset, .unset, .unset, .unset] [(.long (9223372036854775807 : Int64)), (.long p1)]))) (X0.ldc2Long hx hown (mvT hZ (hw _ (List.mem_of_getElem? (i := 1) rfl))) (g := (mkF m 10 #[.val (.long p0), .second, .val (.long p1), .second, .val (.long p2), .second, .val (.long p3), .second, .val (.long p4), .second, .val (.long d), .second, .unset, .unset, .unset, .unset, .unset, .unset, .unset, .unset, .unset, .unset, .unset, .unset, .unset, .unset, .unset, .unset, .unset, .unset] [(.long p1)])) rfl (hb hby at_10)) ?_
  refine Go.st (U := (s₁.setTop (mkF m 14 #[.val (.long p0), .second, .val (.long p1), .second, .val (.long p2), .second, .val (.long p3), .second, .val (.long p4), .second, .val (.long d), .second, .unset, .unset, .unset, .unset, .unset, .unset, .unset, .unset, .unset, .unset, .unset, .unset, .unset, .unset, .unset, .unset, .unset, .unset] [(.long (p1 &&& (9223372036854775807 : Int64)))]))) (fun t_ k_ => XS.land X0.here hx rfl (hb hby at_13) rfl k_) ?_
  refine Go.st (U := (s₁.setTop (mkF m 16 #[.val (.long p0), .second, .val (.long p1), .second, .val (.long p2), .second, .val (.long p3), .second, .val (.long p4), .second, .val (.long d), .second, .unset, .unset, .unset, .unset, .unset, .unset, .unset, .unset, .unset, .unset, .unset, .unset, .unset, .unset, .unset, .unset, .unset, .unset] [(.long d), (.long (p1 &&& (9223372036854775807 : Int64)))]))) (fun t_ k_ => XS.lload X0.here hx rfl (hb hby at_14) rfl k_) ?_
  refine Go.st (U := (s₁.setTop (mkF m 17 #[.val (.long p0), .second, .val (.long p1), .second, .val (.long p2), .second, .val (.long p3), .second, .val (.long p4), .second, .val (.long d), .second, .unset, .unset, .unset, .unset, .unset, .unset, .unset, .unset, .unset, .unset, .unset, .unset, .unset, .unset, .unset, .unset, .unset, .unset] [(.long (1 : Int64)), (.long d), (.long (p1 &&& (9223372036854775807 : Int64)))]))) (fun t_ k_ => XS.lconst X0.here hx rfl (hb hby at_16) k_) ?_
  refine Go.st (U := (s₁.setTop (mkF m 18 #[.val (.long p0), .second, .val (.long p1), .second, .val (.long p2), .second, .val (.long p3), .second, .val (.long p4), .second, .val (.long d), .second, .unset, .unset, .unset, .unset, .unset, .unset, .unset, .unset, .unset, .unset, .unset, .unset, .unset, .unset, .unset, .unset, .unset, .unset] [(.long (d + (1 : Int64))), (.long (p1 &&& (9223372036854775807 : Int64)))]))) (fun t_ k_ => XS.ladd X0.here hx rfl (hb hby at_17) rfl k_) ?_
  refine Go.st (U := (s₁.setTop (mkF m 19 #[.val (.long p0), .second, .val (.long p1), .second, .val (.long p2), .second, .val (.long p3), .second, .val (.long p4), .second, .val (.long d), .second, .unset, .unset, .unset, .unset, .unset, .unset, .unset, .unset, .unset, .unset, .unset, .unset, .unset, .unset, .unset, .unset, .unset, .unset] [(.long ((p1 &&& (9223372036854775807 : Int64)) - (p1 &&& (9223372036854775807 : Int64)) / (d + (1 : Int64)) * (d + (1 : Int64))))]))) (fun t_ k_ => XS.lrem X0.here hx rfl (hb hby at_18) rfl (Jvm.OwnFl.p1ne (by omega) (by omega)) k_) ?_
  generalize q_n : ((p1 &&& (9223372036854775807 : Int64)) - (p1 &&& (9223372036854775807 : Int64)) / (d + (1 : Int64)) * (d + (1 : Int64))) = n
  refine Go.st (U := (s₁.setTop (mkF m 21 #[.val (.long p0), .second, .val (.long p1), .second, .val (.long p2), .second, .val (.long p3), .second, .val (.long p4), .second, .val (.long d), .second, .val (.long n), .second, .unset, .unset, .unset, .unset, .unset, .unset, .unset, .unset, .unset, .unset, .unset, .unset, .unset, .unset, .unset, .unset] []))) (fun t_ k_ => XS.lstore X0.here hx rfl (hb hby at_19) rfl (l' := #[.val (.long p0), .second, .val (.long p1), .second, .val (.long p2), .second, .val (.long p3), .second, .val (.long p4), .second, .val (.long d), .second, .val (.long n), .second, .unset, .unset, .unset, .unset, .unset, .unset, .unset, .unset, .unset, .unset, .unset, .unset, .unset, .unset, .unset, .unset]) rfl k_) ?_
  have B_n := Jvm.OwnFl.remP (by omega) (by omega) q_n
  refine Go.st (U := (s₁.setTop (mkF m 23 #[.val (.long p0), .second, .val (.long p1), .second, .val (.long p2), .second, .val (.long p3), .second, .val (.long p4), .second, .val (.long d), .second, .val (.long n), .second, .unset, .unset, .unset, .unset, .unset, .unset, .unset, .unset, .unset, .unset, .unset, .unset, .unset, .unset, .unset, .unset] [(.long p2)]))) (fun t_ k_ => XS.lload X0.here hx rfl (hb hby at_21) rfl k_) ?_
  refine Go.st (U := (s₁.setTop (mkF m 26 #[.val (.long p0), .second, .val (.long p1), .second, .val (.long p2), .second, .val (.long p3), .second, .val (.long p4), .second, .val (.long d), .second, .val (.long n), .second, .unset, .unset, .unset, .unset, .unset, .unset, .unset, .unset, .unset, .unset, .unset, .unset, .unset, .unset, .unset, .unset] [(.long (9223372036854775807 : Int64)), (.long p2)]))) (X0.ldc2Long hx hown (mvT hZ (hw _ (List.mem_of_getElem? (i := 1) rfl))) (g := (mkF m 23 #[.val (.long p0), .second, .val (.long p1), .second, .val (.long p2), .second, .val (.long p3), .second, .val (.long p4), .second, .val (.long d), .second, .val (.long n), .second, .unset, .unset, .unset, .unset, .unset, .unset, .unset, .unset, .unset, .unset, .unset, .unset, .unset, .unset, .unset, .unset] [(.long p2)])) rfl (hb hby at_23)) ?_
  refine Go.st (U := (s₁.setTop (mkF m 27 #[.val (.long p0), .second, .val (.long p1), .second, .val (.long p2), .second, .val (.long p3), .second, .val (.long p4), .second, .val (.long d), .second, .val (.long n), .second, .unset, .unset, .unset, .unset, .unset, .unset, .unset, .unset, .unset, .unset, .unset, .unset, .unset, .unset, .unset, .unset] [(.long (p2 &&& (9223372036854775807 : Int64)))]))) (fun t_ k_ => XS.land X0.here hx rfl (hb hby at_26) rfl k_) ?_
  refine Go.st (U := (s₁.setTop (mkF m 29 #[.val (.long p0), .second, .val (.long p1), .second, .val (.long p2), .second, .val (.long p3), .second, .val (.long p4), .second, .val (.long d), .second, .val (.long n), .second, .unset, .unset, .unset, .unset, .unset, .unset, .unset, .unset, .unset, .unset, .unset, .unset, .unset, .unset, .unset, .unset] [(.long d), (.long (p2 &&& (9223372036854775807 : Int64)))]))) (fun t_ k_ => XS.lload X0.here hx rfl (hb hby at_27) rfl k_) ?_
  refine Go.st (U := (s₁.setTop (mkF m 30 #[.val (.long p0), .second, .val (.long p1), .second, .val (.long p2), .second, .val (.long p3), .second, .val (.long p4), .second, .val (.long d), .second, .val (.long n), .second, .unset, .unset, .unset, .unset, .unset, .unset, .unset, .unset, .unset, .unset, .unset, .unset, .unset, .unset, .unset, .unset] [(.long (1 : Int64)), (.long d), (.long (p2 &&& (9223372036854775807 : Int64)))]))) (fun t_ k_ => XS.lconst X0.here hx rfl (hb hby at_29) k_) ?_
  refine Go.st (U := (s₁.setTop (mkF m 31 #[.val (.long p0), .second, .val (.long p1), .second, .val (.long p2), .second, .val (.long p3), .second, .val (.long p4), .second, .val (.long d), .second, .val (.long n), .second, .unset, .unset, .unset, .unset, .unset, .unset, .unset, .unset, .unset, .unset, .unset, .unset, .unset, .unset, .unset, .unset] [(.long (d + (1 : Int64))), (.long (p2 &&& (9223372036854775807 : Int64)))]))) (fun t_ k_ => XS.ladd X0.here hx rfl (hb hby at_30) rfl k_) ?_
  refine Go.st (U := (s₁.setTop (mkF m 32 #[.val (.long p0), .second, .val (.long p1), .second, .val (.long p2), .second, .val (.long p3), .second, .val (.long p4), .second, .val (.long d), .second, .val (.long n), .second, .unset, .unset, .unset, .unset, .unset, .unset, .unset, .unset, .unset, .unset, .unset, .unset, .unset, .unset, .unset, .unset] [(.long ((p2 &&& (9223372036854775807 : Int64)) - (p2 &&& (9223372036854775807 : Int64)) / (d + (1 : Int64)) * (d + (1 : Int64))))]))) (fun t_ k_ => XS.lrem X0.here hx rfl (hb hby at_31) rfl (Jvm.OwnFl.p1ne (by omega) (by omega)) k_) ?_
  generalize q_k : ((p2 &&& (9223372036854775807 : Int64)) - (p2 &&& (9223372036854775807 : Int64)) / (d + (1 : Int64)) * (d + (1 : Int64))) = k
  refine Go.st (U := (s₁.setTop (mkF m 34 #[.val (.long p0), .second, .val (.long p1), .second, .val (.long p2), .second, .val (.long p3), .second, .val (.long p4), .second, .val (.long d), .second, .val (.long n), .second, .val (.long k), .second, .unset, .unset, .unset, .unset, .unset, .unset, .unset, .unset, .unset, .unset, .unset, .unset, .unset, .unset] []))) (fun t_ k_ => XS.lstore X0.here hx rfl (hb hby at_32) rfl (l' := #[.val (.long p0), .second, .val (.long p1), .second, .val (.long p2), .second, .val (.long p3), .second, .val (.long p4), .second, .val (.long d), .second, .val (.long n), .second, .val (.long k), .second, .unset, .unset, .unset, .unset, .unset, .unset, .unset, .unset, .unset, .unset, .unset, .unset, .unset, .unset]) rfl k_) ?_
  have B_k := Jvm.OwnFl.remP (by omega) (by omega) q_k
  obtain ⟨Ti1, hi1, Xi1, ei1, Gi1, Ai1, Di1, -, sti1⟩ := newO X0 hx hZ hown (hw _ (List.mem_of_getElem? (i := 2) rfl)) (hw _ (List.mem_of_getElem? (i := 3) rfl)) (hw _ (List.mem_of_getElem? (i := 4) rfl)) e0 (g := (mkF m 34 #[.val (.long p0), .second, .val (.long p1), .second, .val (.long p2), .second, .val (.long p3), .second, .val (.long p4), .second, .val (.long d), .second, .val (.long n), .second, .val (.long k), .second, .unset, .unset, .unset, .unset, .unset, .unset, .unset, .unset, .unset, .unset, .unset, .unset, .unset, .unset] [])) rfl (hb hby at_34) (by decide) (by decide)
  obtain ⟨bi1, gi1⟩ : ∃ z, z = h0.size := ⟨_, rfl⟩
  rw [← gi1] at Ai1 Di1 sti1
  have ge_bi1 : n0 ≤ bi1 := Nat.le_trans Z0 (Nat.le_of_eq gi1.symm)
  have sz_bi1 : h0.size ≤ bi1 := Nat.le_of_eq gi1.symm
  have sz0_bi1 : h0.size ≤ bi1 := Nat.le_trans (Keep.size_le (Keep.refl h0 [])) sz_bi1
  have Fi1_bi1_similarityNumerator : Fld Z hi1 bi1 "com/example/sublattice/sublattice/service/Likeness" "similarityNumerator" "J" (.long 0) := Di1 (Or.inr (hw _ (List.mem_of_getElem? (i := 17) rfl))) (ty := .long) (by decide)
  have Fi1_bi1_similarityDenominator : Fld Z hi1 bi1 "com/example/sublattice/sublattice/service/Likeness" "similarityDenominator" "J" (.long 0) := Di1 (Or.inr (hw _ (List.mem_of_getElem? (i := 19) rfl))) (ty := .long) (by decide)
  have Fi1_bi1_globalNumerator : Fld Z hi1 bi1 "com/example/sublattice/sublattice/service/Likeness" "globalNumerator" "J" (.long 0) := Di1 (Or.inr (hw _ (List.mem_of_getElem? (i := 21) rfl))) (ty := .long) (by decide)
  have Fi1_bi1_globalDenominator : Fld Z hi1 bi1 "com/example/sublattice/sublattice/service/Likeness" "globalDenominator" "J" (.long 0) := Di1 (Or.inr (hw _ (List.mem_of_getElem? (i := 23) rfl))) (ty := .long) (by decide)
  have Zi1 : n0 ≤ hi1.size := Nat.le_trans Z0 Gi1.1
  have Ki1 := Keep.ext (Keep.refl h0 []) Gi1
  refine Go.st (U := (Ti1.setTop (mkF m 37 #[.val (.long p0), .second, .val (.long p1), .second, .val (.long p2), .second, .val (.long p3), .second, .val (.long p4), .second, .val (.long d), .second, .val (.long n), .second, .val (.long k), .second, .unset, .unset, .unset, .unset, .unset, .unset, .unset, .unset, .unset, .unset, .unset, .unset, .unset, .unset] [(.ref bi1)]))) sti1 ?_
  refine Go.st (U := (Ti1.setTop (mkF m 38 #[.val (.long p0), .second, .val (.long p1), .second, .val (.long p2), .second, .val (.long p3), .second, .val (.long p4), .second, .val (.long d), .second, .val (.long n), .second, .val (.long k), .second, .unset, .unset, .unset, .unset, .unset, .unset, .unset, .unset, .unset, .unset, .unset, .unset, .unset, .unset] [(.ref bi1), (.ref bi1)]))) (fun t_ k_ => XS.dup Xi1.here hx rfl (hb hby at_37) rfl rfl k_) ?_
  refine Go.st (U := (Ti1.setTop (mkF m 40 #[.val (.long p0), .second, .val (.long p1), .second, .val (.long p2), .second, .val (.long p3), .second, .val (.long p4), .second, .val (.long d), .second, .val (.long n), .second, .val (.long k), .second, .unset, .unset, .unset, .unset, .unset, .unset, .unset, .unset, .unset, .unset, .unset, .unset, .unset, .unset] [(.long n), (.ref bi1), (.ref bi1)]))) (fun t_ k_ => XS.lload Xi1.here hx rfl (hb hby at_38) rfl k_) ?_
  refine Go.st (U := (Ti1.setTop (mkF m 42 #[.val (.long p0), .second, .val (.long p1), .second, .val (.long p2), .second, .val (.long p3), .second, .val (.long p4), .second, .val (.long d), .second, .val (.long n), .second, .val (.long k), .second, .unset, .unset, .unset, .unset, .unset, .unset, .unset, .unset, .unset, .unset, .unset, .unset, .unset, .unset] [(.long d), (.long n), (.ref bi1), (.ref bi1)]))) (fun t_ k_ => XS.lload Xi1.here hx rfl (hb hby at_40) rfl k_) ?_
  refine Go.st (U := (Ti1.setTop (mkF m 44 #[.val (.long p0), .second, .val (.long p1), .second, .val (.long p2), .second, .val (.long p3), .second, .val (.long p4), .second, .val (.long d), .second, .val (.long n), .second, .val (.long k), .second, .unset, .unset, .unset, .unset, .unset, .unset, .unset, .unset, .unset, .unset, .unset, .unset, .unset, .unset] [(.long p3), (.long d), (.long n), (.ref bi1), (.ref bi1)]))) (fun t_ k_ => XS.lload Xi1.here hx rfl (hb hby at_42) rfl k_) ?_
  refine Go.st (U := (Ti1.setTop (mkF m 46 #[.val (.long p0), .second, .val (.long p1), .second, .val (.long p2), .second, .val (.long p3), .second, .val (.long p4), .second, .val (.long d), .second, .val (.long n), .second, .val (.long k), .second, .unset, .unset, .unset, .unset, .unset, .unset, .unset, .unset, .unset, .unset, .unset, .unset, .unset, .unset] [(.long p4), (.long p3), (.long d), (.long n), (.ref bi1), (.ref bi1)]))) (fun t_ k_ => XS.lload Xi1.here hx rfl (hb hby at_44) rfl k_) ?_
  refine Go.callI Xi1 hx hZ hown rfl (hw _ (List.mem_of_getElem? (i := 5) rfl)) (hw _ (List.mem_of_getElem? (i := 6) rfl)) (hw _ (List.mem_of_getElem? (i := 4) rfl)) (hw _ (List.mem_of_getElem? (i := 7) rfl)) (by decide) (rm_lik l Z a0 hw [] bi1 n d p3 p4 (.long 0) (.long 0) (.long 0) (.long 0) hi1 n0 Zi1 Ai1 ge_bi1 Fi1_bi1_similarityNumerator Fi1_bi1_similarityDenominator Fi1_bi1_globalNumerator Fi1_bi1_globalDenominator) ei1 1 (by decide) (by decide) (g := (mkF m 46 #[.val (.long p0), .second, .val (.long p1), .second, .val (.long p2), .second, .val (.long p3), .second, .val (.long p4), .second, .val (.long d), .second, .val (.long n), .second, .val (.long k), .second, .unset, .unset, .unset, .unset, .unset, .unset, .unset, .unset, .unset, .unset, .unset, .unset, .unset, .unset] [(.long p4), (.long p3), (.long d), (.long n), (.ref bi1), (.ref bi1)])) rfl (by rw [hml]; rfl) bi1 [(.long n), (.long d), (.long p3), (.long p4)] [(.ref bi1)] rfl (lenOf pd1 rfl) rfl (by show 2 * 0 + _ ≤ _; exact Nat.le_of_eq rfl) (hb hby at_46) (by decide) (by decide) ?_
  intro vi2 Ti2 Li2 hQi2 Xi2
  obtain ⟨rfl, Ni2, Ki2, Ei2_bi1, Fi2_bi1_similarityNumerator, Fi2_bi1_similarityDenominator, Fi2_bi1_globalNumerator, Fi2_bi1_globalDenominator⟩ := hQi2
  have Ni2 := Fr.app N0 Ni2
  have Zi2 : n0 ≤ Ti2.heap.size := Nat.le_trans Zi1 Ki2.1
  have Ki2 := Keep.trans Ki1 Ki2 (allS (Or.inr sz0_bi1) all0)
  show Go p e below s _ _ (Ti2.setTop (mkF m 49 #[.val (.long p0), .second, .val (.long p1), .second, .val (.long p2), .second, .val (.long p3), .second, .val (.long p4), .second, .val (.long d), .second, .val (.long n), .second, .val (.long k), .second, .unset, .unset, .unset, .unset, .unset, .unset, .unset, .unset, .unset, .unset, .unset, .unset, .unset, .unset] [(.ref bi1)]))
  refine Go.st (U := (Ti2.setTop (mkF m 51 #[.val (.long p0), .second, .val (.long p1), .second, .val (.long p2), .second, .val (.long p3), .second, .val (.long p4), .second, .val (.long d), .second, .val (.long n), .second, .val (.long k), .second, .val (.ref bi1), .unset, .unset, .unset, .unset, .unset, .unset, .unset, .unset, .unset, .unset, .unset, .unset, .unset] []))) (fun t_ k_ => XS.astore Xi2.here hx rfl (hb hby at_49) rfl rfl (l' := #[.val (.long p0), .second, .val (.long p1), .second, .val (.long p2), .second, .val (.long p3), .second, .val (.long p4), .second, .val (.long d), .second, .val (.long n), .second, .val (.long k), .second, .val (.ref bi1), .unset, .unset, .unset, .unset, .unset, .unset, .unset, .unset, .unset, .unset, .unset, .unset, .unset]) rfl k_) ?_
  obtain ⟨Ti3, hi3, Xi3, ei3, Gi3, Ai3, Di3, -, sti3⟩ := newO Xi2 hx hZ hown (hw _ (List.mem_of_getElem? (i := 2) rfl)) (hw _ (List.mem_of_getElem? (i := 3) rfl)) (hw _ (List.mem_of_getElem? (i := 4) rfl)) (rfl : Ti2.heap = Ti2.heap) (g := (mkF m 51 #[.val (.long p0), .second, .val (.long p1), .second, .val (.long p2), .second, .val (.long p3), .second, .val (.long p4), .second, .val (.long d), .second, .val (.long n), .second, .val (.long k), .second, .val (.ref bi1), .unset, .unset, .unset, .unset, .unset, .unset, .unset, .unset, .unset, .unset, .unset, .unset, .unset] [])) rfl (hb hby at_51) (by decide) (by decide)
  obtain ⟨bi3, gi3⟩ : ∃ z, z = Ti2.heap.size := ⟨_, rfl⟩
  rw [← gi3] at Ai3 Di3 sti3
  have ge_bi3 : n0 ≤ bi3 := Nat.le_trans Zi2 (Nat.le_of_eq gi3.symm)
  have sz_bi3 : Ti2.heap.size ≤ bi3 := Nat.le_of_eq gi3.symm
  have sz0_bi3 : h0.size ≤ bi3 := Nat.le_trans (Keep.size_le Ki2) sz_bi3
  have ne_bi1_bi3 : bi1 ≠ bi3 := Nat.ne_of_lt (Nat.lt_of_lt_of_le (Exa.lt Ei2_bi1) sz_bi3)
  have Fi3_bi1_similarityNumerator := Fld.ext Gi3 Fi2_bi1_similarityNumerator
  have Fi3_bi1_similarityDenominator := Fld.ext Gi3 Fi2_bi1_similarityDenominator
  have Ei3_bi1 := Exa.ext Gi3 Ei2_bi1
  have Fi3_bi3_similarityNumerator : Fld Z hi3 bi3 "com/example/sublattice/sublattice/service/Likeness" "similarityNumerator" "J" (.long 0) := Di3 (Or.inr (hw _ (List.mem_of_getElem? (i := 17) rfl))) (ty := .long) (by decide)
  have Fi3_bi3_similarityDenominator : Fld Z hi3 bi3 "com/example/sublattice/sublattice/service/Likeness" "similarityDenominator" "J" (.long 0) := Di3 (Or.inr (hw _ (List.mem_of_getElem? (i := 19) rfl))) (ty := .long) (by decide)
  have Fi3_bi3_globalNumerator : Fld Z hi3 bi3 "com/example/sublattice/sublattice/service/Likeness" "globalNumerator" "J" (.long 0) := Di3 (Or.inr (hw _ (List.mem_of_getElem? (i := 21) rfl))) (ty := .long) (by decide)
  have Fi3_bi3_globalDenominator : Fld Z hi3 bi3 "com/example/sublattice/sublattice/service/Likeness" "globalDenominator" "J" (.long 0) := Di3 (Or.inr (hw _ (List.mem_of_getElem? (i := 23) rfl))) (ty := .long) (by decide)
  have Zi3 : n0 ≤ hi3.size := Nat.le_trans Zi2 Gi3.1
  have Ki3 := Keep.ext Ki2 Gi3
  refine Go.st (U := (Ti3.setTop (mkF m 54 #[.val (.long p0), .second, .val (.long p1), .second, .val (.long p2), .second, .val (.long p3), .second, .val (.long p4), .second, .val (.long d), .second, .val (.long n), .second, .val (.long k), .second, .val (.ref bi1), .unset, .unset, .unset, .unset, .unset, .unset, .unset, .unset, .unset, .unset, .unset, .unset, .unset] [(.ref bi3)]))) sti3 ?_
  refine Go.st (U := (Ti3.setTop (mkF m 55 #[.val (.long p0), .second, .val (.long p1), .second, .val (.long p2), .second, .val (.long p3), .second, .val (.long p4), .second, .val (.long d), .second, .val (.long n), .second, .val (.long k), .second, .val (.ref bi1), .unset, .unset, .unset, .unset, .unset, .unset, .unset, .unset, .unset, .unset, .unset, .unset, .unset] [(.ref bi3), (.ref bi3)]))) (fun t_ k_ => XS.dup Xi3.here hx rfl (hb hby at_54) rfl rfl k_) ?_
  refine Go.st (U := (Ti3.setTop (mkF m 57 #[.val (.long p0), .second, .val (.long p1), .second, .val (.long p2), .second, .val (.long p3), .second, .val (.long p4), .second, .val (.long d), .second, .val (.long n), .second, .val (.long k), .second, .val (.ref bi1), .unset, .unset, .unset, .unset, .unset, .unset, .unset, .unset, .unset, .unset, .unset, .unset, .unset] [(.long d), (.ref bi3), (.ref bi3)]))) (fun t_ k_ => XS.lload Xi3.here hx rfl (hb hby at_55) rfl k_) ?_
  refine Go.st (U := (Ti3.setTop (mkF m 59 #[.val (.long p0), .second, .val (.long p1), .second, .val (.long p2), .second, .val (.long p3), .second, .val (.long p4), .second, .val (.long d), .second, .val (.long n), .second, .val (.long k), .second, .val (.ref bi1), .unset, .unset, .unset, .unset, .unset, .unset, .unset, .unset, .unset, .unset, .unset, .unset, .unset] [(.long n), (.long d), (.ref bi3), (.ref bi3)]))) (fun t_ k_ => XS.lload Xi3.here hx rfl (hb hby at_57) rfl k_) ?_
  refine Go.st (U := (Ti3.setTop (mkF m 60 #[.val (.long p0), .second, .val (.long p1), .second, .val (.long p2), .second, .val (.long p3), .second, .val (.long p4), .second, .val (.long d), .second, .val (.long n), .second, .val (.long k), .second, .val (.ref bi1), .unset, .unset, .unset, .unset, .unset, .unset, .unset, .unset, .unset, .unset, .unset, .unset, .unset] [(.long (d - n)), (.ref bi3), (.ref bi3)]))) (fun t_ k_ => XS.lsub Xi3.here hx rfl (hb hby at_59) rfl k_) ?_
  refine Go.st (U := (Ti3.setTop (mkF m 62 #[.val (.long p0), .second, .val (.long p1), .second, .val (.long p2), .second, .val (.long p3), .second, .val (.long p4), .second, .val (.long d), .second, .val (.long n), .second, .val (.long k), .second, .val (.ref bi1), .unset, .unset, .unset, .unset, .unset, .unset, .unset, .unset, .unset, .unset, .unset, .unset, .unset] [(.long d), (.long (d - n)), (.ref bi3), (.ref bi3)]))) (fun t_ k_ => XS.lload Xi3.here hx rfl (hb hby at_60) rfl k_) ?_
  refine Go.st (U := (Ti3.setTop (mkF m 64 #[.val (.long p0), .second, .val (.long p1), .second, .val (.long p2), .second, .val (.long p3), .second, .val (.long p4), .second, .val (.long d), .second, .val (.long n), .second, .val (.long k), .second, .val (.ref bi1), .unset, .unset, .unset, .unset, .unset, .unset, .unset, .unset, .unset, .unset, .unset, .unset, .unset] [(.long p4), (.long d), (.long (d - n)), (.ref bi3), (.ref bi3)]))) (fun t_ k_ => XS.lload Xi3.here hx rfl (hb hby at_62) rfl k_) ?_
  refine Go.st (U := (Ti3.setTop (mkF m 66 #[.val (.long p0), .second, .val (.long p1), .second, .val (.long p2), .second, .val (.long p3), .second, .val (.long p4), .second, .val (.long d), .second, .val (.long n), .second, .val (.long k), .second, .val (.ref bi1), .unset, .unset, .unset, .unset, .unset, .unset, .unset, .unset, .unset, .unset, .unset, .unset, .unset] [(.long p3), (.long p4), (.long d), (.long (d - n)), (.ref bi3), (.ref bi3)]))) (fun t_ k_ => XS.lload Xi3.here hx rfl (hb hby at_64) rfl k_) ?_
  refine Go.callI Xi3 hx hZ hown rfl (hw _ (List.mem_of_getElem? (i := 5) rfl)) (hw _ (List.mem_of_getElem? (i := 6) rfl)) (hw _ (List.mem_of_getElem? (i := 4) rfl)) (hw _ (List.mem_of_getElem? (i := 7) rfl)) (by decide) (rm_lik l Z a0 hw [] bi3 (d - n) d p4 p3 (.long 0) (.long 0) (.long 0) (.long 0) hi3 n0 Zi3 Ai3 ge_bi3 Fi3_bi3_similarityNumerator Fi3_bi3_similarityDenominator Fi3_bi3_globalNumerator Fi3_bi3_globalDenominator) ei3 1 (by decide) (by decide) (g := (mkF m 66 #[.val (.long p0), .second, .val (.long p1), .second, .val (.long p2), .second, .val (.long p3), .second, .val (.long p4), .second, .val (.long d), .second, .val (.long n), .second, .val (.long k), .second, .val (.ref bi1), .unset, .unset, .unset, .unset, .unset, .unset, .unset, .unset, .unset, .unset, .unset, .unset, .unset] [(.long p3), (.long p4), (.long d), (.long (d - n)), (.ref bi3), (.ref bi3)])) rfl (by rw [hml]; rfl) bi3 [(.long (d - n)), (.long d), (.long p4), (.long p3)] [(.ref bi3)] rfl (lenOf pd1 rfl) rfl (by show 2 * 0 + _ ≤ _; exact Nat.le_of_eq rfl) (hb hby at_66) (by decide) (by decide) ?_
  intro vi4 Ti4 Li4 hQi4 Xi4
  obtain ⟨rfl, Ni4, Ki4, Ei4_bi3, Fi4_bi3_similarityNumerator, Fi4_bi3_similarityDenominator, Fi4_bi3_globalNumerator, Fi4_bi3_globalDenominator⟩ := hQi4
  have Ni4 := Fr.app Ni2 Ni4
  have Zi4 : n0 ≤ Ti4.heap.size := Nat.le_trans Zi3 Ki4.1
  have Fi4_bi1_similarityNumerator := Fld.keep Fi3_bi1_similarityNumerator Ki4 (ninS ne_bi1_bi3 nin0)
  have Fi4_bi1_similarityDenominator := Fld.keep Fi3_bi1_similarityDenominator Ki4 (ninS ne_bi1_bi3 nin0)
  have Ei4_bi1 := Exa.keep Ei3_bi1 Ki4
  have Ki4 := Keep.trans Ki3 Ki4 (allS (Or.inr sz0_bi3) all0)
  show Go p e below s _ _ (Ti4.setTop (mkF m 69 #[.val (.long p0), .second, .val (.long p1), .second, .val (.long p2), .second, .val (.long p3), .second, .val (.long p4), .second, .val (.long d), .second, .val (.long n), .second, .val (.long k), .second, .val (.ref bi1), .unset, .unset, .unset, .unset, .unset, .unset, .unset, .unset, .unset, .unset, .unset, .unset, .unset] [(.ref bi3)]))
  refine Go.st (U := (Ti4.setTop (mkF m 71 #[.val (.long p0), .second, .val (.long p1), .second, .val (.long p2), .second, .val (.long p3), .second, .val (.long p4), .second, .val (.long d), .second, .val (.long n), .second, .val (.long k), .second, .val (.ref bi1), .val (.ref bi3), .unset, .unset, .unset, .unset, .unset, .unset, .unset, .unset, .unset, .unset, .unset, .unset] []))) (fun t_ k_ => XS.astore Xi4.here hx rfl (hb hby at_69) rfl rfl (l' := #[.val (.long p0), .second, .val (.long p1), .second, .val (.long p2), .second, .val (.long p3), .second, .val (.long p4), .second, .val (.long d), .second, .val (.long n), .second, .val (.long k), .second, .val (.ref bi1), .val (.ref bi3), .unset, .unset, .unset, .unset, .unset, .unset, .unset, .unset, .unset, .unset, .unset, .unset]) rfl k_) ?_
  obtain ⟨Ti5, hi5, Xi5, ei5, Gi5, Ai5, Di5, -, sti5⟩ := newO Xi4 hx hZ hown (hw _ (List.mem_of_getElem? (i := 2) rfl)) (hw _ (List.mem_of_getElem? (i := 3) rfl)) (hw _ (List.mem_of_getElem? (i := 4) rfl)) (rfl : Ti4.heap = Ti4.heap) (g := (mkF m 71 #[.val (.long p0), .second, .val (.long p1), .second, .val (.long p2), .second, .val (.long p3), .second, .val (.long p4), .second, .val (.long d), .second, .val (.long n), .second, .val (.long k), .second, .val (.ref bi1), .val (.ref bi3), .unset, .unset, .unset, .unset, .unset, .unset, .unset, .unset, .unset, .unset, .unset, .unset] [])) rfl (hb hby at_71) (by decide) (by decide)
  obtain ⟨bi5, gi5⟩ : ∃ z, z = Ti4.heap.size := ⟨_, rfl⟩
  rw [← gi5] at Ai5 Di5 sti5
  have ge_bi5 : n0 ≤ bi5 := Nat.le_trans Zi4 (Nat.le_of_eq gi5.symm)
  have sz_bi5 : Ti4.heap.size ≤ bi5 := Nat.le_of_eq gi5.symm
  have sz0_bi5 : h0.size ≤ bi5 := Nat.le_trans (Keep.size_le Ki4) sz_bi5
  have ne_bi1_bi5 : bi1 ≠ bi5 := Nat.ne_of_lt (Nat.lt_of_lt_of_le (Exa.lt Ei4_bi1) sz_bi5)
  have ne_bi3_bi5 : bi3 ≠ bi5 := Nat.ne_of_lt (Nat.lt_of_lt_of_le (Exa.lt Ei4_bi3) sz_bi5)
  have Fi5_bi1_similarityNumerator := Fld.ext Gi5 Fi4_bi1_similarityNumerator
  have Fi5_bi1_similarityDenominator := Fld.ext Gi5 Fi4_bi1_similarityDenominator
  have Fi5_bi3_similarityNumerator := Fld.ext Gi5 Fi4_bi3_similarityNumerator
  have Fi5_bi3_similarityDenominator := Fld.ext Gi5 Fi4_bi3_similarityDenominator
  have Ei5_bi1 := Exa.ext Gi5 Ei4_bi1
  have Ei5_bi3 := Exa.ext Gi5 Ei4_bi3
  have Fi5_bi5_similarityNumerator : Fld Z hi5 bi5 "com/example/sublattice/sublattice/service/Likeness" "similarityNumerator" "J" (.long 0) := Di5 (Or.inr (hw _ (List.mem_of_getElem? (i := 17) rfl))) (ty := .long) (by decide)
  have Fi5_bi5_similarityDenominator : Fld Z hi5 bi5 "com/example/sublattice/sublattice/service/Likeness" "similarityDenominator" "J" (.long 0) := Di5 (Or.inr (hw _ (List.mem_of_getElem? (i := 19) rfl))) (ty := .long) (by decide)
  have Fi5_bi5_globalNumerator : Fld Z hi5 bi5 "com/example/sublattice/sublattice/service/Likeness" "globalNumerator" "J" (.long 0) := Di5 (Or.inr (hw _ (List.mem_of_getElem? (i := 21) rfl))) (ty := .long) (by decide)
  have Fi5_bi5_globalDenominator : Fld Z hi5 bi5 "com/example/sublattice/sublattice/service/Likeness" "globalDenominator" "J" (.long 0) := Di5 (Or.inr (hw _ (List.mem_of_getElem? (i := 23) rfl))) (ty := .long) (by decide)
  have Zi5 : n0 ≤ hi5.size := Nat.le_trans Zi4 Gi5.1
  have Ki5 := Keep.ext Ki4 Gi5
  refine Go.st (U := (Ti5.setTop (mkF m 74 #[.val (.long p0), .second, .val (.long p1), .second, .val (.long p2), .second, .val (.long p3), .second, .val (.long p4), .second, .val (.long d), .second, .val (.long n), .second, .val (.long k), .second, .val (.ref bi1), .val (.ref bi3), .unset, .unset, .unset, .unset, .unset, .unset, .unset, .unset, .unset, .unset, .unset, .unset] [(.ref bi5)]))) sti5 ?_
  refine Go.st (U := (Ti5.setTop (mkF m 75 #[.val (.long p0), .second, .val (.long p1), .second, .val (.long p2), .second, .val (.long p3), .second, .val (.long p4), .second, .val (.long d), .second, .val (.long n), .second, .val (.long k), .second, .val (.ref bi1), .val (.ref bi3), .unset, .unset, .unset, .unset, .unset, .unset, .unset, .unset, .unset, .unset, .unset, .unset] [(.ref bi5), (.ref bi5)]))) (fun t_ k_ => XS.dup Xi5.here hx rfl (hb hby at_74) rfl rfl k_) ?_
  refine Go.st (U := (Ti5.setTop (mkF m 77 #[.val (.long p0), .second, .val (.long p1), .second, .val (.long p2), .second, .val (.long p3), .second, .val (.long p4), .second, .val (.long d), .second, .val (.long n), .second, .val (.long k), .second, .val (.ref bi1), .val (.ref bi3), .unset, .unset, .unset, .unset, .unset, .unset, .unset, .unset, .unset, .unset, .unset, .unset] [(.long k), (.ref bi5), (.ref bi5)]))) (fun t_ k_ => XS.lload Xi5.here hx rfl (hb hby at_75) rfl k_) ?_
  refine Go.st (U := (Ti5.setTop (mkF m 79 #[.val (.long p0), .second, .val (.long p1), .second, .val (.long p2), .second, .val (.long p3), .second, .val (.long p4), .second, .val (.long d), .second, .val (.long n), .second, .val (.long k), .second, .val (.ref bi1), .val (.ref bi3), .unset, .unset, .unset, .unset, .unset, .unset, .unset, .unset, .unset, .unset, .unset, .unset] [(.long d), (.long k), (.ref bi5), (.ref bi5)]))) (fun t_ k_ => XS.lload Xi5.here hx rfl (hb hby at_77) rfl k_) ?_
  refine Go.st (U := (Ti5.setTop (mkF m 81 #[.val (.long p0), .second, .val (.long p1), .second, .val (.long p2), .second, .val (.long p3), .second, .val (.long p4), .second, .val (.long d), .second, .val (.long n), .second, .val (.long k), .second, .val (.ref bi1), .val (.ref bi3), .unset, .unset, .unset, .unset, .unset, .unset, .unset, .unset, .unset, .unset, .unset, .unset] [(.long p4), (.long d), (.long k), (.ref bi5), (.ref bi5)]))) (fun t_ k_ => XS.lload Xi5.here hx rfl (hb hby at_79) rfl k_) ?_
  refine Go.st (U := (Ti5.setTop (mkF m 83 #[.val (.long p0), .second, .val (.long p1), .second, .val (.long p2), .second, .val (.long p3), .second, .val (.long p4), .second, .val (.long d), .second, .val (.long n), .second, .val (.long k), .second, .val (.ref bi1), .val (.ref bi3), .unset, .unset, .unset, .unset, .unset, .unset, .unset, .unset, .unset, .unset, .unset, .unset] [(.long p3), (.long p4), (.long d), (.long k), (.ref bi5), (.ref bi5)]))) (fun t_ k_ => XS.lload Xi5.here hx rfl (hb hby at_81) rfl k_) ?_
  refine Go.callI Xi5 hx hZ hown rfl (hw _ (List.mem_of_getElem? (i := 5) rfl)) (hw _ (List.mem_of_getElem? (i := 6) rfl)) (hw _ (List.mem_of_getElem? (i := 4) rfl)) (hw _ (List.mem_of_getElem? (i := 7) rfl)) (by decide) (rm_lik l Z a0 hw [] bi5 k d p4 p3 (.long 0) (.long 0) (.long 0) (.long 0) hi5 n0 Zi5 Ai5 ge_bi5 Fi5_bi5_similarityNumerator Fi5_bi5_similarityDenominator Fi5_bi5_globalNumerator Fi5_bi5_globalDenominator) ei5 1 (by decide) (by decide) (g := (mkF m 83 #[.val (.long p0), .second, .val (.long p1), .second, .val (.long p2), .second, .val (.long p3), .second, .val (.long p4), .second, .val (.long d), .second, .val (.long n), .second, .val (.long k), .second, .val (.ref bi1), .val (.ref bi3), .unset, .unset, .unset, .unset, .unset, .unset, .unset, .unset, .unset, .unset, .unset, .unset] [(.long p3), (.long p4), (.long d), (.long k), (.ref bi5), (.ref bi5)])) rfl (by rw [hml]; rfl) bi5 [(.long k), (.long d), (.long p4), (.long p3)] [(.ref bi5)] rfl (lenOf pd1 rfl) rfl (by show 2 * 0 + _ ≤ _; exact Nat.le_of_eq rfl) (hb hby at_83) (by decide) (by decide) ?_
  intro vi6 Ti6 Li6 hQi6 Xi6
  obtain ⟨rfl, Ni6, Ki6, Ei6_bi5, Fi6_bi5_similarityNumerator, Fi6_bi5_similarityDenominator, Fi6_bi5_globalNumerator, Fi6_bi5_globalDenominator⟩ := hQi6
  have Ni6 := Fr.app Ni4 Ni6
  have Zi6 : n0 ≤ Ti6.heap.size := Nat.le_trans Zi5 Ki6.1
  have Fi6_bi1_similarityNumerator := Fld.keep Fi5_bi1_similarityNumerator Ki6 (ninS ne_bi1_bi5 nin0)
  have Fi6_bi1_similarityDenominator := Fld.keep Fi5_bi1_similarityDenominator Ki6 (ninS ne_bi1_bi5 nin0)
  have Fi6_bi3_similarityNumerator := Fld.keep Fi5_bi3_similarityNumerator Ki6 (ninS ne_bi3_bi5 nin0)
  have Fi6_bi3_similarityDenominator := Fld.keep Fi5_bi3_similarityDenominator Ki6 (ninS ne_bi3_bi5 nin0)
  have Ei6_bi1 := Exa.keep Ei5_bi1 Ki6
  have Ei6_bi3 := Exa.keep Ei5_bi3 Ki6
  have Ki6 := Keep.trans Ki5 Ki6 (allS (Or.inr sz0_bi5) all0)
  show Go p e below s _ _ (Ti6.setTop (mkF m 86 #[.val (.long p0), .second, .val (.long p1), .second, .val (.long p2), .second, .val (.long p3), .second, .val (.long p4), .second, .val (.long d), .second, .val (.long n), .second, .val (.long k), .second, .val (.ref bi1), .val (.ref bi3), .unset, .unset, .unset, .unset, .unset, .unset, .unset, .unset, .unset, .unset, .unset, .unset] [(.ref bi5)]))
  refine Go.st (U := (Ti6.setTop (mkF m 88 #[.val (.long p0), .second, .val (.long p1), .second, .val (.long p2), .second, .val (.long p3), .second, .val (.long p4), .second, .val (.long d), .second, .val (.long n), .second, .val (.long k), .second, .val (.ref bi1), .val (.ref bi3), .val (.ref bi5), .unset, .unset, .unset, .unset, .unset, .unset, .unset, .unset, .unset, .unset, .unset] []))) (fun t_ k_ => XS.astore Xi6.here hx rfl (hb hby at_86) rfl rfl (l' := #[.val (.long p0), .second, .val (.long p1), .second, .val (.long p2), .second, .val (.long p3), .second, .val (.long p4), .second, .val (.long d), .second, .val (.long n), .second, .val (.long k), .second, .val (.ref bi1), .val (.ref bi3), .val (.ref bi5), .unset, .unset, .unset, .unset, .unset, .unset, .unset, .unset, .unset, .unset, .unset]) rfl k_) ?_
  refine Go.st (U := (Ti6.setTop (mkF m 90 #[.val (.long p0), .second, .val (.long p1), .second, .val (.long p2), .second, .val (.long p3), .second, .val (.long p4), .second, .val (.long d), .second, .val (.long n), .second, .val (.long k), .second, .val (.ref bi1), .val (.ref bi3), .val (.ref bi5), .unset, .unset, .unset, .unset, .unset, .unset, .unset, .unset, .unset, .unset, .unset] [(.ref bi1)]))) (fun t_ k_ => XS.aload Xi6.here hx rfl (hb hby at_88) rfl rfl k_) ?_
  refine Go.callV Xi6 hx hZ hown (hw _ (List.mem_of_getElem? (i := 24) rfl)) (hw _ (List.mem_of_getElem? (i := 25) rfl)) (hw _ (List.mem_of_getElem? (i := 27) rfl)) (hw _ (List.mem_of_getElem? (i := 26) rfl)) (hw _ (List.mem_of_getElem? (i := 4) rfl)) (hw _ (List.mem_of_getElem? (i := 28) rfl)) (by decide) (rm_ld l Z a0 hw [] bi1 n d Ti6.heap n0 Zi6 Fi6_bi1_similarityNumerator Fi6_bi1_similarityDenominator ((own_q B_d B_n).1)) (rfl : Ti6.heap = Ti6.heap) bi1 Ei6_bi1 0 (by decide) (by decide) (g := (mkF m 90 #[.val (.long p0), .second, .val (.long p1), .second, .val (.long p2), .second, .val (.long p3), .second, .val (.long p4), .second, .val (.long d), .second, .val (.long n), .second, .val (.long k), .second, .val (.ref bi1), .val (.ref bi3), .val (.ref bi5), .unset, .unset, .unset, .unset, .unset, .unset, .unset, .unset, .unset, .unset, .unset] [(.ref bi1)])) rfl (by rw [hml]; rfl) [] [] rfl (lenOf pd2 rfl) rfl (by show 2 * 0 + _ ≤ _; exact Nat.le_of_eq rfl) (hb hby at_90) (by decide) (by decide) ?_
  intro vi7 Ti7 Li7 hQi7 Xi7
  obtain ⟨rfl, Ni7, ei7⟩ := hQi7
  have Ni7 := Fr.app Ni6 Ni7
  show Go p e below s _ _ (Ti7.setTop (mkF m 93 #[.val (.long p0), .second, .val (.long p1), .second, .val (.long p2), .second, .val (.long p3), .second, .val (.long p4), .second, .val (.long d), .second, .val (.long n), .second, .val (.long k), .second, .val (.ref bi1), .val (.ref bi3), .val (.ref bi5), .unset, .unset, .unset, .unset, .unset, .unset, .unset, .unset, .unset, .unset, .unset] [(.double (FP.ddiv (FP.l2d (d - n)) (FP.l2d d)))]))
  refine Go.st (U := (Ti7.setTop (mkF m 95 #[.val (.long p0), .second, .val (.long p1), .second, .val (.long p2), .second, .val (.long p3), .second, .val (.long p4), .second, .val (.long d), .second, .val (.long n), .second, .val (.long k), .second, .val (.ref bi1), .val (.ref bi3), .val (.ref bi5), .val (.double (FP.ddiv (FP.l2d (d - n)) (FP.l2d d))), .second, .unset, .unset, .unset, .unset, .unset, .unset, .unset, .unset, .unset] []))) (fun t_ k_ => XS.dstore Xi7.here hx rfl (hb hby at_93) rfl (l' := #[.val (.long p0), .second, .val (.long p1), .second, .val (.long p2), .second, .val (.long p3), .second, .val (.long p4), .second, .val (.long d), .second, .val (.long n), .second, .val (.long k), .second, .val (.ref bi1), .val (.ref bi3), .val (.ref bi5), .val (.double (FP.ddiv (FP.l2d (d - n)) (FP.l2d d))), .second, .unset, .unset, .unset, .unset, .unset, .unset, .unset, .unset, .unset]) rfl k_) ?_
  refine Go.st (U := (Ti7.setTop (mkF m 97 #[.val (.long p0), .second, .val (.long p1), .second, .val (.long p2), .second, .val (.long p3), .second, .val (.long p4), .second, .val (.long d), .second, .val (.long n), .second, .val (.long k), .second, .val (.ref bi1), .val (.ref bi3), .val (.ref bi5), .val (.double (FP.ddiv (FP.l2d (d - n)) (FP.l2d d))), .second, .unset, .unset, .unset, .unset, .unset, .unset, .unset, .unset, .unset] [(.ref bi3)]))) (fun t_ k_ => XS.aload Xi7.here hx rfl (hb hby at_95) rfl rfl k_) ?_
  refine Go.callV Xi7 hx hZ hown (hw _ (List.mem_of_getElem? (i := 29) rfl)) (hw _ (List.mem_of_getElem? (i := 30) rfl)) (hw _ (List.mem_of_getElem? (i := 32) rfl)) (hw _ (List.mem_of_getElem? (i := 31) rfl)) (hw _ (List.mem_of_getElem? (i := 4) rfl)) (hw _ (List.mem_of_getElem? (i := 33) rfl)) (by decide) (rm_si l Z a0 hw [] bi3 (d - n) d Ti6.heap n0 Zi6 Fi6_bi3_similarityNumerator Fi6_bi3_similarityDenominator ((own_q B_d B_n).1)) ei7 bi3 Ei6_bi3 0 (by decide) (by decide) (g := (mkF m 97 #[.val (.long p0), .second, .val (.long p1), .second, .val (.long p2), .second, .val (.long p3), .second, .val (.long p4), .second, .val (.long d), .second, .val (.long n), .second, .val (.long k), .second, .val (.ref bi1), .val (.ref bi3), .val (.ref bi5), .val (.double (FP.ddiv (FP.l2d (d - n)) (FP.l2d d))), .second, .unset, .unset, .unset, .unset, .unset, .unset, .unset, .unset, .unset] [(.ref bi3)])) rfl (by rw [hml]; rfl) [] [] rfl (lenOf pd2 rfl) rfl (by show 2 * 0 + _ ≤ _; exact Nat.le_of_eq rfl) (hb hby at_97) (by decide) (by decide) ?_
  intro vi8 Ti8 Li8 hQi8 Xi8
  obtain ⟨rfl, Ni8, ei8⟩ := hQi8
  have Ni8 := Fr.app Ni7 Ni8
  show Go p e below s _ _ (Ti8.setTop (mkF m 100 #[.val (.long p0), .second, .val (.long p1), .second, .val (.long p2), .second, .val (.long p3), .second, .val (.long p4), .second, .val (.long d), .second, .val (.long n), .second, .val (.long k), .second, .val (.ref bi1), .val (.ref bi3), .val (.ref bi5), .val (.double (FP.ddiv (FP.l2d (d - n)) (FP.l2d d))), .second, .unset, .unset, .unset, .unset, .unset, .unset, .unset, .unset, .unset] [(.double (FP.ddiv (FP.l2d (d - n)) (FP.l2d d)))]))
  refine Go.st (U := (Ti8.setTop (mkF m 102 #[.val (.long p0), .second, .val (.long p1), .second, .val (.long p2), .second, .val (.long p3), .second, .val (.long p4), .second, .val (.long d), .second, .val (.long n), .second, .val (.long k), .second, .val (.ref bi1), .val (.ref bi3), .val (.ref bi5), .val (.double (FP.ddiv (FP.l2d (d - n)) (FP.l2d d))), .second, .val (.double (FP.ddiv (FP.l2d (d - n)) (FP.l2d d))), .second, .unset, .unset, .unset, .unset, .unset, .unset, .unset] []))) (fun t_ k_ => XS.dstore Xi8.here hx rfl (hb hby at_100) rfl (l' := #[.val (.long p0), .second, .val (.long p1), .second, .val (.long p2), .second, .val (.long p3), .second, .val (.long p4), .second, .val (.long d), .second, .val (.long n), .second, .val (.long k), .second, .val (.ref bi1), .val (.ref bi3), .val (.ref bi5), .val (.double (FP.ddiv (FP.l2d (d - n)) (FP.l2d d))), .second, .val (.double (FP.ddiv (FP.l2d (d - n)) (FP.l2d d))), .second, .unset, .unset, .unset, .unset, .unset, .unset, .unset]) rfl k_) ?_
  refine Go.st (U := (Ti8.setTop (mkF m 104 #[.val (.long p0), .second, .val (.long p1), .second, .val (.long p2), .second, .val (.long p3), .second, .val (.long p4), .second, .val (.long d), .second, .val (.long n), .second, .val (.long k), .second, .val (.ref bi1), .val (.ref bi3), .val (.ref bi5), .val (.double (FP.ddiv (FP.l2d (d - n)) (FP.l2d d))), .second, .val (.double (FP.ddiv (FP.l2d (d - n)) (FP.l2d d))), .second, .unset, .unset, .unset, .unset, .unset, .unset, .unset] [(.ref bi5)]))) (fun t_ k_ => XS.aload Xi8.here hx rfl (hb hby at_102) rfl rfl k_) ?_
  refine Go.callV Xi8 hx hZ hown (hw _ (List.mem_of_getElem? (i := 24) rfl)) (hw _ (List.mem_of_getElem? (i := 25) rfl)) (hw _ (List.mem_of_getElem? (i := 27) rfl)) (hw _ (List.mem_of_getElem? (i := 26) rfl)) (hw _ (List.mem_of_getElem? (i := 4) rfl)) (hw _ (List.mem_of_getElem? (i := 28) rfl)) (by decide) (rm_ld l Z a0 hw [] bi5 k d Ti6.heap n0 Zi6 Fi6_bi5_similarityNumerator Fi6_bi5_similarityDenominator ((own_q B_d B_k).1)) ei8 bi5 Ei6_bi5 0 (by decide) (by decide) (g := (mkF m 104 #[.val (.long p0), .second, .val (.long p1), .second, .val (.long p2), .second, .val (.long p3), .second, .val (.long p4), .second, .val (.long d), .second, .val (.long n), .second, .val (.long k), .second, .val (.ref bi1), .val (.ref bi3), .val (.ref bi5), .val (.double (FP.ddiv (FP.l2d (d - n)) (FP.l2d d))), .second, .val (.double (FP.ddiv (FP.l2d (d - n)) (FP.l2d d))), .second, .unset, .unset, .unset, .unset, .unset, .unset, .unset] [(.ref bi5)])) rfl (by rw [hml]; rfl) [] [] rfl (lenOf pd2 rfl) rfl (by show 2 * 0 + _ ≤ _; exact Nat.le_of_eq rfl) (hb hby at_104) (by decide) (by decide) ?_
  intro vi9 Ti9 Li9 hQi9 Xi9
  obtain ⟨rfl, Ni9, ei9⟩ := hQi9
  have Ni9 := Fr.app Ni8 Ni9
  show Go p e below s _ _ (Ti9.setTop (mkF m 107 #[.val (.long p0), .second, .val (.long p1), .second, .val (.long p2), .second, .val (.long p3), .second, .val (.long p4), .second, .val (.long d), .second, .val (.long n), .second, .val (.long k), .second, .val (.ref bi1), .val (.ref bi3), .val (.ref bi5), .val (.double (FP.ddiv (FP.l2d (d - n)) (FP.l2d d))), .second, .val (.double (FP.ddiv (FP.l2d (d - n)) (FP.l2d d))), .second, .unset, .unset, .unset, .unset, .unset, .unset, .unset] [(.double (FP.ddiv (FP.l2d (d - k)) (FP.l2d d)))]))
  refine Go.st (U := (Ti9.setTop (mkF m 109 #[.val (.long p0), .second, .val (.long p1), .second, .val (.long p2), .second, .val (.long p3), .second, .val (.long p4), .second, .val (.long d), .second, .val (.long n), .second, .val (.long k), .second, .val (.ref bi1), .val (.ref bi3), .val (.ref bi5), .val (.double (FP.ddiv (FP.l2d (d - n)) (FP.l2d d))), .second, .val (.double (FP.ddiv (FP.l2d (d - n)) (FP.l2d d))), .second, .val (.double (FP.ddiv (FP.l2d (d - k)) (FP.l2d d))), .second, .unset, .unset, .unset, .unset, .unset] []))) (fun t_ k_ => XS.dstore Xi9.here hx rfl (hb hby at_107) rfl (l' := #[.val (.long p0), .second, .val (.long p1), .second, .val (.long p2), .second, .val (.long p3), .second, .val (.long p4), .second, .val (.long d), .second, .val (.long n), .second, .val (.long k), .second, .val (.ref bi1), .val (.ref bi3), .val (.ref bi5), .val (.double (FP.ddiv (FP.l2d (d - n)) (FP.l2d d))), .second, .val (.double (FP.ddiv (FP.l2d (d - n)) (FP.l2d d))), .second, .val (.double (FP.ddiv (FP.l2d (d - k)) (FP.l2d d))), .second, .unset, .unset, .unset, .unset, .unset]) rfl k_) ?_
  refine Go.st (U := (Ti9.setTop (mkF m 111 #[.val (.long p0), .second, .val (.long p1), .second, .val (.long p2), .second, .val (.long p3), .second, .val (.long p4), .second, .val (.long d), .second, .val (.long n), .second, .val (.long k), .second, .val (.ref bi1), .val (.ref bi3), .val (.ref bi5), .val (.double (FP.ddiv (FP.l2d (d - n)) (FP.l2d d))), .second, .val (.double (FP.ddiv (FP.l2d (d - n)) (FP.l2d d))), .second, .val (.double (FP.ddiv (FP.l2d (d - k)) (FP.l2d d))), .second, .unset, .unset, .unset, .unset, .unset] [(.double (FP.ddiv (FP.l2d (d - n)) (FP.l2d d)))]))) (fun t_ k_ => XS.dload Xi9.here hx rfl (hb hby at_109) rfl k_) ?_
  refine Go.st (U := (Ti9.setTop (mkF m 113 #[.val (.long p0), .second, .val (.long p1), .second, .val (.long p2), .second, .val (.long p3), .second, .val (.long p4), .second, .val (.long d), .second, .val (.long n), .second, .val (.long k), .second, .val (.ref bi1), .val (.ref bi3), .val (.ref bi5), .val (.double (FP.ddiv (FP.l2d (d - n)) (FP.l2d d))), .second, .val (.double (FP.ddiv (FP.l2d (d - n)) (FP.l2d d))), .second, .val (.double (FP.ddiv (FP.l2d (d - k)) (FP.l2d d))), .second, .unset, .unset, .unset, .unset, .unset] [(.double (FP.ddiv (FP.l2d (d - n)) (FP.l2d d))), (.double (FP.ddiv (FP.l2d (d - n)) (FP.l2d d)))]))) (fun t_ k_ => XS.dload Xi9.here hx rfl (hb hby at_111) rfl k_) ?_
  refine Go.st (U := (Ti9.setTop (mkF m 114 #[.val (.long p0), .second, .val (.long p1), .second, .val (.long p2), .second, .val (.long p3), .second, .val (.long p4), .second, .val (.long d), .second, .val (.long n), .second, .val (.long k), .second, .val (.ref bi1), .val (.ref bi3), .val (.ref bi5), .val (.double (FP.ddiv (FP.l2d (d - n)) (FP.l2d d))), .second, .val (.double (FP.ddiv (FP.l2d (d - n)) (FP.l2d d))), .second, .val (.double (FP.ddiv (FP.l2d (d - k)) (FP.l2d d))), .second, .unset, .unset, .unset, .unset, .unset] [(.int (cmpValue (FP.dcmp (FP.ddiv (FP.l2d (d - n)) (FP.l2d d)) (FP.ddiv (FP.l2d (d - n)) (FP.l2d d))) .l))]))) (fun t_ k_ => XS.dcmpS Xi9.here hx rfl (hb hby at_113) rfl rfl k_) ?_
  refine Go.st (U := (Ti9.setTop (mkF m 117 #[.val (.long p0), .second, .val (.long p1), .second, .val (.long p2), .second, .val (.long p3), .second, .val (.long p4), .second, .val (.long d), .second, .val (.long n), .second, .val (.long k), .second, .val (.ref bi1), .val (.ref bi3), .val (.ref bi5), .val (.double (FP.ddiv (FP.l2d (d - n)) (FP.l2d d))), .second, .val (.double (FP.ddiv (FP.l2d (d - n)) (FP.l2d d))), .second, .val (.double (FP.ddiv (FP.l2d (d - k)) (FP.l2d d))), .second, .unset, .unset, .unset, .unset, .unset] []))) (fun t_ k_ => XS.ifNo Xi9.here hx rfl (hb hby at_114) rfl ((if0 _ _).trans (teq (own_rel B_d B_n)).2) k_) ?_
  refine Go.st (U := (Ti9.setTop (mkF m 118 #[.val (.long p0), .second, .val (.long p1), .second, .val (.long p2), .second, .val (.long p3), .second, .val (.long p4), .second, .val (.long d), .second, .val (.long n), .second, .val (.long k), .second, .val (.ref bi1), .val (.ref bi3), .val (.ref bi5), .val (.double (FP.ddiv (FP.l2d (d - n)) (FP.l2d d))), .second, .val (.double (FP.ddiv (FP.l2d (d - n)) (FP.l2d d))), .second, .val (.double (FP.ddiv (FP.l2d (d - k)) (FP.l2d d))), .second, .unset, .unset, .unset, .unset, .unset] [(.int (1 : Int32))]))) (fun t_ k_ => XS.iconst Xi9.here hx rfl (hb hby at_117) k_) ?_
  refine Go.st (U := (Ti9.setTop (mkF m 122 #[.val (.long p0), .second, .val (.long p1), .second, .val (.long p2), .second, .val (.long p3), .second, .val (.long p4), .second, .val (.long d), .second, .val (.long n), .second, .val (.long k), .second, .val (.ref bi1), .val (.ref bi3), .val (.ref bi5), .val (.double (FP.ddiv (FP.l2d (d - n)) (FP.l2d d))), .second, .val (.double (FP.ddiv (FP.l2d (d - n)) (FP.l2d d))), .second, .val (.double (FP.ddiv (FP.l2d (d - k)) (FP.l2d d))), .second, .unset, .unset, .unset, .unset, .unset] [(.int (1 : Int32))]))) (fun t_ k_ => XS.goto Xi9.here hx rfl (pc0 := 118) (pc' := 122) rfl (hb hby at_118) (by decide) (by decide) k_) ?_
  refine Go.st (U := (Ti9.setTop (mkF m 124 #[.val (.long p0), .second, .val (.long p1), .second, .val (.long p2), .second, .val (.long p3), .second, .val (.long p4), .second, .val (.long d), .second, .val (.long n), .second, .val (.long k), .second, .val (.ref bi1), .val (.ref bi3), .val (.ref bi5), .val (.double (FP.ddiv (FP.l2d (d - n)) (FP.l2d d))), .second, .val (.double (FP.ddiv (FP.l2d (d - n)) (FP.l2d d))), .second, .val (.double (FP.ddiv (FP.l2d (d - k)) (FP.l2d d))), .second, .val (.int (1 : Int32)), .unset, .unset, .unset, .unset] []))) (fun t_ k_ => XS.istore Xi9.here hx rfl (hb hby at_122) rfl (l' := #[.val (.long p0), .second, .val (.long p1), .second, .val (.long p2), .second, .val (.long p3), .second, .val (.long p4), .second, .val (.long d), .second, .val (.long n), .second, .val (.long k), .second, .val (.ref bi1), .val (.ref bi3), .val (.ref bi5), .val (.double (FP.ddiv (FP.l2d (d - n)) (FP.l2d d))), .second, .val (.double (FP.ddiv (FP.l2d (d - n)) (FP.l2d d))), .second, .val (.double (FP.ddiv (FP.l2d (d - k)) (FP.l2d d))), .second, .val (.int (1 : Int32)), .unset, .unset, .unset, .unset]) rfl k_) ?_
  refine Go.st (U := (Ti9.setTop (mkF m 125 #[.val (.long p0), .second, .val (.long p1), .second, .val (.long p2), .second, .val (.long p3), .second, .val (.long p4), .second, .val (.long d), .second, .val (.long n), .second, .val (.long k), .second, .val (.ref bi1), .val (.ref bi3), .val (.ref bi5), .val (.double (FP.ddiv (FP.l2d (d - n)) (FP.l2d d))), .second, .val (.double (FP.ddiv (FP.l2d (d - n)) (FP.l2d d))), .second, .val (.double (FP.ddiv (FP.l2d (d - k)) (FP.l2d d))), .second, .val (.int (1 : Int32)), .unset, .unset, .unset, .unset] [(.double (0 : UInt64))]))) (fun t_ k_ => XS.dconst0 Xi9.here hx rfl (hb hby at_124) rfl k_) ?_
  refine Go.st (U := (Ti9.setTop (mkF m 127 #[.val (.long p0), .second, .val (.long p1), .second, .val (.long p2), .second, .val (.long p3), .second, .val (.long p4), .second, .val (.long d), .second, .val (.long n), .second, .val (.long k), .second, .val (.ref bi1), .val (.ref bi3), .val (.ref bi5), .val (.double (FP.ddiv (FP.l2d (d - n)) (FP.l2d d))), .second, .val (.double (FP.ddiv (FP.l2d (d - n)) (FP.l2d d))), .second, .val (.double (FP.ddiv (FP.l2d (d - k)) (FP.l2d d))), .second, .val (.int (1 : Int32)), .unset, .unset, .unset, .unset] [(.double (FP.ddiv (FP.l2d (d - n)) (FP.l2d d))), (.double (0 : UInt64))]))) (fun t_ k_ => XS.dload Xi9.here hx rfl (hb hby at_125) rfl k_) ?_
  refine Go.st (U := (Ti9.setTop (mkF m 128 #[.val (.long p0), .second, .val (.long p1), .second, .val (.long p2), .second, .val (.long p3), .second, .val (.long p4), .second, .val (.long d), .second, .val (.long n), .second, .val (.long k), .second, .val (.ref bi1), .val (.ref bi3), .val (.ref bi5), .val (.double (FP.ddiv (FP.l2d (d - n)) (FP.l2d d))), .second, .val (.double (FP.ddiv (FP.l2d (d - n)) (FP.l2d d))), .second, .val (.double (FP.ddiv (FP.l2d (d - k)) (FP.l2d d))), .second, .val (.int (1 : Int32)), .unset, .unset, .unset, .unset] [(.int (cmpValue (FP.dcmp (0 : UInt64) (FP.ddiv (FP.l2d (d - n)) (FP.l2d d))) .g))]))) (fun t_ k_ => XS.dcmpS Xi9.here hx rfl (hb hby at_127) rfl rfl k_) ?_
  refine Go.st (U := (Ti9.setTop (mkF m 131 #[.val (.long p0), .second, .val (.long p1), .second, .val (.long p2), .second, .val (.long p3), .second, .val (.long p4), .second, .val (.long d), .second, .val (.long n), .second, .val (.long k), .second, .val (.ref bi1), .val (.ref bi3), .val (.ref bi5), .val (.double (FP.ddiv (FP.l2d (d - n)) (FP.l2d d))), .second, .val (.double (FP.ddiv (FP.l2d (d - n)) (FP.l2d d))), .second, .val (.double (FP.ddiv (FP.l2d (d - k)) (FP.l2d d))), .second, .val (.int (1 : Int32)), .unset, .unset, .unset, .unset] []))) (fun t_ k_ => XS.ifNo Xi9.here hx rfl (hb hby at_128) rfl ((if0 _ _).trans (flt (own_ge0 B_d B_n)).2.2.1) k_) ?_
  refine Go.st (U := (Ti9.setTop (mkF m 133 #[.val (.long p0), .second, .val (.long p1), .second, .val (.long p2), .second, .val (.long p3), .second, .val (.long p4), .second, .val (.long d), .second, .val (.long n), .second, .val (.long k), .second, .val (.ref bi1), .val (.ref bi3), .val (.ref bi5), .val (.double (FP.ddiv (FP.l2d (d - n)) (FP.l2d d))), .second, .val (.double (FP.ddiv (FP.l2d (d - n)) (FP.l2d d))), .second, .val (.double (FP.ddiv (FP.l2d (d - k)) (FP.l2d d))), .second, .val (.int (1 : Int32)), .unset, .unset, .unset, .unset] [(.double (FP.ddiv (FP.l2d (d - n)) (FP.l2d d)))]))) (fun t_ k_ => XS.dload Xi9.here hx rfl (hb hby at_131) rfl k_) ?_
  refine Go.st (U := (Ti9.setTop (mkF m 134 #[.val (.long p0), .second, .val (.long p1), .second, .val (.long p2), .second, .val (.long p3), .second, .val (.long p4), .second, .val (.long d), .second, .val (.long n), .second, .val (.long k), .second, .val (.ref bi1), .val (.ref bi3), .val (.ref bi5), .val (.double (FP.ddiv (FP.l2d (d - n)) (FP.l2d d))), .second, .val (.double (FP.ddiv (FP.l2d (d - n)) (FP.l2d d))), .second, .val (.double (FP.ddiv (FP.l2d (d - k)) (FP.l2d d))), .second, .val (.int (1 : Int32)), .unset, .unset, .unset, .unset] [(.double (4607182418800017408 : UInt64)), (.double (FP.ddiv (FP.l2d (d - n)) (FP.l2d d)))]))) (fun t_ k_ => XS.dconst1 Xi9.here hx rfl (hb hby at_133) rfl k_) ?_
  refine Go.st (U := (Ti9.setTop (mkF m 135 #[.val (.long p0), .second, .val (.long p1), .second, .val (.long p2), .second, .val (.long p3), .second, .val (.long p4), .second, .val (.long d), .second, .val (.long n), .second, .val (.long k), .second, .val (.ref bi1), .val (.ref bi3), .val (.ref bi5), .val (.double (FP.ddiv (FP.l2d (d - n)) (FP.l2d d))), .second, .val (.double (FP.ddiv (FP.l2d (d - n)) (FP.l2d d))), .second, .val (.double (FP.ddiv (FP.l2d (d - k)) (FP.l2d d))), .second, .val (.int (1 : Int32)), .unset, .unset, .unset, .unset] [(.int (cmpValue (FP.dcmp (FP.ddiv (FP.l2d (d - n)) (FP.l2d d)) (4607182418800017408 : UInt64)) .g))]))) (fun t_ k_ => XS.dcmpS Xi9.here hx rfl (hb hby at_134) rfl rfl k_) ?_
  refine Go.st (U := (Ti9.setTop (mkF m 138 #[.val (.long p0), .second, .val (.long p1), .second, .val (.long p2), .second, .val (.long p3), .second, .val (.long p4), .second, .val (.long d), .second, .val (.long n), .second, .val (.long k), .second, .val (.ref bi1), .val (.ref bi3), .val (.ref bi5), .val (.double (FP.ddiv (FP.l2d (d - n)) (FP.l2d d))), .second, .val (.double (FP.ddiv (FP.l2d (d - n)) (FP.l2d d))), .second, .val (.double (FP.ddiv (FP.l2d (d - k)) (FP.l2d d))), .second, .val (.int (1 : Int32)), .unset, .unset, .unset, .unset] []))) (fun t_ k_ => XS.ifNo Xi9.here hx rfl (hb hby at_135) rfl ((if0 _ _).trans (flt (own_le1 B_d B_n)).2.2.1) k_) ?_
  refine Go.st (U := (Ti9.setTop (mkF m 139 #[.val (.long p0), .second, .val (.long p1), .second, .val (.long p2), .second, .val (.long p3), .second, .val (.long p4), .second, .val (.long d), .second, .val (.long n), .second, .val (.long k), .second, .val (.ref bi1), .val (.ref bi3), .val (.ref bi5), .val (.double (FP.ddiv (FP.l2d (d - n)) (FP.l2d d))), .second, .val (.double (FP.ddiv (FP.l2d (d - n)) (FP.l2d d))), .second, .val (.double (FP.ddiv (FP.l2d (d - k)) (FP.l2d d))), .second, .val (.int (1 : Int32)), .unset, .unset, .unset, .unset] [(.int (1 : Int32))]))) (fun t_ k_ => XS.iconst Xi9.here hx rfl (hb hby at_138) k_) ?_
  refine Go.st (U := (Ti9.setTop (mkF m 143 #[.val (.long p0), .second, .val (.long p1), .second, .val (.long p2), .second, .val (.long p3), .second, .val (.long p4), .second, .val (.long d), .second, .val (.long n), .second, .val (.long k), .second, .val (.ref bi1), .val (.ref bi3), .val (.ref bi5), .val (.double (FP.ddiv (FP.l2d (d - n)) (FP.l2d d))), .second, .val (.double (FP.ddiv (FP.l2d (d - n)) (FP.l2d d))), .second, .val (.double (FP.ddiv (FP.l2d (d - k)) (FP.l2d d))), .second, .val (.int (1 : Int32)), .unset, .unset, .unset, .unset] [(.int (1 : Int32))]))) (fun t_ k_ => XS.goto Xi9.here hx rfl (pc0 := 139) (pc' := 143) rfl (hb hby at_139) (by decide) (by decide) k_) ?_
  refine Go.st (U := (Ti9.setTop (mkF m 145 #[.val (.long p0), .second, .val (.long p1), .second, .val (.long p2), .second, .val (.long p3), .second, .val (.long p4), .second, .val (.long d), .second, .val (.long n), .second, .val (.long k), .second, .val (.ref bi1), .val (.ref bi3), .val (.ref bi5), .val (.double (FP.ddiv (FP.l2d (d - n)) (FP.l2d d))), .second, .val (.double (FP.ddiv (FP.l2d (d - n)) (FP.l2d d))), .second, .val (.double (FP.ddiv (FP.l2d (d - k)) (FP.l2d d))), .second, .val (.int (1 : Int32)), .val (.int (1 : Int32)), .unset, .unset, .unset] []))) (fun t_ k_ => XS.istore Xi9.here hx rfl (hb hby at_143) rfl (l' := #[.val (.long p0), .second, .val (.long p1), .second, .val (.long p2), .second, .val (.long p3), .second, .val (.long p4), .second, .val (.long d), .second, .val (.long n), .second, .val (.long k), .second, .val (.ref bi1), .val (.ref bi3), .val (.ref bi5), .val (.double (FP.ddiv (FP.l2d (d - n)) (FP.l2d d))), .second, .val (.double (FP.ddiv (FP.l2d (d - n)) (FP.l2d d))), .second, .val (.double (FP.ddiv (FP.l2d (d - k)) (FP.l2d d))), .second, .val (.int (1 : Int32)), .val (.int (1 : Int32)), .unset, .unset, .unset]) rfl k_) ?_
  have J178 : Go p e below s room_1 (Q_law Z p0 p1 p2 p3 p4 h0 n0) (Ti9.setTop (mkF m 178 #[.val (.long p0), .second, .val (.long p1), .second, .val (.long p2), .second, .val (.long p3), .second, .val (.long p4), .second, .val (.long d), .second, .val (.long n), .second, .val (.long k), .second, .val (.ref bi1), .val (.ref bi3), .val (.ref bi5), .val (.double (FP.ddiv (FP.l2d (d - n)) (FP.l2d d))), .second, .val (.double (FP.ddiv (FP.l2d (d - n)) (FP.l2d d))), .second, .val (.double (FP.ddiv (FP.l2d (d - k)) (FP.l2d d))), .second, .val (.int (1 : Int32)), .val (.int (1 : Int32)), .unset, .unset, .unset] [(.int (1 : Int32))])) := by
    refine Go.st (U := (Ti9.setTop (mkF m 180 #[.val (.long p0), .second, .val (.long p1), .second, .val (.long p2), .second, .val (.long p3), .second, .val (.long p4), .second, .val (.long d), .second, .val (.long n), .second, .val (.long k), .second, .val (.ref bi1), .val (.ref bi3), .val (.ref bi5), .val (.double (FP.ddiv (FP.l2d (d - n)) (FP.l2d d))), .second, .val (.double (FP.ddiv (FP.l2d (d - n)) (FP.l2d d))), .second, .val (.double (FP.ddiv (FP.l2d (d - k)) (FP.l2d d))), .second, .val (.int (1 : Int32)), .val (.int (1 : Int32)), .val (.int (1 : Int32)), .unset, .unset] []))) (fun t_ k_ => XS.istore Xi9.here hx rfl (hb hby at_178) rfl (l' := #[.val (.long p0), .second, .val (.long p1), .second, .val (.long p2), .second, .val (.long p3), .second, .val (.long p4), .second, .val (.long d), .second, .val (.long n), .second, .val (.long k), .second, .val (.ref bi1), .val (.ref bi3), .val (.ref bi5), .val (.double (FP.ddiv (FP.l2d (d - n)) (FP.l2d d))), .second, .val (.double (FP.ddiv (FP.l2d (d - n)) (FP.l2d d))), .second, .val (.double (FP.ddiv (FP.l2d (d - k)) (FP.l2d d))), .second, .val (.int (1 : Int32)), .val (.int (1 : Int32)), .val (.int (1 : Int32)), .unset, .unset]) rfl k_) ?_
    have J212 : Go p e below s room_1 (Q_law Z p0 p1 p2 p3 p4 h0 n0) (Ti9.setTop (mkF m 212 #[.val (.long p0), .second, .val (.long p1), .second, .val (.long p2), .second, .val (.long p3), .second, .val (.long p4), .second, .val (.long d), .second, .val (.long n), .second, .val (.long k), .second, .val (.ref bi1), .val (.ref bi3), .val (.ref bi5), .val (.double (FP.ddiv (FP.l2d (d - n)) (FP.l2d d))), .second, .val (.double (FP.ddiv (FP.l2d (d - n)) (FP.l2d d))), .second, .val (.double (FP.ddiv (FP.l2d (d - k)) (FP.l2d d))), .second, .val (.int (1 : Int32)), .val (.int (1 : Int32)), .val (.int (1 : Int32)), .unset, .unset] [(.int (1 : Int32))])) := by
      refine Go.st (U := (Ti9.setTop (mkF m 214 #[.val (.long p0), .second, .val (.long p1), .second, .val (.long p2), .second, .val (.long p3), .second, .val (.long p4), .second, .val (.long d), .second, .val (.long n), .second, .val (.long k), .second, .val (.ref bi1), .val (.ref bi3), .val (.ref bi5), .val (.double (FP.ddiv (FP.l2d (d - n)) (FP.l2d d))), .second, .val (.double (FP.ddiv (FP.l2d (d - n)) (FP.l2d d))), .second, .val (.double (FP.ddiv (FP.l2d (d - k)) (FP.l2d d))), .second, .val (.int (1 : Int32)), .val (.int (1 : Int32)), .val (.int (1 : Int32)), .val (.int (1 : Int32)), .unset] []))) (fun t_ k_ => XS.istore Xi9.here hx rfl (hb hby at_212) rfl (l' := #[.val (.long p0), .second, .val (.long p1), .second, .val (.long p2), .second, .val (.long p3), .second, .val (.long p4), .second, .val (.long d), .second, .val (.long n), .second, .val (.long k), .second, .val (.ref bi1), .val (.ref bi3), .val (.ref bi5), .val (.double (FP.ddiv (FP.l2d (d - n)) (FP.l2d d))), .second, .val (.double (FP.ddiv (FP.l2d (d - n)) (FP.l2d d))), .second, .val (.double (FP.ddiv (FP.l2d (d - k)) (FP.l2d d))), .second, .val (.int (1 : Int32)), .val (.int (1 : Int32)), .val (.int (1 : Int32)), .val (.int (1 : Int32)), .unset]) rfl k_) ?_
      have J248 : Go p e below s room_1 (Q_law Z p0 p1 p2 p3 p4 h0 n0) (Ti9.setTop (mkF m 248 #[.val (.long p0), .second, .val (.long p1), .second, .val (.long p2), .second, .val (.long p3), .second, .val (.long p4), .second, .val (.long d), .second, .val (.long n), .second, .val (.long k), .second, .val (.ref bi1), .val (.ref bi3), .val (.ref bi5), .val (.double (FP.ddiv (FP.l2d (d - n)) (FP.l2d d))), .second, .val (.double (FP.ddiv (FP.l2d (d - n)) (FP.l2d d))), .second, .val (.double (FP.ddiv (FP.l2d (d - k)) (FP.l2d d))), .second, .val (.int (1 : Int32)), .val (.int (1 : Int32)), .val (.int (1 : Int32)), .val (.int (1 : Int32)), .unset] [(.int (1 : Int32))])) := by
        refine Go.st (U := (Ti9.setTop (mkF m 250 #[.val (.long p0), .second, .val (.long p1), .second, .val (.long p2), .second, .val (.long p3), .second, .val (.long p4), .second, .val (.long d), .second, .val (.long n), .second, .val (.long k), .second, .val (.ref bi1), .val (.ref bi3), .val (.ref bi5), .val (.double (FP.ddiv (FP.l2d (d - n)) (FP.l2d d))), .second, .val (.double (FP.ddiv (FP.l2d (d - n)) (FP.l2d d))), .second, .val (.double (FP.ddiv (FP.l2d (d - k)) (FP.l2d d))), .second, .val (.int (1 : Int32)), .val (.int (1 : Int32)), .val (.int (1 : Int32)), .val (.int (1 : Int32)), .val (.int (1 : Int32))] []))) (fun t_ k_ => XS.istore Xi9.here hx rfl (hb hby at_248) rfl (l' := #[.val (.long p0), .second, .val (.long p1), .second, .val (.long p2), .second, .val (.long p3), .second, .val (.long p4), .second, .val (.long d), .second, .val (.long n), .second, .val (.long k), .second, .val (.ref bi1), .val (.ref bi3), .val (.ref bi5), .val (.double (FP.ddiv (FP.l2d (d - n)) (FP.l2d d))), .second, .val (.double (FP.ddiv (FP.l2d (d - n)) (FP.l2d d))), .second, .val (.double (FP.ddiv (FP.l2d (d - k)) (FP.l2d d))), .second, .val (.int (1 : Int32)), .val (.int (1 : Int32)), .val (.int (1 : Int32)), .val (.int (1 : Int32)), .val (.int (1 : Int32))]) rfl k_) ?_
        refine Go.st (U := (Ti9.setTop (mkF m 252 #[.val (.long p0), .second, .val (.long p1), .second, .val (.long p2), .second, .val (.long p3), .second, .val (.long p4), .second, .val (.long d), .second, .val (.long n), .second, .val (.long k), .second, .val (.ref bi1), .val (.ref bi3), .val (.ref bi5), .val (.double (FP.ddiv (FP.l2d (d - n)) (FP.l2d d))), .second, .val (.double (FP.ddiv (FP.l2d (d - n)) (FP.l2d d))), .second, .val (.double (FP.ddiv (FP.l2d (d - k)) (FP.l2d d))), .second, .val (.int (1 : Int32)), .val (.int (1 : Int32)), .val (.int (1 : Int32)), .val (.int (1 : Int32)), .val (.int (1 : Int32))] [(.int (1 : Int32))]))) (fun t_ k_ => XS.iload Xi9.here hx rfl (hb hby at_250) rfl k_) ?_
        refine Go.st (U := (Ti9.setTop (mkF m 255 #[.val (.long p0), .second, .val (.long p1), .second, .val (.long p2), .second, .val (.long p3), .second, .val (.long p4), .second, .val (.long d), .second, .val (.long n), .second, .val (.long k), .second, .val (.ref bi1), .val (.ref bi3), .val (.ref bi5), .val (.double (FP.ddiv (FP.l2d (d - n)) (FP.l2d d))), .second, .val (.double (FP.ddiv (FP.l2d (d - n)) (FP.l2d d))), .second, .val (.double (FP.ddiv (FP.l2d (d - k)) (FP.l2d d))), .second, .val (.int (1 : Int32)), .val (.int (1 : Int32)), .val (.int (1 : Int32)), .val (.int (1 : Int32)), .val (.int (1 : Int32))] []))) (fun t_ k_ => XS.ifNo Xi9.here hx rfl (hb hby at_252) rfl ((if0 _ _).trans (feq (by decide)).1) k_) ?_
        refine Go.st (U := (Ti9.setTop (mkF m 257 #[.val (.long p0), .second, .val (.long p1), .second, .val (.long p2), .second, .val (.long p3), .second, .val (.long p4), .second, .val (.long d), .second, .val (.long n), .second, .val (.long k), .second, .val (.ref bi1), .val (.ref bi3), .val (.ref bi5), .val (.double (FP.ddiv (FP.l2d (d - n)) (FP.l2d d))), .second, .val (.double (FP.ddiv (FP.l2d (d - n)) (FP.l2d d))), .second, .val (.double (FP.ddiv (FP.l2d (d - k)) (FP.l2d d))), .second, .val (.int (1 : Int32)), .val (.int (1 : Int32)), .val (.int (1 : Int32)), .val (.int (1 : Int32)), .val (.int (1 : Int32))] [(.int (1 : Int32))]))) (fun t_ k_ => XS.iload Xi9.here hx rfl (hb hby at_255) rfl k_) ?_
        refine Go.st (U := (Ti9.setTop (mkF m 260 #[.val (.long p0), .second, .val (.long p1), .second, .val (.long p2), .second, .val (.long p3), .second, .val (.long p4), .second, .val (.long d), .second, .val (.long n), .second, .val (.long k), .second, .val (.ref bi1), .val (.ref bi3), .val (.ref bi5), .val (.double (FP.ddiv (FP.l2d (d - n)) (FP.l2d d))), .second, .val (.double (FP.ddiv (FP.l2d (d - n)) (FP.l2d d))), .second, .val (.double (FP.ddiv (FP.l2d (d - k)) (FP.l2d d))), .second, .val (.int (1 : Int32)), .val (.int (1 : Int32)), .val (.int (1 : Int32)), .val (.int (1 : Int32)), .val (.int (1 : Int32))] []))) (fun t_ k_ => XS.ifNo Xi9.here hx rfl (hb hby at_257) rfl ((if0 _ _).trans (feq (by decide)).1) k_) ?_
        refine Go.st (U := (Ti9.setTop (mkF m 262 #[.val (.long p0), .second, .val (.long p1), .second, .val (.long p2), .second, .val (.long p3), .second, .val (.long p4), .second, .val (.long d), .second, .val (.long n), .second, .val (.long k), .second, .val (.ref bi1), .val (.ref bi3), .val (.ref bi5), .val (.double (FP.ddiv (FP.l2d (d - n)) (FP.l2d d))), .second, .val (.double (FP.ddiv (FP.l2d (d - n)) (FP.l2d d))), .second, .val (.double (FP.ddiv (FP.l2d (d - k)) (FP.l2d d))), .second, .val (.int (1 : Int32)), .val (.int (1 : Int32)), .val (.int (1 : Int32)), .val (.int (1 : Int32)), .val (.int (1 : Int32))] [(.int (1 : Int32))]))) (fun t_ k_ => XS.iload Xi9.here hx rfl (hb hby at_260) rfl k_) ?_
        refine Go.st (U := (Ti9.setTop (mkF m 265 #[.val (.long p0), .second, .val (.long p1), .second, .val (.long p2), .second, .val (.long p3), .second, .val (.long p4), .second, .val (.long d), .second, .val (.long n), .second, .val (.long k), .second, .val (.ref bi1), .val (.ref bi3), .val (.ref bi5), .val (.double (FP.ddiv (FP.l2d (d - n)) (FP.l2d d))), .second, .val (.double (FP.ddiv (FP.l2d (d - n)) (FP.l2d d))), .second, .val (.double (FP.ddiv (FP.l2d (d - k)) (FP.l2d d))), .second, .val (.int (1 : Int32)), .val (.int (1 : Int32)), .val (.int (1 : Int32)), .val (.int (1 : Int32)), .val (.int (1 : Int32))] []))) (fun t_ k_ => XS.ifNo Xi9.here hx rfl (hb hby at_262) rfl ((if0 _ _).trans (feq (by decide)).1) k_) ?_
        refine Go.st (U := (Ti9.setTop (mkF m 267 #[.val (.long p0), .second, .val (.long p1), .second, .val (.long p2), .second, .val (.long p3), .second, .val (.long p4), .second, .val (.long d), .second, .val (.long n), .second, .val (.long k), .second, .val (.ref bi1), .val (.ref bi3), .val (.ref bi5), .val (.double (FP.ddiv (FP.l2d (d - n)) (FP.l2d d))), .second, .val (.double (FP.ddiv (FP.l2d (d - n)) (FP.l2d d))), .second, .val (.double (FP.ddiv (FP.l2d (d - k)) (FP.l2d d))), .second, .val (.int (1 : Int32)), .val (.int (1 : Int32)), .val (.int (1 : Int32)), .val (.int (1 : Int32)), .val (.int (1 : Int32))] [(.int (1 : Int32))]))) (fun t_ k_ => XS.iload Xi9.here hx rfl (hb hby at_265) rfl k_) ?_
        refine Go.st (U := (Ti9.setTop (mkF m 270 #[.val (.long p0), .second, .val (.long p1), .second, .val (.long p2), .second, .val (.long p3), .second, .val (.long p4), .second, .val (.long d), .second, .val (.long n), .second, .val (.long k), .second, .val (.ref bi1), .val (.ref bi3), .val (.ref bi5), .val (.double (FP.ddiv (FP.l2d (d - n)) (FP.l2d d))), .second, .val (.double (FP.ddiv (FP.l2d (d - n)) (FP.l2d d))), .second, .val (.double (FP.ddiv (FP.l2d (d - k)) (FP.l2d d))), .second, .val (.int (1 : Int32)), .val (.int (1 : Int32)), .val (.int (1 : Int32)), .val (.int (1 : Int32)), .val (.int (1 : Int32))] []))) (fun t_ k_ => XS.ifNo Xi9.here hx rfl (hb hby at_267) rfl ((if0 _ _).trans (feq (by decide)).1) k_) ?_
        refine Go.st (U := (Ti9.setTop (mkF m 272 #[.val (.long p0), .second, .val (.long p1), .second, .val (.long p2), .second, .val (.long p3), .second, .val (.long p4), .second, .val (.long d), .second, .val (.long n), .second, .val (.long k), .second, .val (.ref bi1), .val (.ref bi3), .val (.ref bi5), .val (.double (FP.ddiv (FP.l2d (d - n)) (FP.l2d d))), .second, .val (.double (FP.ddiv (FP.l2d (d - n)) (FP.l2d d))), .second, .val (.double (FP.ddiv (FP.l2d (d - k)) (FP.l2d d))), .second, .val (.int (1 : Int32)), .val (.int (1 : Int32)), .val (.int (1 : Int32)), .val (.int (1 : Int32)), .val (.int (1 : Int32))] [(.int (1 : Int32))]))) (fun t_ k_ => XS.iload Xi9.here hx rfl (hb hby at_270) rfl k_) ?_
        refine Go.st (U := (Ti9.setTop (mkF m 275 #[.val (.long p0), .second, .val (.long p1), .second, .val (.long p2), .second, .val (.long p3), .second, .val (.long p4), .second, .val (.long d), .second, .val (.long n), .second, .val (.long k), .second, .val (.ref bi1), .val (.ref bi3), .val (.ref bi5), .val (.double (FP.ddiv (FP.l2d (d - n)) (FP.l2d d))), .second, .val (.double (FP.ddiv (FP.l2d (d - n)) (FP.l2d d))), .second, .val (.double (FP.ddiv (FP.l2d (d - k)) (FP.l2d d))), .second, .val (.int (1 : Int32)), .val (.int (1 : Int32)), .val (.int (1 : Int32)), .val (.int (1 : Int32)), .val (.int (1 : Int32))] []))) (fun t_ k_ => XS.ifNo Xi9.here hx rfl (hb hby at_272) rfl ((if0 _ _).trans (feq (by decide)).1) k_) ?_
        refine Go.st (U := (Ti9.setTop (mkF m 276 #[.val (.long p0), .second, .val (.long p1), .second, .val (.long p2), .second, .val (.long p3), .second, .val (.long p4), .second, .val (.long d), .second, .val (.long n), .second, .val (.long k), .second, .val (.ref bi1), .val (.ref bi3), .val (.ref bi5), .val (.double (FP.ddiv (FP.l2d (d - n)) (FP.l2d d))), .second, .val (.double (FP.ddiv (FP.l2d (d - n)) (FP.l2d d))), .second, .val (.double (FP.ddiv (FP.l2d (d - k)) (FP.l2d d))), .second, .val (.int (1 : Int32)), .val (.int (1 : Int32)), .val (.int (1 : Int32)), .val (.int (1 : Int32)), .val (.int (1 : Int32))] [(.int (1 : Int32))]))) (fun t_ k_ => XS.iconst Xi9.here hx rfl (hb hby at_275) k_) ?_
        refine Go.st (U := (Ti9.setTop (mkF m 280 #[.val (.long p0), .second, .val (.long p1), .second, .val (.long p2), .second, .val (.long p3), .second, .val (.long p4), .second, .val (.long d), .second, .val (.long n), .second, .val (.long k), .second, .val (.ref bi1), .val (.ref bi3), .val (.ref bi5), .val (.double (FP.ddiv (FP.l2d (d - n)) (FP.l2d d))), .second, .val (.double (FP.ddiv (FP.l2d (d - n)) (FP.l2d d))), .second, .val (.double (FP.ddiv (FP.l2d (d - k)) (FP.l2d d))), .second, .val (.int (1 : Int32)), .val (.int (1 : Int32)), .val (.int (1 : Int32)), .val (.int (1 : Int32)), .val (.int (1 : Int32))] [(.int (1 : Int32))]))) (fun t_ k_ => XS.goto Xi9.here hx rfl (pc0 := 276) (pc' := 280) rfl (hb hby at_276) (by decide) (by decide) k_) ?_
        refine Go.retZ Xi9 hx hlk hret (hb hby at_280) (by decide) (by decide) ?_
        exact ⟨rfl, Ni9⟩
      by_cases hm : n.toInt < k.toInt
      · refine Go.st (U := (Ti9.setTop (mkF m 216 #[.val (.long p0), .second, .val (.long p1), .second, .val (.long p2), .second, .val (.long p3), .second, .val (.long p4), .second, .val (.long d), .second, .val (.long n), .second, .val (.long k), .second, .val (.ref bi1), .val (.ref bi3), .val (.ref bi5), .val (.double (FP.ddiv (FP.l2d (d - n)) (FP.l2d d))), .second, .val (.double (FP.ddiv (FP.l2d (d - n)) (FP.l2d d))), .second, .val (.double (FP.ddiv (FP.l2d (d - k)) (FP.l2d d))), .second, .val (.int (1 : Int32)), .val (.int (1 : Int32)), .val (.int (1 : Int32)), .val (.int (1 : Int32)), .unset] [(.long n)]))) (fun t_ k_ => XS.lload Xi9.here hx rfl (hb hby at_214) rfl k_) ?_
        refine Go.st (U := (Ti9.setTop (mkF m 218 #[.val (.long p0), .second, .val (.long p1), .second, .val (.long p2), .second, .val (.long p3), .second, .val (.long p4), .second, .val (.long d), .second, .val (.long n), .second, .val (.long k), .second, .val (.ref bi1), .val (.ref bi3), .val (.ref bi5), .val (.double (FP.ddiv (FP.l2d (d - n)) (FP.l2d d))), .second, .val (.double (FP.ddiv (FP.l2d (d - n)) (FP.l2d d))), .second, .val (.double (FP.ddiv (FP.l2d (d - k)) (FP.l2d d))), .second, .val (.int (1 : Int32)), .val (.int (1 : Int32)), .val (.int (1 : Int32)), .val (.int (1 : Int32)), .unset] [(.long k), (.long n)]))) (fun t_ k_ => XS.lload Xi9.here hx rfl (hb hby at_216) rfl k_) ?_
        refine Go.st (U := (Ti9.setTop (mkF m 219 #[.val (.long p0), .second, .val (.long p1), .second, .val (.long p2), .second, .val (.long p3), .second, .val (.long p4), .second, .val (.long d), .second, .val (.long n), .second, .val (.long k), .second, .val (.ref bi1), .val (.ref bi3), .val (.ref bi5), .val (.double (FP.ddiv (FP.l2d (d - n)) (FP.l2d d))), .second, .val (.double (FP.ddiv (FP.l2d (d - n)) (FP.l2d d))), .second, .val (.double (FP.ddiv (FP.l2d (d - k)) (FP.l2d d))), .second, .val (.int (1 : Int32)), .val (.int (1 : Int32)), .val (.int (1 : Int32)), .val (.int (1 : Int32)), .unset] [(.int (lcmpW n k))]))) (fun t_ k_ => XS.lcmp Xi9.here hx rfl (hb hby at_218) rfl k_) ?_
        refine Go.st (U := (Ti9.setTop (mkF m 222 #[.val (.long p0), .second, .val (.long p1), .second, .val (.long p2), .second, .val (.long p3), .second, .val (.long p4), .second, .val (.long d), .second, .val (.long n), .second, .val (.long k), .second, .val (.ref bi1), .val (.ref bi3), .val (.ref bi5), .val (.double (FP.ddiv (FP.l2d (d - n)) (FP.l2d d))), .second, .val (.double (FP.ddiv (FP.l2d (d - n)) (FP.l2d d))), .second, .val (.double (FP.ddiv (FP.l2d (d - k)) (FP.l2d d))), .second, .val (.int (1 : Int32)), .val (.int (1 : Int32)), .val (.int (1 : Int32)), .val (.int (1 : Int32)), .unset] []))) (fun t_ k_ => XS.ifNo Xi9.here hx rfl (hb hby at_219) rfl ((if0 _ _).trans (tlt (Jvm.OwnFl.lc_lt.mpr hm)).2.1) k_) ?_
        refine Go.st (U := (Ti9.setTop (mkF m 223 #[.val (.long p0), .second, .val (.long p1), .second, .val (.long p2), .second, .val (.long p3), .second, .val (.long p4), .second, .val (.long d), .second, .val (.long n), .second, .val (.long k), .second, .val (.ref bi1), .val (.ref bi3), .val (.ref bi5), .val (.double (FP.ddiv (FP.l2d (d - n)) (FP.l2d d))), .second, .val (.double (FP.ddiv (FP.l2d (d - n)) (FP.l2d d))), .second, .val (.double (FP.ddiv (FP.l2d (d - k)) (FP.l2d d))), .second, .val (.int (1 : Int32)), .val (.int (1 : Int32)), .val (.int (1 : Int32)), .val (.int (1 : Int32)), .unset] [(.int (1 : Int32))]))) (fun t_ k_ => XS.iconst Xi9.here hx rfl (hb hby at_222) k_) ?_
        refine Go.st (U := (Ti9.setTop (mkF m 227 #[.val (.long p0), .second, .val (.long p1), .second, .val (.long p2), .second, .val (.long p3), .second, .val (.long p4), .second, .val (.long d), .second, .val (.long n), .second, .val (.long k), .second, .val (.ref bi1), .val (.ref bi3), .val (.ref bi5), .val (.double (FP.ddiv (FP.l2d (d - n)) (FP.l2d d))), .second, .val (.double (FP.ddiv (FP.l2d (d - n)) (FP.l2d d))), .second, .val (.double (FP.ddiv (FP.l2d (d - k)) (FP.l2d d))), .second, .val (.int (1 : Int32)), .val (.int (1 : Int32)), .val (.int (1 : Int32)), .val (.int (1 : Int32)), .unset] [(.int (1 : Int32))]))) (fun t_ k_ => XS.goto Xi9.here hx rfl (pc0 := 223) (pc' := 227) rfl (hb hby at_223) (by decide) (by decide) k_) ?_
        refine Go.st (U := (Ti9.setTop (mkF m 229 #[.val (.long p0), .second, .val (.long p1), .second, .val (.long p2), .second, .val (.long p3), .second, .val (.long p4), .second, .val (.long d), .second, .val (.long n), .second, .val (.long k), .second, .val (.ref bi1), .val (.ref bi3), .val (.ref bi5), .val (.double (FP.ddiv (FP.l2d (d - n)) (FP.l2d d))), .second, .val (.double (FP.ddiv (FP.l2d (d - n)) (FP.l2d d))), .second, .val (.double (FP.ddiv (FP.l2d (d - k)) (FP.l2d d))), .second, .val (.int (1 : Int32)), .val (.int (1 : Int32)), .val (.int (1 : Int32)), .val (.int (1 : Int32)), .unset] [(.double (FP.ddiv (FP.l2d (d - n)) (FP.l2d d))), (.int (1 : Int32))]))) (fun t_ k_ => XS.dload Xi9.here hx rfl (hb hby at_227) rfl k_) ?_
        refine Go.st (U := (Ti9.setTop (mkF m 231 #[.val (.long p0), .second, .val (.long p1), .second, .val (.long p2), .second, .val (.long p3), .second, .val (.long p4), .second, .val (.long d), .second, .val (.long n), .second, .val (.long k), .second, .val (.ref bi1), .val (.ref bi3), .val (.ref bi5), .val (.double (FP.ddiv (FP.l2d (d - n)) (FP.l2d d))), .second, .val (.double (FP.ddiv (FP.l2d (d - n)) (FP.l2d d))), .second, .val (.double (FP.ddiv (FP.l2d (d - k)) (FP.l2d d))), .second, .val (.int (1 : Int32)), .val (.int (1 : Int32)), .val (.int (1 : Int32)), .val (.int (1 : Int32)), .unset] [(.double (FP.ddiv (FP.l2d (d - k)) (FP.l2d d))), (.double (FP.ddiv (FP.l2d (d - n)) (FP.l2d d))), (.int (1 : Int32))]))) (fun t_ k_ => XS.dload Xi9.here hx rfl (hb hby at_229) rfl k_) ?_
        refine Go.st (U := (Ti9.setTop (mkF m 232 #[.val (.long p0), .second, .val (.long p1), .second, .val (.long p2), .second, .val (.long p3), .second, .val (.long p4), .second, .val (.long d), .second, .val (.long n), .second, .val (.long k), .second, .val (.ref bi1), .val (.ref bi3), .val (.ref bi5), .val (.double (FP.ddiv (FP.l2d (d - n)) (FP.l2d d))), .second, .val (.double (FP.ddiv (FP.l2d (d - n)) (FP.l2d d))), .second, .val (.double (FP.ddiv (FP.l2d (d - k)) (FP.l2d d))), .second, .val (.int (1 : Int32)), .val (.int (1 : Int32)), .val (.int (1 : Int32)), .val (.int (1 : Int32)), .unset] [(.int (cmpValue (FP.dcmp (FP.ddiv (FP.l2d (d - n)) (FP.l2d d)) (FP.ddiv (FP.l2d (d - k)) (FP.l2d d))) .l)), (.int (1 : Int32))]))) (fun t_ k_ => XS.dcmpS Xi9.here hx rfl (hb hby at_231) rfl rfl k_) ?_
        refine Go.st (U := (Ti9.setTop (mkF m 235 #[.val (.long p0), .second, .val (.long p1), .second, .val (.long p2), .second, .val (.long p3), .second, .val (.long p4), .second, .val (.long d), .second, .val (.long n), .second, .val (.long k), .second, .val (.ref bi1), .val (.ref bi3), .val (.ref bi5), .val (.double (FP.ddiv (FP.l2d (d - n)) (FP.l2d d))), .second, .val (.double (FP.ddiv (FP.l2d (d - n)) (FP.l2d d))), .second, .val (.double (FP.ddiv (FP.l2d (d - k)) (FP.l2d d))), .second, .val (.int (1 : Int32)), .val (.int (1 : Int32)), .val (.int (1 : Int32)), .val (.int (1 : Int32)), .unset] [(.int (1 : Int32))]))) (fun t_ k_ => XS.ifNo Xi9.here hx rfl (hb hby at_232) rfl ((if0 _ _).trans (tlt ((own_m B_d B_n B_k).1 hm)).2.2.2) k_) ?_
        refine Go.st (U := (Ti9.setTop (mkF m 236 #[.val (.long p0), .second, .val (.long p1), .second, .val (.long p2), .second, .val (.long p3), .second, .val (.long p4), .second, .val (.long d), .second, .val (.long n), .second, .val (.long k), .second, .val (.ref bi1), .val (.ref bi3), .val (.ref bi5), .val (.double (FP.ddiv (FP.l2d (d - n)) (FP.l2d d))), .second, .val (.double (FP.ddiv (FP.l2d (d - n)) (FP.l2d d))), .second, .val (.double (FP.ddiv (FP.l2d (d - k)) (FP.l2d d))), .second, .val (.int (1 : Int32)), .val (.int (1 : Int32)), .val (.int (1 : Int32)), .val (.int (1 : Int32)), .unset] [(.int (1 : Int32)), (.int (1 : Int32))]))) (fun t_ k_ => XS.iconst Xi9.here hx rfl (hb hby at_235) k_) ?_
        refine Go.st (U := (Ti9.setTop (mkF m 240 #[.val (.long p0), .second, .val (.long p1), .second, .val (.long p2), .second, .val (.long p3), .second, .val (.long p4), .second, .val (.long d), .second, .val (.long n), .second, .val (.long k), .second, .val (.ref bi1), .val (.ref bi3), .val (.ref bi5), .val (.double (FP.ddiv (FP.l2d (d - n)) (FP.l2d d))), .second, .val (.double (FP.ddiv (FP.l2d (d - n)) (FP.l2d d))), .second, .val (.double (FP.ddiv (FP.l2d (d - k)) (FP.l2d d))), .second, .val (.int (1 : Int32)), .val (.int (1 : Int32)), .val (.int (1 : Int32)), .val (.int (1 : Int32)), .unset] [(.int (1 : Int32)), (.int (1 : Int32))]))) (fun t_ k_ => XS.goto Xi9.here hx rfl (pc0 := 236) (pc' := 240) rfl (hb hby at_236) (by decide) (by decide) k_) ?_
        refine Go.st (U := (Ti9.setTop (mkF m 243 #[.val (.long p0), .second, .val (.long p1), .second, .val (.long p2), .second, .val (.long p3), .second, .val (.long p4), .second, .val (.long d), .second, .val (.long n), .second, .val (.long k), .second, .val (.ref bi1), .val (.ref bi3), .val (.ref bi5), .val (.double (FP.ddiv (FP.l2d (d - n)) (FP.l2d d))), .second, .val (.double (FP.ddiv (FP.l2d (d - n)) (FP.l2d d))), .second, .val (.double (FP.ddiv (FP.l2d (d - k)) (FP.l2d d))), .second, .val (.int (1 : Int32)), .val (.int (1 : Int32)), .val (.int (1 : Int32)), .val (.int (1 : Int32)), .unset] []))) (fun t_ k_ => XS.icmpNo Xi9.here hx rfl (hb hby at_240) rfl (teq (rfl : _ = _)).2 k_) ?_
        refine Go.st (U := (Ti9.setTop (mkF m 244 #[.val (.long p0), .second, .val (.long p1), .second, .val (.long p2), .second, .val (.long p3), .second, .val (.long p4), .second, .val (.long d), .second, .val (.long n), .second, .val (.long k), .second, .val (.ref bi1), .val (.ref bi3), .val (.ref bi5), .val (.double (FP.ddiv (FP.l2d (d - n)) (FP.l2d d))), .second, .val (.double (FP.ddiv (FP.l2d (d - n)) (FP.l2d d))), .second, .val (.double (FP.ddiv (FP.l2d (d - k)) (FP.l2d d))), .second, .val (.int (1 : Int32)), .val (.int (1 : Int32)), .val (.int (1 : Int32)), .val (.int (1 : Int32)), .unset] [(.int (1 : Int32))]))) (fun t_ k_ => XS.iconst Xi9.here hx rfl (hb hby at_243) k_) ?_
        refine Go.st (U := (Ti9.setTop (mkF m 248 #[.val (.long p0), .second, .val (.long p1), .second, .val (.long p2), .second, .val (.long p3), .second, .val (.long p4), .second, .val (.long d), .second, .val (.long n), .second, .val (.long k), .second, .val (.ref bi1), .val (.ref bi3), .val (.ref bi5), .val (.double (FP.ddiv (FP.l2d (d - n)) (FP.l2d d))), .second, .val (.double (FP.ddiv (FP.l2d (d - n)) (FP.l2d d))), .second, .val (.double (FP.ddiv (FP.l2d (d - k)) (FP.l2d d))), .second, .val (.int (1 : Int32)), .val (.int (1 : Int32)), .val (.int (1 : Int32)), .val (.int (1 : Int32)), .unset] [(.int (1 : Int32))]))) (fun t_ k_ => XS.goto Xi9.here hx rfl (pc0 := 244) (pc' := 248) rfl (hb hby at_244) (by decide) (by decide) k_) ?_
        exact J248  
      · refine Go.st (U := (Ti9.setTop (mkF m 216 #[.val (.long p0), .second, .val (.long p1), .second, .val (.long p2), .second, .val (.long p3), .second, .val (.long p4), .second, .val (.long d), .second, .val (.long n), .second, .val (.long k), .second, .val (.ref bi1), .val (.ref bi3), .val (.ref bi5), .val (.double (FP.ddiv (FP.l2d (d - n)) (FP.l2d d))), .second, .val (.double (FP.ddiv (FP.l2d (d - n)) (FP.l2d d))), .second, .val (.double (FP.ddiv (FP.l2d (d - k)) (FP.l2d d))), .second, .val (.int (1 : Int32)), .val (.int (1 : Int32)), .val (.int (1 : Int32)), .val (.int (1 : Int32)), .unset] [(.long n)]))) (fun t_ k_ => XS.lload Xi9.here hx rfl (hb hby at_214) rfl k_) ?_
        refine Go.st (U := (Ti9.setTop (mkF m 218 #[.val (.long p0), .second, .val (.long p1), .second, .val (.long p2), .second, .val (.long p3), .second, .val (.long p4), .second, .val (.long d), .second, .val (.long n), .second, .val (.long k), .second, .val (.ref bi1), .val (.ref bi3), .val (.ref bi5), .val (.double (FP.ddiv (FP.l2d (d - n)) (FP.l2d d))), .second, .val (.double (FP.ddiv (FP.l2d (d - n)) (FP.l2d d))), .second, .val (.double (FP.ddiv (FP.l2d (d - k)) (FP.l2d d))), .second, .val (.int (1 : Int32)), .val (.int (1 : Int32)), .val (.int (1 : Int32)), .val (.int (1 : Int32)), .unset] [(.long k), (.long n)]))) (fun t_ k_ => XS.lload Xi9.here hx rfl (hb hby at_216) rfl k_) ?_
        refine Go.st (U := (Ti9.setTop (mkF m 219 #[.val (.long p0), .second, .val (.long p1), .second, .val (.long p2), .second, .val (.long p3), .second, .val (.long p4), .second, .val (.long d), .second, .val (.long n), .second, .val (.long k), .second, .val (.ref bi1), .val (.ref bi3), .val (.ref bi5), .val (.double (FP.ddiv (FP.l2d (d - n)) (FP.l2d d))), .second, .val (.double (FP.ddiv (FP.l2d (d - n)) (FP.l2d d))), .second, .val (.double (FP.ddiv (FP.l2d (d - k)) (FP.l2d d))), .second, .val (.int (1 : Int32)), .val (.int (1 : Int32)), .val (.int (1 : Int32)), .val (.int (1 : Int32)), .unset] [(.int (lcmpW n k))]))) (fun t_ k_ => XS.lcmp Xi9.here hx rfl (hb hby at_218) rfl k_) ?_
        refine Go.st (U := (Ti9.setTop (mkF m 226 #[.val (.long p0), .second, .val (.long p1), .second, .val (.long p2), .second, .val (.long p3), .second, .val (.long p4), .second, .val (.long d), .second, .val (.long n), .second, .val (.long k), .second, .val (.ref bi1), .val (.ref bi3), .val (.ref bi5), .val (.double (FP.ddiv (FP.l2d (d - n)) (FP.l2d d))), .second, .val (.double (FP.ddiv (FP.l2d (d - n)) (FP.l2d d))), .second, .val (.double (FP.ddiv (FP.l2d (d - k)) (FP.l2d d))), .second, .val (.int (1 : Int32)), .val (.int (1 : Int32)), .val (.int (1 : Int32)), .val (.int (1 : Int32)), .unset] []))) (fun t_ k_ => XS.ifYes Xi9.here hx rfl (pc0 := 219) (pc' := 226) rfl (hb hby at_219) rfl ((if0 _ _).trans (flt (fun q => hm (Jvm.OwnFl.lc_lt.mp q))).2.1) (by decide) (by decide) k_) ?_
        refine Go.st (U := (Ti9.setTop (mkF m 227 #[.val (.long p0), .second, .val (.long p1), .second, .val (.long p2), .second, .val (.long p3), .second, .val (.long p4), .second, .val (.long d), .second, .val (.long n), .second, .val (.long k), .second, .val (.ref bi1), .val (.ref bi3), .val (.ref bi5), .val (.double (FP.ddiv (FP.l2d (d - n)) (FP.l2d d))), .second, .val (.double (FP.ddiv (FP.l2d (d - n)) (FP.l2d d))), .second, .val (.double (FP.ddiv (FP.l2d (d - k)) (FP.l2d d))), .second, .val (.int (1 : Int32)), .val (.int (1 : Int32)), .val (.int (1 : Int32)), .val (.int (1 : Int32)), .unset] [(.int (0 : Int32))]))) (fun t_ k_ => XS.iconst Xi9.here hx rfl (hb hby at_226) k_) ?_
        refine Go.st (U := (Ti9.setTop (mkF m 229 #[.val (.long p0), .second, .val (.long p1), .second, .val (.long p2), .second, .val (.long p3), .second, .val (.long p4), .second, .val (.long d), .second, .val (.long n), .second, .val (.long k), .second, .val (.ref bi1), .val (.ref bi3), .val (.ref bi5), .val (.double (FP.ddiv (FP.l2d (d - n)) (FP.l2d d))), .second, .val (.double (FP.ddiv (FP.l2d (d - n)) (FP.l2d d))), .second, .val (.double (FP.ddiv (FP.l2d (d - k)) (FP.l2d d))), .second, .val (.int (1 : Int32)), .val (.int (1 : Int32)), .val (.int (1 : Int32)), .val (.int (1 : Int32)), .unset] [(.double (FP.ddiv (FP.l2d (d - n)) (FP.l2d d))), (.int (0 : Int32))]))) (fun t_ k_ => XS.dload Xi9.here hx rfl (hb hby at_227) rfl k_) ?_
        refine Go.st (U := (Ti9.setTop (mkF m 231 #[.val (.long p0), .second, .val (.long p1), .second, .val (.long p2), .second, .val (.long p3), .second, .val (.long p4), .second, .val (.long d), .second, .val (.long n), .second, .val (.long k), .second, .val (.ref bi1), .val (.ref bi3), .val (.ref bi5), .val (.double (FP.ddiv (FP.l2d (d - n)) (FP.l2d d))), .second, .val (.double (FP.ddiv (FP.l2d (d - n)) (FP.l2d d))), .second, .val (.double (FP.ddiv (FP.l2d (d - k)) (FP.l2d d))), .second, .val (.int (1 : Int32)), .val (.int (1 : Int32)), .val (.int (1 : Int32)), .val (.int (1 : Int32)), .unset] [(.double (FP.ddiv (FP.l2d (d - k)) (FP.l2d d))), (.double (FP.ddiv (FP.l2d (d - n)) (FP.l2d d))), (.int (0 : Int32))]))) (fun t_ k_ => XS.dload Xi9.here hx rfl (hb hby at_229) rfl k_) ?_
        refine Go.st (U := (Ti9.setTop (mkF m 232 #[.val (.long p0), .second, .val (.long p1), .second, .val (.long p2), .second, .val (.long p3), .second, .val (.long p4), .second, .val (.long d), .second, .val (.long n), .second, .val (.long k), .second, .val (.ref bi1), .val (.ref bi3), .val (.ref bi5), .val (.double (FP.ddiv (FP.l2d (d - n)) (FP.l2d d))), .second, .val (.double (FP.ddiv (FP.l2d (d - n)) (FP.l2d d))), .second, .val (.double (FP.ddiv (FP.l2d (d - k)) (FP.l2d d))), .second, .val (.int (1 : Int32)), .val (.int (1 : Int32)), .val (.int (1 : Int32)), .val (.int (1 : Int32)), .unset] [(.int (cmpValue (FP.dcmp (FP.ddiv (FP.l2d (d - n)) (FP.l2d d)) (FP.ddiv (FP.l2d (d - k)) (FP.l2d d))) .l)), (.int (0 : Int32))]))) (fun t_ k_ => XS.dcmpS Xi9.here hx rfl (hb hby at_231) rfl rfl k_) ?_
        refine Go.st (U := (Ti9.setTop (mkF m 239 #[.val (.long p0), .second, .val (.long p1), .second, .val (.long p2), .second, .val (.long p3), .second, .val (.long p4), .second, .val (.long d), .second, .val (.long n), .second, .val (.long k), .second, .val (.ref bi1), .val (.ref bi3), .val (.ref bi5), .val (.double (FP.ddiv (FP.l2d (d - n)) (FP.l2d d))), .second, .val (.double (FP.ddiv (FP.l2d (d - n)) (FP.l2d d))), .second, .val (.double (FP.ddiv (FP.l2d (d - k)) (FP.l2d d))), .second, .val (.int (1 : Int32)), .val (.int (1 : Int32)), .val (.int (1 : Int32)), .val (.int (1 : Int32)), .unset] [(.int (0 : Int32))]))) (fun t_ k_ => XS.ifYes Xi9.here hx rfl (pc0 := 232) (pc' := 239) rfl (hb hby at_232) rfl ((if0 _ _).trans (flt ((own_m B_d B_n B_k).2 hm)).2.2.2) (by decide) (by decide) k_) ?_
        refine Go.st (U := (Ti9.setTop (mkF m 240 #[.val (.long p0), .second, .val (.long p1), .second, .val (.long p2), .second, .val (.long p3), .second, .val (.long p4), .second, .val (.long d), .second, .val (.long n), .second, .val (.long k), .second, .val (.ref bi1), .val (.ref bi3), .val (.ref bi5), .val (.double (FP.ddiv (FP.l2d (d - n)) (FP.l2d d))), .second, .val (.double (FP.ddiv (FP.l2d (d - n)) (FP.l2d d))), .second, .val (.double (FP.ddiv (FP.l2d (d - k)) (FP.l2d d))), .second, .val (.int (1 : Int32)), .val (.int (1 : Int32)), .val (.int (1 : Int32)), .val (.int (1 : Int32)), .unset] [(.int (0 : Int32)), (.int (0 : Int32))]))) (fun t_ k_ => XS.iconst Xi9.here hx rfl (hb hby at_239) k_) ?_
        refine Go.st (U := (Ti9.setTop (mkF m 243 #[.val (.long p0), .second, .val (.long p1), .second, .val (.long p2), .second, .val (.long p3), .second, .val (.long p4), .second, .val (.long d), .second, .val (.long n), .second, .val (.long k), .second, .val (.ref bi1), .val (.ref bi3), .val (.ref bi5), .val (.double (FP.ddiv (FP.l2d (d - n)) (FP.l2d d))), .second, .val (.double (FP.ddiv (FP.l2d (d - n)) (FP.l2d d))), .second, .val (.double (FP.ddiv (FP.l2d (d - k)) (FP.l2d d))), .second, .val (.int (1 : Int32)), .val (.int (1 : Int32)), .val (.int (1 : Int32)), .val (.int (1 : Int32)), .unset] []))) (fun t_ k_ => XS.icmpNo Xi9.here hx rfl (hb hby at_240) rfl (teq (rfl : _ = _)).2 k_) ?_
        refine Go.st (U := (Ti9.setTop (mkF m 244 #[.val (.long p0), .second, .val (.long p1), .second, .val (.long p2), .second, .val (.long p3), .second, .val (.long p4), .second, .val (.long d), .second, .val (.long n), .second, .val (.long k), .second, .val (.ref bi1), .val (.ref bi3), .val (.ref bi5), .val (.double (FP.ddiv (FP.l2d (d - n)) (FP.l2d d))), .second, .val (.double (FP.ddiv (FP.l2d (d - n)) (FP.l2d d))), .second, .val (.double (FP.ddiv (FP.l2d (d - k)) (FP.l2d d))), .second, .val (.int (1 : Int32)), .val (.int (1 : Int32)), .val (.int (1 : Int32)), .val (.int (1 : Int32)), .unset] [(.int (1 : Int32))]))) (fun t_ k_ => XS.iconst Xi9.here hx rfl (hb hby at_243) k_) ?_
        refine Go.st (U := (Ti9.setTop (mkF m 248 #[.val (.long p0), .second, .val (.long p1), .second, .val (.long p2), .second, .val (.long p3), .second, .val (.long p4), .second, .val (.long d), .second, .val (.long n), .second, .val (.long k), .second, .val (.ref bi1), .val (.ref bi3), .val (.ref bi5), .val (.double (FP.ddiv (FP.l2d (d - n)) (FP.l2d d))), .second, .val (.double (FP.ddiv (FP.l2d (d - n)) (FP.l2d d))), .second, .val (.double (FP.ddiv (FP.l2d (d - k)) (FP.l2d d))), .second, .val (.int (1 : Int32)), .val (.int (1 : Int32)), .val (.int (1 : Int32)), .val (.int (1 : Int32)), .unset] [(.int (1 : Int32))]))) (fun t_ k_ => XS.goto Xi9.here hx rfl (pc0 := 244) (pc' := 248) rfl (hb hby at_244) (by decide) (by decide) k_) ?_
        exact J248  
    by_cases hu : n.toInt = 0
    · refine Go.st (U := (Ti9.setTop (mkF m 182 #[.val (.long p0), .second, .val (.long p1), .second, .val (.long p2), .second, .val (.long p3), .second, .val (.long p4), .second, .val (.long d), .second, .val (.long n), .second, .val (.long k), .second, .val (.ref bi1), .val (.ref bi3), .val (.ref bi5), .val (.double (FP.ddiv (FP.l2d (d - n)) (FP.l2d d))), .second, .val (.double (FP.ddiv (FP.l2d (d - n)) (FP.l2d d))), .second, .val (.double (FP.ddiv (FP.l2d (d - k)) (FP.l2d d))), .second, .val (.int (1 : Int32)), .val (.int (1 : Int32)), .val (.int (1 : Int32)), .unset, .unset] [(.double (FP.ddiv (FP.l2d (d - n)) (FP.l2d d)))]))) (fun t_ k_ => XS.dload Xi9.here hx rfl (hb hby at_180) rfl k_) ?_
      refine Go.st (U := (Ti9.setTop (mkF m 183 #[.val (.long p0), .second, .val (.long p1), .second, .val (.long p2), .second, .val (.long p3), .second, .val (.long p4), .second, .val (.long d), .second, .val (.long n), .second, .val (.long k), .second, .val (.ref bi1), .val (.ref bi3), .val (.ref bi5), .val (.double (FP.ddiv (FP.l2d (d - n)) (FP.l2d d))), .second, .val (.double (FP.ddiv (FP.l2d (d - n)) (FP.l2d d))), .second, .val (.double (FP.ddiv (FP.l2d (d - k)) (FP.l2d d))), .second, .val (.int (1 : Int32)), .val (.int (1 : Int32)), .val (.int (1 : Int32)), .unset, .unset] [(.double (4607182418800017408 : UInt64)), (.double (FP.ddiv (FP.l2d (d - n)) (FP.l2d d)))]))) (fun t_ k_ => XS.dconst1 Xi9.here hx rfl (hb hby at_182) rfl k_) ?_
      refine Go.st (U := (Ti9.setTop (mkF m 184 #[.val (.long p0), .second, .val (.long p1), .second, .val (.long p2), .second, .val (.long p3), .second, .val (.long p4), .second, .val (.long d), .second, .val (.long n), .second, .val (.long k), .second, .val (.ref bi1), .val (.ref bi3), .val (.ref bi5), .val (.double (FP.ddiv (FP.l2d (d - n)) (FP.l2d d))), .second, .val (.double (FP.ddiv (FP.l2d (d - n)) (FP.l2d d))), .second, .val (.double (FP.ddiv (FP.l2d (d - k)) (FP.l2d d))), .second, .val (.int (1 : Int32)), .val (.int (1 : Int32)), .val (.int (1 : Int32)), .unset, .unset] [(.int (cmpValue (FP.dcmp (FP.ddiv (FP.l2d (d - n)) (FP.l2d d)) (4607182418800017408 : UInt64)) .l))]))) (fun t_ k_ => XS.dcmpS Xi9.here hx rfl (hb hby at_183) rfl rfl k_) ?_
      refine Go.st (U := (Ti9.setTop (mkF m 187 #[.val (.long p0), .second, .val (.long p1), .second, .val (.long p2), .second, .val (.long p3), .second, .val (.long p4), .second, .val (.long d), .second, .val (.long n), .second, .val (.long k), .second, .val (.ref bi1), .val (.ref bi3), .val (.ref bi5), .val (.double (FP.ddiv (FP.l2d (d - n)) (FP.l2d d))), .second, .val (.double (FP.ddiv (FP.l2d (d - n)) (FP.l2d d))), .second, .val (.double (FP.ddiv (FP.l2d (d - k)) (FP.l2d d))), .second, .val (.int (1 : Int32)), .val (.int (1 : Int32)), .val (.int (1 : Int32)), .unset, .unset] []))) (fun t_ k_ => XS.ifNo Xi9.here hx rfl (hb hby at_184) rfl ((if0 _ _).trans (teq ((own_u B_d B_n).1 hu)).2) k_) ?_
      refine Go.st (U := (Ti9.setTop (mkF m 188 #[.val (.long p0), .second, .val (.long p1), .second, .val (.long p2), .second, .val (.long p3), .second, .val (.long p4), .second, .val (.long d), .second, .val (.long n), .second, .val (.long k), .second, .val (.ref bi1), .val (.ref bi3), .val (.ref bi5), .val (.double (FP.ddiv (FP.l2d (d - n)) (FP.l2d d))), .second, .val (.double (FP.ddiv (FP.l2d (d - n)) (FP.l2d d))), .second, .val (.double (FP.ddiv (FP.l2d (d - k)) (FP.l2d d))), .second, .val (.int (1 : Int32)), .val (.int (1 : Int32)), .val (.int (1 : Int32)), .unset, .unset] [(.int (1 : Int32))]))) (fun t_ k_ => XS.iconst Xi9.here hx rfl (hb hby at_187) k_) ?_
      refine Go.st (U := (Ti9.setTop (mkF m 192 #[.val (.long p0), .second, .val (.long p1), .second, .val (.long p2), .second, .val (.long p3), .second, .val (.long p4), .second, .val (.long d), .second, .val (.long n), .second, .val (.long k), .second, .val (.ref bi1), .val (.ref bi3), .val (.ref bi5), .val (.double (FP.ddiv (FP.l2d (d - n)) (FP.l2d d))), .second, .val (.double (FP.ddiv (FP.l2d (d - n)) (FP.l2d d))), .second, .val (.double (FP.ddiv (FP.l2d (d - k)) (FP.l2d d))), .second, .val (.int (1 : Int32)), .val (.int (1 : Int32)), .val (.int (1 : Int32)), .unset, .unset] [(.int (1 : Int32))]))) (fun t_ k_ => XS.goto Xi9.here hx rfl (pc0 := 188) (pc' := 192) rfl (hb hby at_188) (by decide) (by decide) k_) ?_
      refine Go.st (U := (Ti9.setTop (mkF m 194 #[.val (.long p0), .second, .val (.long p1), .second, .val (.long p2), .second, .val (.long p3), .second, .val (.long p4), .second, .val (.long d), .second, .val (.long n), .second, .val (.long k), .second, .val (.ref bi1), .val (.ref bi3), .val (.ref bi5), .val (.double (FP.ddiv (FP.l2d (d - n)) (FP.l2d d))), .second, .val (.double (FP.ddiv (FP.l2d (d - n)) (FP.l2d d))), .second, .val (.double (FP.ddiv (FP.l2d (d - k)) (FP.l2d d))), .second, .val (.int (1 : Int32)), .val (.int (1 : Int32)), .val (.int (1 : Int32)), .unset, .unset] [(.long n), (.int (1 : Int32))]))) (fun t_ k_ => XS.lload Xi9.here hx rfl (hb hby at_192) rfl k_) ?_
      refine Go.st (U := (Ti9.setTop (mkF m 195 #[.val (.long p0), .second, .val (.long p1), .second, .val (.long p2), .second, .val (.long p3), .second, .val (.long p4), .second, .val (.long d), .second, .val (.long n), .second, .val (.long k), .second, .val (.ref bi1), .val (.ref bi3), .val (.ref bi5), .val (.double (FP.ddiv (FP.l2d (d - n)) (FP.l2d d))), .second, .val (.double (FP.ddiv (FP.l2d (d - n)) (FP.l2d d))), .second, .val (.double (FP.ddiv (FP.l2d (d - k)) (FP.l2d d))), .second, .val (.int (1 : Int32)), .val (.int (1 : Int32)), .val (.int (1 : Int32)), .unset, .unset] [(.long (0 : Int64)), (.long n), (.int (1 : Int32))]))) (fun t_ k_ => XS.lconst Xi9.here hx rfl (hb hby at_194) k_) ?_
      refine Go.st (U := (Ti9.setTop (mkF m 196 #[.val (.long p0), .second, .val (.long p1), .second, .val (.long p2), .second, .val (.long p3), .second, .val (.long p4), .second, .val (.long d), .second, .val (.long n), .second, .val (.long k), .second, .val (.ref bi1), .val (.ref bi3), .val (.ref bi5), .val (.double (FP.ddiv (FP.l2d (d - n)) (FP.l2d d))), .second, .val (.double (FP.ddiv (FP.l2d (d - n)) (FP.l2d d))), .second, .val (.double (FP.ddiv (FP.l2d (d - k)) (FP.l2d d))), .second, .val (.int (1 : Int32)), .val (.int (1 : Int32)), .val (.int (1 : Int32)), .unset, .unset] [(.int (lcmpW n (0 : Int64))), (.int (1 : Int32))]))) (fun t_ k_ => XS.lcmp Xi9.here hx rfl (hb hby at_195) rfl k_) ?_
      refine Go.st (U := (Ti9.setTop (mkF m 199 #[.val (.long p0), .second, .val (.long p1), .second, .val (.long p2), .second, .val (.long p3), .second, .val (.long p4), .second, .val (.long d), .second, .val (.long n), .second, .val (.long k), .second, .val (.ref bi1), .val (.ref bi3), .val (.ref bi5), .val (.double (FP.ddiv (FP.l2d (d - n)) (FP.l2d d))), .second, .val (.double (FP.ddiv (FP.l2d (d - n)) (FP.l2d d))), .second, .val (.double (FP.ddiv (FP.l2d (d - k)) (FP.l2d d))), .second, .val (.int (1 : Int32)), .val (.int (1 : Int32)), .val (.int (1 : Int32)), .unset, .unset] [(.int (1 : Int32))]))) (fun t_ k_ => XS.ifNo Xi9.here hx rfl (hb hby at_196) rfl ((if0 _ _).trans (teq (Jvm.OwnFl.lc_eq.mpr (hu.trans Int64.toInt_zero.symm))).2) k_) ?_
      refine Go.st (U := (Ti9.setTop (mkF m 200 #[.val (.long p0), .second, .val (.long p1), .second, .val (.long p2), .second, .val (.long p3), .second, .val (.long p4), .second, .val (.long d), .second, .val (.long n), .second, .val (.long k), .second, .val (.ref bi1), .val (.ref bi3), .val (.ref bi5), .val (.double (FP.ddiv (FP.l2d (d - n)) (FP.l2d d))), .second, .val (.double (FP.ddiv (FP.l2d (d - n)) (FP.l2d d))), .second, .val (.double (FP.ddiv (FP.l2d (d - k)) (FP.l2d d))), .second, .val (.int (1 : Int32)), .val (.int (1 : Int32)), .val (.int (1 : Int32)), .unset, .unset] [(.int (1 : Int32)), (.int (1 : Int32))]))) (fun t_ k_ => XS.iconst Xi9.here hx rfl (hb hby at_199) k_) ?_
      refine Go.st (U := (Ti9.setTop (mkF m 204 #[.val (.long p0), .second, .val (.long p1), .second, .val (.long p2), .second, .val (.long p3), .second, .val (.long p4), .second, .val (.long d), .second, .val (.long n), .second, .val (.long k), .second, .val (.ref bi1), .val (.ref bi3), .val (.ref bi5), .val (.double (FP.ddiv (FP.l2d (d - n)) (FP.l2d d))), .second, .val (.double (FP.ddiv (FP.l2d (d - n)) (FP.l2d d))), .second, .val (.double (FP.ddiv (FP.l2d (d - k)) (FP.l2d d))), .second, .val (.int (1 : Int32)), .val (.int (1 : Int32)), .val (.int (1 : Int32)), .unset, .unset] [(.int (1 : Int32)), (.int (1 : Int32))]))) (fun t_ k_ => XS.goto Xi9.here hx rfl (pc0 := 200) (pc' := 204) rfl (hb hby at_200) (by decide) (by decide) k_) ?_
      refine Go.st (U := (Ti9.setTop (mkF m 207 #[.val (.long p0), .second, .val (.long p1), .second, .val (.long p2), .second, .val (.long p3), .second, .val (.long p4), .second, .val (.long d), .second, .val (.long n), .second, .val (.long k), .second, .val (.ref bi1), .val (.ref bi3), .val (.ref bi5), .val (.double (FP.ddiv (FP.l2d (d - n)) (FP.l2d d))), .second, .val (.double (FP.ddiv (FP.l2d (d - n)) (FP.l2d d))), .second, .val (.double (FP.ddiv (FP.l2d (d - k)) (FP.l2d d))), .second, .val (.int (1 : Int32)), .val (.int (1 : Int32)), .val (.int (1 : Int32)), .unset, .unset] []))) (fun t_ k_ => XS.icmpNo Xi9.here hx rfl (hb hby at_204) rfl (teq (rfl : _ = _)).2 k_) ?_
      refine Go.st (U := (Ti9.setTop (mkF m 208 #[.val (.long p0), .second, .val (.long p1), .second, .val (.long p2), .second, .val (.long p3), .second, .val (.long p4), .second, .val (.long d), .second, .val (.long n), .second, .val (.long k), .second, .val (.ref bi1), .val (.ref bi3), .val (.ref bi5), .val (.double (FP.ddiv (FP.l2d (d - n)) (FP.l2d d))), .second, .val (.double (FP.ddiv (FP.l2d (d - n)) (FP.l2d d))), .second, .val (.double (FP.ddiv (FP.l2d (d - k)) (FP.l2d d))), .second, .val (.int (1 : Int32)), .val (.int (1 : Int32)), .val (.int (1 : Int32)), .unset, .unset] [(.int (1 : Int32))]))) (fun t_ k_ => XS.iconst Xi9.here hx rfl (hb hby at_207) k_) ?_
      refine Go.st (U := (Ti9.setTop (mkF m 212 #[.val (.long p0), .second, .val (.long p1), .second, .val (.long p2), .second, .val (.long p3), .second, .val (.long p4), .second, .val (.long d), .second, .val (.long n), .second, .val (.long k), .second, .val (.ref bi1), .val (.ref bi3), .val (.ref bi5), .val (.double (FP.ddiv (FP.l2d (d - n)) (FP.l2d d))), .second, .val (.double (FP.ddiv (FP.l2d (d - n)) (FP.l2d d))), .second, .val (.double (FP.ddiv (FP.l2d (d - k)) (FP.l2d d))), .second, .val (.int (1 : Int32)), .val (.int (1 : Int32)), .val (.int (1 : Int32)), .unset, .unset] [(.int (1 : Int32))]))) (fun t_ k_ => XS.goto Xi9.here hx rfl (pc0 := 208) (pc' := 212) rfl (hb hby at_208) (by decide) (by decide) k_) ?_
      exact J212  
    · refine Go.st (U := (Ti9.setTop (mkF m 182 #[.val (.long p0), .second, .val (.long p1), .second, .val (.long p2), .second, .val (.long p3), .second, .val (.long p4), .second, .val (.long d), .second, .val (.long n), .second, .val (.long k), .second, .val (.ref bi1), .val (.ref bi3), .val (.ref bi5), .val (.double (FP.ddiv (FP.l2d (d - n)) (FP.l2d d))), .second, .val (.double (FP.ddiv (FP.l2d (d - n)) (FP.l2d d))), .second, .val (.double (FP.ddiv (FP.l2d (d - k)) (FP.l2d d))), .second, .val (.int (1 : Int32)), .val (.int (1 : Int32)), .val (.int (1 : Int32)), .unset, .unset] [(.double (FP.ddiv (FP.l2d (d - n)) (FP.l2d d)))]))) (fun t_ k_ => XS.dload Xi9.here hx rfl (hb hby at_180) rfl k_) ?_
      refine Go.st (U := (Ti9.setTop (mkF m 183 #[.val (.long p0), .second, .val (.long p1), .second, .val (.long p2), .second, .val (.long p3), .second, .val (.long p4), .second, .val (.long d), .second, .val (.long n), .second, .val (.long k), .second, .val (.ref bi1), .val (.ref bi3), .val (.ref bi5), .val (.double (FP.ddiv (FP.l2d (d - n)) (FP.l2d d))), .second, .val (.double (FP.ddiv (FP.l2d (d - n)) (FP.l2d d))), .second, .val (.double (FP.ddiv (FP.l2d (d - k)) (FP.l2d d))), .second, .val (.int (1 : Int32)), .val (.int (1 : Int32)), .val (.int (1 : Int32)), .unset, .unset] [(.double (4607182418800017408 : UInt64)), (.double (FP.ddiv (FP.l2d (d - n)) (FP.l2d d)))]))) (fun t_ k_ => XS.dconst1 Xi9.here hx rfl (hb hby at_182) rfl k_) ?_
      refine Go.st (U := (Ti9.setTop (mkF m 184 #[.val (.long p0), .second, .val (.long p1), .second, .val (.long p2), .second, .val (.long p3), .second, .val (.long p4), .second, .val (.long d), .second, .val (.long n), .second, .val (.long k), .second, .val (.ref bi1), .val (.ref bi3), .val (.ref bi5), .val (.double (FP.ddiv (FP.l2d (d - n)) (FP.l2d d))), .second, .val (.double (FP.ddiv (FP.l2d (d - n)) (FP.l2d d))), .second, .val (.double (FP.ddiv (FP.l2d (d - k)) (FP.l2d d))), .second, .val (.int (1 : Int32)), .val (.int (1 : Int32)), .val (.int (1 : Int32)), .unset, .unset] [(.int (cmpValue (FP.dcmp (FP.ddiv (FP.l2d (d - n)) (FP.l2d d)) (4607182418800017408 : UInt64)) .l))]))) (fun t_ k_ => XS.dcmpS Xi9.here hx rfl (hb hby at_183) rfl rfl k_) ?_
      refine Go.st (U := (Ti9.setTop (mkF m 191 #[.val (.long p0), .second, .val (.long p1), .second, .val (.long p2), .second, .val (.long p3), .second, .val (.long p4), .second, .val (.long d), .second, .val (.long n), .second, .val (.long k), .second, .val (.ref bi1), .val (.ref bi3), .val (.ref bi5), .val (.double (FP.ddiv (FP.l2d (d - n)) (FP.l2d d))), .second, .val (.double (FP.ddiv (FP.l2d (d - n)) (FP.l2d d))), .second, .val (.double (FP.ddiv (FP.l2d (d - k)) (FP.l2d d))), .second, .val (.int (1 : Int32)), .val (.int (1 : Int32)), .val (.int (1 : Int32)), .unset, .unset] []))) (fun t_ k_ => XS.ifYes Xi9.here hx rfl (pc0 := 184) (pc' := 191) rfl (hb hby at_184) rfl ((if0 _ _).trans (feq ((own_u B_d B_n).2 hu)).2) (by decide) (by decide) k_) ?_
      refine Go.st (U := (Ti9.setTop (mkF m 192 #[.val (.long p0), .second, .val (.long p1), .second, .val (.long p2), .second, .val (.long p3), .second, .val (.long p4), .second, .val (.long d), .second, .val (.long n), .second, .val (.long k), .second, .val (.ref bi1), .val (.ref bi3), .val (.ref bi5), .val (.double (FP.ddiv (FP.l2d (d - n)) (FP.l2d d))), .second, .val (.double (FP.ddiv (FP.l2d (d - n)) (FP.l2d d))), .second, .val (.double (FP.ddiv (FP.l2d (d - k)) (FP.l2d d))), .second, .val (.int (1 : Int32)), .val (.int (1 : Int32)), .val (.int (1 : Int32)), .unset, .unset] [(.int (0 : Int32))]))) (fun t_ k_ => XS.iconst Xi9.here hx rfl (hb hby at_191) k_) ?_
      refine Go.st (U := (Ti9.setTop (mkF m 194 #[.val (.long p0), .second, .val (.long p1), .second, .val (.long p2), .second, .val (.long p3), .second, .val (.long p4), .second, .val (.long d), .second, .val (.long n), .second, .val (.long k), .second, .val (.ref bi1), .val (.ref bi3), .val (.ref bi5), .val (.double (FP.ddiv (FP.l2d (d - n)) (FP.l2d d))), .second, .val (.double (FP.ddiv (FP.l2d (d - n)) (FP.l2d d))), .second, .val (.double (FP.ddiv (FP.l2d (d - k)) (FP.l2d d))), .second, .val (.int (1 : Int32)), .val (.int (1 : Int32)), .val (.int (1 : Int32)), .unset, .unset] [(.long n), (.int (0 : Int32))]))) (fun t_ k_ => XS.lload Xi9.here hx rfl (hb hby at_192) rfl k_) ?_
      refine Go.st (U := (Ti9.setTop (mkF m 195 #[.val (.long p0), .second, .val (.long p1), .second, .val (.long p2), .second, .val (.long p3), .second, .val (.long p4), .second, .val (.long d), .second, .val (.long n), .second, .val (.long k), .second, .val (.ref bi1), .val (.ref bi3), .val (.ref bi5), .val (.double (FP.ddiv (FP.l2d (d - n)) (FP.l2d d))), .second, .val (.double (FP.ddiv (FP.l2d (d - n)) (FP.l2d d))), .second, .val (.double (FP.ddiv (FP.l2d (d - k)) (FP.l2d d))), .second, .val (.int (1 : Int32)), .val (.int (1 : Int32)), .val (.int (1 : Int32)), .unset, .unset] [(.long (0 : Int64)), (.long n), (.int (0 : Int32))]))) (fun t_ k_ => XS.lconst Xi9.here hx rfl (hb hby at_194) k_) ?_
      refine Go.st (U := (Ti9.setTop (mkF m 196 #[.val (.long p0), .second, .val (.long p1), .second, .val (.long p2), .second, .val (.long p3), .second, .val (.long p4), .second, .val (.long d), .second, .val (.long n), .second, .val (.long k), .second, .val (.ref bi1), .val (.ref bi3), .val (.ref bi5), .val (.double (FP.ddiv (FP.l2d (d - n)) (FP.l2d d))), .second, .val (.double (FP.ddiv (FP.l2d (d - n)) (FP.l2d d))), .second, .val (.double (FP.ddiv (FP.l2d (d - k)) (FP.l2d d))), .second, .val (.int (1 : Int32)), .val (.int (1 : Int32)), .val (.int (1 : Int32)), .unset, .unset] [(.int (lcmpW n (0 : Int64))), (.int (0 : Int32))]))) (fun t_ k_ => XS.lcmp Xi9.here hx rfl (hb hby at_195) rfl k_) ?_
      refine Go.st (U := (Ti9.setTop (mkF m 203 #[.val (.long p0), .second, .val (.long p1), .second, .val (.long p2), .second, .val (.long p3), .second, .val (.long p4), .second, .val (.long d), .second, .val (.long n), .second, .val (.long k), .second, .val (.ref bi1), .val (.ref bi3), .val (.ref bi5), .val (.double (FP.ddiv (FP.l2d (d - n)) (FP.l2d d))), .second, .val (.double (FP.ddiv (FP.l2d (d - n)) (FP.l2d d))), .second, .val (.double (FP.ddiv (FP.l2d (d - k)) (FP.l2d d))), .second, .val (.int (1 : Int32)), .val (.int (1 : Int32)), .val (.int (1 : Int32)), .unset, .unset] [(.int (0 : Int32))]))) (fun t_ k_ => XS.ifYes Xi9.here hx rfl (pc0 := 196) (pc' := 203) rfl (hb hby at_196) rfl ((if0 _ _).trans (feq (fun q => hu ((Jvm.OwnFl.lc_eq.mp q).trans Int64.toInt_zero))).2) (by decide) (by decide) k_) ?_
      refine Go.st (U := (Ti9.setTop (mkF m 204 #[.val (.long p0), .second, .val (.long p1), .second, .val (.long p2), .second, .val (.long p3), .second, .val (.long p4), .second, .val (.long d), .second, .val (.long n), .second, .val (.long k), .second, .val (.ref bi1), .val (.ref bi3), .val (.ref bi5), .val (.double (FP.ddiv (FP.l2d (d - n)) (FP.l2d d))), .second, .val (.double (FP.ddiv (FP.l2d (d - n)) (FP.l2d d))), .second, .val (.double (FP.ddiv (FP.l2d (d - k)) (FP.l2d d))), .second, .val (.int (1 : Int32)), .val (.int (1 : Int32)), .val (.int (1 : Int32)), .unset, .unset] [(.int (0 : Int32)), (.int (0 : Int32))]))) (fun t_ k_ => XS.iconst Xi9.here hx rfl (hb hby at_203) k_) ?_
      refine Go.st (U := (Ti9.setTop (mkF m 207 #[.val (.long p0), .second, .val (.long p1), .second, .val (.long p2), .second, .val (.long p3), .second, .val (.long p4), .second, .val (.long d), .second, .val (.long n), .second, .val (.long k), .second, .val (.ref bi1), .val (.ref bi3), .val (.ref bi5), .val (.double (FP.ddiv (FP.l2d (d - n)) (FP.l2d d))), .second, .val (.double (FP.ddiv (FP.l2d (d - n)) (FP.l2d d))), .second, .val (.double (FP.ddiv (FP.l2d (d - k)) (FP.l2d d))), .second, .val (.int (1 : Int32)), .val (.int (1 : Int32)), .val (.int (1 : Int32)), .unset, .unset] []))) (fun t_ k_ => XS.icmpNo Xi9.here hx rfl (hb hby at_204) rfl (teq (rfl : _ = _)).2 k_) ?_
      refine Go.st (U := (Ti9.setTop (mkF m 208 #[.val (.long p0), .second, .val (.long p1), .second, .val (.long p2), .second, .val (.long p3), .second, .val (.long p4), .second, .val (.long d), .second, .val (.long n), .second, .val (.long k), .second, .val (.ref bi1), .val (.ref bi3), .val (.ref bi5), .val (.double (FP.ddiv (FP.l2d (d - n)) (FP.l2d d))), .second, .val (.double (FP.ddiv (FP.l2d (d - n)) (FP.l2d d))), .second, .val (.double (FP.ddiv (FP.l2d (d - k)) (FP.l2d d))), .second, .val (.int (1 : Int32)), .val (.int (1 : Int32)), .val (.int (1 : Int32)), .unset, .unset] [(.int (1 : Int32))]))) (fun t_ k_ => XS.iconst Xi9.here hx rfl (hb hby at_207) k_) ?_
      refine Go.st (U := (Ti9.setTop (mkF m 212 #[.val (.long p0), .second, .val (.long p1), .second, .val (.long p2), .second, .val (.long p3), .second, .val (.long p4), .second, .val (.long d), .second, .val (.long n), .second, .val (.long k), .second, .val (.ref bi1), .val (.ref bi3), .val (.ref bi5), .val (.double (FP.ddiv (FP.l2d (d - n)) (FP.l2d d))), .second, .val (.double (FP.ddiv (FP.l2d (d - n)) (FP.l2d d))), .second, .val (.double (FP.ddiv (FP.l2d (d - k)) (FP.l2d d))), .second, .val (.int (1 : Int32)), .val (.int (1 : Int32)), .val (.int (1 : Int32)), .unset, .unset] [(.int (1 : Int32))]))) (fun t_ k_ => XS.goto Xi9.here hx rfl (pc0 := 208) (pc' := 212) rfl (hb hby at_208) (by decide) (by decide) k_) ?_
      exact J212  
  by_cases hz : n.toInt = d.toInt
  · refine Go.st (U := (Ti9.setTop (mkF m 147 #[.val (.long p0), .second, .val (.long p1), .second, .val (.long p2), .second, .val (.long p3), .second, .val (.long p4), .second, .val (.long d), .second, .val (.long n), .second, .val (.long k), .second, .val (.ref bi1), .val (.ref bi3), .val (.ref bi5), .val (.double (FP.ddiv (FP.l2d (d - n)) (FP.l2d d))), .second, .val (.double (FP.ddiv (FP.l2d (d - n)) (FP.l2d d))), .second, .val (.double (FP.ddiv (FP.l2d (d - k)) (FP.l2d d))), .second, .val (.int (1 : Int32)), .val (.int (1 : Int32)), .unset, .unset, .unset] [(.double (FP.ddiv (FP.l2d (d - n)) (FP.l2d d)))]))) (fun t_ k_ => XS.dload Xi9.here hx rfl (hb hby at_145) rfl k_) ?_
    refine Go.st (U := (Ti9.setTop (mkF m 148 #[.val (.long p0), .second, .val (.long p1), .second, .val (.long p2), .second, .val (.long p3), .second, .val (.long p4), .second, .val (.long d), .second, .val (.long n), .second, .val (.long k), .second, .val (.ref bi1), .val (.ref bi3), .val (.ref bi5), .val (.double (FP.ddiv (FP.l2d (d - n)) (FP.l2d d))), .second, .val (.double (FP.ddiv (FP.l2d (d - n)) (FP.l2d d))), .second, .val (.double (FP.ddiv (FP.l2d (d - k)) (FP.l2d d))), .second, .val (.int (1 : Int32)), .val (.int (1 : Int32)), .unset, .unset, .unset] [(.double (0 : UInt64)), (.double (FP.ddiv (FP.l2d (d - n)) (FP.l2d d)))]))) (fun t_ k_ => XS.dconst0 Xi9.here hx rfl (hb hby at_147) rfl k_) ?_
    refine Go.st (U := (Ti9.setTop (mkF m 149 #[.val (.long p0), .second, .val (.long p1), .second, .val (.long p2), .second, .val (.long p3), .second, .val (.long p4), .second, .val (.long d), .second, .val (.long n), .second, .val (.long k), .second, .val (.ref bi1), .val (.ref bi3), .val (.ref bi5), .val (.double (FP.ddiv (FP.l2d (d - n)) (FP.l2d d))), .second, .val (.double (FP.ddiv (FP.l2d (d - n)) (FP.l2d d))), .second, .val (.double (FP.ddiv (FP.l2d (d - k)) (FP.l2d d))), .second, .val (.int (1 : Int32)), .val (.int (1 : Int32)), .unset, .unset, .unset] [(.int (cmpValue (FP.dcmp (FP.ddiv (FP.l2d (d - n)) (FP.l2d d)) (0 : UInt64)) .l))]))) (fun t_ k_ => XS.dcmpS Xi9.here hx rfl (hb hby at_148) rfl rfl k_) ?_
    refine Go.st (U := (Ti9.setTop (mkF m 152 #[.val (.long p0), .second, .val (.long p1), .second, .val (.long p2), .second, .val (.long p3), .second, .val (.long p4), .second, .val (.long d), .second, .val (.long n), .second, .val (.long k), .second, .val (.ref bi1), .val (.ref bi3), .val (.ref bi5), .val (.double (FP.ddiv (FP.l2d (d - n)) (FP.l2d d))), .second, .val (.double (FP.ddiv (FP.l2d (d - n)) (FP.l2d d))), .second, .val (.double (FP.ddiv (FP.l2d (d - k)) (FP.l2d d))), .second, .val (.int (1 : Int32)), .val (.int (1 : Int32)), .unset, .unset, .unset] []))) (fun t_ k_ => XS.ifNo Xi9.here hx rfl (hb hby at_149) rfl ((if0 _ _).trans (teq ((own_z B_d B_n).1 hz)).2) k_) ?_
    refine Go.st (U := (Ti9.setTop (mkF m 153 #[.val (.long p0), .second, .val (.long p1), .second, .val (.long p2), .second, .val (.long p3), .second, .val (.long p4), .second, .val (.long d), .second, .val (.long n), .second, .val (.long k), .second, .val (.ref bi1), .val (.ref bi3), .val (.ref bi5), .val (.double (FP.ddiv (FP.l2d (d - n)) (FP.l2d d))), .second, .val (.double (FP.ddiv (FP.l2d (d - n)) (FP.l2d d))), .second, .val (.double (FP.ddiv (FP.l2d (d - k)) (FP.l2d d))), .second, .val (.int (1 : Int32)), .val (.int (1 : Int32)), .unset, .unset, .unset] [(.int (1 : Int32))]))) (fun t_ k_ => XS.iconst Xi9.here hx rfl (hb hby at_152) k_) ?_
    refine Go.st (U := (Ti9.setTop (mkF m 157 #[.val (.long p0), .second, .val (.long p1), .second, .val (.long p2), .second, .val (.long p3), .second, .val (.long p4), .second, .val (.long d), .second, .val (.long n), .second, .val (.long k), .second, .val (.ref bi1), .val (.ref bi3), .val (.ref bi5), .val (.double (FP.ddiv (FP.l2d (d - n)) (FP.l2d d))), .second, .val (.double (FP.ddiv (FP.l2d (d - n)) (FP.l2d d))), .second, .val (.double (FP.ddiv (FP.l2d (d - k)) (FP.l2d d))), .second, .val (.int (1 : Int32)), .val (.int (1 : Int32)), .unset, .unset, .unset] [(.int (1 : Int32))]))) (fun t_ k_ => XS.goto Xi9.here hx rfl (pc0 := 153) (pc' := 157) rfl (hb hby at_153) (by decide) (by decide) k_) ?_
    refine Go.st (U := (Ti9.setTop (mkF m 159 #[.val (.long p0), .second, .val (.long p1), .second, .val (.long p2), .second, .val (.long p3), .second, .val (.long p4), .second, .val (.long d), .second, .val (.long n), .second, .val (.long k), .second, .val (.ref bi1), .val (.ref bi3), .val (.ref bi5), .val (.double (FP.ddiv (FP.l2d (d - n)) (FP.l2d d))), .second, .val (.double (FP.ddiv (FP.l2d (d - n)) (FP.l2d d))), .second, .val (.double (FP.ddiv (FP.l2d (d - k)) (FP.l2d d))), .second, .val (.int (1 : Int32)), .val (.int (1 : Int32)), .unset, .unset, .unset] [(.long n), (.int (1 : Int32))]))) (fun t_ k_ => XS.lload Xi9.here hx rfl (hb hby at_157) rfl k_) ?_
    refine Go.st (U := (Ti9.setTop (mkF m 161 #[.val (.long p0), .second, .val (.long p1), .second, .val (.long p2), .second, .val (.long p3), .second, .val (.long p4), .second, .val (.long d), .second, .val (.long n), .second, .val (.long k), .second, .val (.ref bi1), .val (.ref bi3), .val (.ref bi5), .val (.double (FP.ddiv (FP.l2d (d - n)) (FP.l2d d))), .second, .val (.double (FP.ddiv (FP.l2d (d - n)) (FP.l2d d))), .second, .val (.double (FP.ddiv (FP.l2d (d - k)) (FP.l2d d))), .second, .val (.int (1 : Int32)), .val (.int (1 : Int32)), .unset, .unset, .unset] [(.long d), (.long n), (.int (1 : Int32))]))) (fun t_ k_ => XS.lload Xi9.here hx rfl (hb hby at_159) rfl k_) ?_
    refine Go.st (U := (Ti9.setTop (mkF m 162 #[.val (.long p0), .second, .val (.long p1), .second, .val (.long p2), .second, .val (.long p3), .second, .val (.long p4), .second, .val (.long d), .second, .val (.long n), .second, .val (.long k), .second, .val (.ref bi1), .val (.ref bi3), .val (.ref bi5), .val (.double (FP.ddiv (FP.l2d (d - n)) (FP.l2d d))), .second, .val (.double (FP.ddiv (FP.l2d (d - n)) (FP.l2d d))), .second, .val (.double (FP.ddiv (FP.l2d (d - k)) (FP.l2d d))), .second, .val (.int (1 : Int32)), .val (.int (1 : Int32)), .unset, .unset, .unset] [(.int (lcmpW n d)), (.int (1 : Int32))]))) (fun t_ k_ => XS.lcmp Xi9.here hx rfl (hb hby at_161) rfl k_) ?_
    refine Go.st (U := (Ti9.setTop (mkF m 165 #[.val (.long p0), .second, .val (.long p1), .second, .val (.long p2), .second, .val (.long p3), .second, .val (.long p4), .second, .val (.long d), .second, .val (.long n), .second, .val (.long k), .second, .val (.ref bi1), .val (.ref bi3), .val (.ref bi5), .val (.double (FP.ddiv (FP.l2d (d - n)) (FP.l2d d))), .second, .val (.double (FP.ddiv (FP.l2d (d - n)) (FP.l2d d))), .second, .val (.double (FP.ddiv (FP.l2d (d - k)) (FP.l2d d))), .second, .val (.int (1 : Int32)), .val (.int (1 : Int32)), .unset, .unset, .unset] [(.int (1 : Int32))]))) (fun t_ k_ => XS.ifNo Xi9.here hx rfl (hb hby at_162) rfl ((if0 _ _).trans (teq (Jvm.OwnFl.lc_eq.mpr hz)).2) k_) ?_
    refine Go.st (U := (Ti9.setTop (mkF m 166 #[.val (.long p0), .second, .val (.long p1), .second, .val (.long p2), .second, .val (.long p3), .second, .val (.long p4), .second, .val (.long d), .second, .val (.long n), .second, .val (.long k), .second, .val (.ref bi1), .val (.ref bi3), .val (.ref bi5), .val (.double (FP.ddiv (FP.l2d (d - n)) (FP.l2d d))), .second, .val (.double (FP.ddiv (FP.l2d (d - n)) (FP.l2d d))), .second, .val (.double (FP.ddiv (FP.l2d (d - k)) (FP.l2d d))), .second, .val (.int (1 : Int32)), .val (.int (1 : Int32)), .unset, .unset, .unset] [(.int (1 : Int32)), (.int (1 : Int32))]))) (fun t_ k_ => XS.iconst Xi9.here hx rfl (hb hby at_165) k_) ?_
    refine Go.st (U := (Ti9.setTop (mkF m 170 #[.val (.long p0), .second, .val (.long p1), .second, .val (.long p2), .second, .val (.long p3), .second, .val (.long p4), .second, .val (.long d), .second, .val (.long n), .second, .val (.long k), .second, .val (.ref bi1), .val (.ref bi3), .val (.ref bi5), .val (.double (FP.ddiv (FP.l2d (d - n)) (FP.l2d d))), .second, .val (.double (FP.ddiv (FP.l2d (d - n)) (FP.l2d d))), .second, .val (.double (FP.ddiv (FP.l2d (d - k)) (FP.l2d d))), .second, .val (.int (1 : Int32)), .val (.int (1 : Int32)), .unset, .unset, .unset] [(.int (1 : Int32)), (.int (1 : Int32))]))) (fun t_ k_ => XS.goto Xi9.here hx rfl (pc0 := 166) (pc' := 170) rfl (hb hby at_166) (by decide) (by decide) k_) ?_
    refine Go.st (U := (Ti9.setTop (mkF m 173 #[.val (.long p0), .second, .val (.long p1), .second, .val (.long p2), .second, .val (.long p3), .second, .val (.long p4), .second, .val (.long d), .second, .val (.long n), .second, .val (.long k), .second, .val (.ref bi1), .val (.ref bi3), .val (.ref bi5), .val (.double (FP.ddiv (FP.l2d (d - n)) (FP.l2d d))), .second, .val (.double (FP.ddiv (FP.l2d (d - n)) (FP.l2d d))), .second, .val (.double (FP.ddiv (FP.l2d (d - k)) (FP.l2d d))), .second, .val (.int (1 : Int32)), .val (.int (1 : Int32)), .unset, .unset, .unset] []))) (fun t_ k_ => XS.icmpNo Xi9.here hx rfl (hb hby at_170) rfl (teq (rfl : _ = _)).2 k_) ?_
    refine Go.st (U := (Ti9.setTop (mkF m 174 #[.val (.long p0), .second, .val (.long p1), .second, .val (.long p2), .second, .val (.long p3), .second, .val (.long p4), .second, .val (.long d), .second, .val (.long n), .second, .val (.long k), .second, .val (.ref bi1), .val (.ref bi3), .val (.ref bi5), .val (.double (FP.ddiv (FP.l2d (d - n)) (FP.l2d d))), .second, .val (.double (FP.ddiv (FP.l2d (d - n)) (FP.l2d d))), .second, .val (.double (FP.ddiv (FP.l2d (d - k)) (FP.l2d d))), .second, .val (.int (1 : Int32)), .val (.int (1 : Int32)), .unset, .unset, .unset] [(.int (1 : Int32))]))) (fun t_ k_ => XS.iconst Xi9.here hx rfl (hb hby at_173) k_) ?_
    refine Go.st (U := (Ti9.setTop (mkF m 178 #[.val (.long p0), .second, .val (.long p1), .second, .val (.long p2), .second, .val (.long p3), .second, .val (.long p4), .second, .val (.long d), .second, .val (.long n), .second, .val (.long k), .second, .val (.ref bi1), .val (.ref bi3), .val (.ref bi5), .val (.double (FP.ddiv (FP.l2d (d - n)) (FP.l2d d))), .second, .val (.double (FP.ddiv (FP.l2d (d - n)) (FP.l2d d))), .second, .val (.double (FP.ddiv (FP.l2d (d - k)) (FP.l2d d))), .second, .val (.int (1 : Int32)), .val (.int (1 : Int32)), .unset, .unset, .unset] [(.int (1 : Int32))]))) (fun t_ k_ => XS.goto Xi9.here hx rfl (pc0 := 174) (pc' := 178) rfl (hb hby at_174) (by decide) (by decide) k_) ?_
    exact J178  
  · refine Go.st (U := (Ti9.setTop (mkF m 147 #[.val (.long p0), .second, .val (.long p1), .second, .val (.long p2), .second, .val (.long p3), .second, .val (.long p4), .second, .val (.long d), .second, .val (.long n), .second, .val (.long k), .second, .val (.ref bi1), .val (.ref bi3), .val (.ref bi5), .val (.double (FP.ddiv (FP.l2d (d - n)) (FP.l2d d))), .second, .val (.double (FP.ddiv (FP.l2d (d - n)) (FP.l2d d))), .second, .val (.double (FP.ddiv (FP.l2d (d - k)) (FP.l2d d))), .second, .val (.int (1 : Int32)), .val (.int (1 : Int32)), .unset, .unset, .unset] [(.double (FP.ddiv (FP.l2d (d - n)) (FP.l2d d)))]))) (fun t_ k_ => XS.dload Xi9.here hx rfl (hb hby at_145) rfl k_) ?_
    refine Go.st (U := (Ti9.setTop (mkF m 148 #[.val (.long p0), .second, .val (.long p1), .second, .val (.long p2), .second, .val (.long p3), .second, .val (.long p4), .second, .val (.long d), .second, .val (.long n), .second, .val (.long k), .second, .val (.ref bi1), .val (.ref bi3), .val (.ref bi5), .val (.double (FP.ddiv (FP.l2d (d - n)) (FP.l2d d))), .second, .val (.double (FP.ddiv (FP.l2d (d - n)) (FP.l2d d))), .second, .val (.double (FP.ddiv (FP.l2d (d - k)) (FP.l2d d))), .second, .val (.int (1 : Int32)), .val (.int (1 : Int32)), .unset, .unset, .unset] [(.double (0 : UInt64)), (.double (FP.ddiv (FP.l2d (d - n)) (FP.l2d d)))]))) (fun t_ k_ => XS.dconst0 Xi9.here hx rfl (hb hby at_147) rfl k_) ?_
    refine Go.st (U := (Ti9.setTop (mkF m 149 #[.val (.long p0), .second, .val (.long p1), .second, .val (.long p2), .second, .val (.long p3), .second, .val (.long p4), .second, .val (.long d), .second, .val (.long n), .second, .val (.long k), .second, .val (.ref bi1), .val (.ref bi3), .val (.ref bi5), .val (.double (FP.ddiv (FP.l2d (d - n)) (FP.l2d d))), .second, .val (.double (FP.ddiv (FP.l2d (d - n)) (FP.l2d d))), .second, .val (.double (FP.ddiv (FP.l2d (d - k)) (FP.l2d d))), .second, .val (.int (1 : Int32)), .val (.int (1 : Int32)), .unset, .unset, .unset] [(.int (cmpValue (FP.dcmp (FP.ddiv (FP.l2d (d - n)) (FP.l2d d)) (0 : UInt64)) .l))]))) (fun t_ k_ => XS.dcmpS Xi9.here hx rfl (hb hby at_148) rfl rfl k_) ?_
    refine Go.st (U := (Ti9.setTop (mkF m 156 #[.val (.long p0), .second, .val (.long p1), .second, .val (.long p2), .second, .val (.long p3), .second, .val (.long p4), .second, .val (.long d), .second, .val (.long n), .second, .val (.long k), .second, .val (.ref bi1), .val (.ref bi3), .val (.ref bi5), .val (.double (FP.ddiv (FP.l2d (d - n)) (FP.l2d d))), .second, .val (.double (FP.ddiv (FP.l2d (d - n)) (FP.l2d d))), .second, .val (.double (FP.ddiv (FP.l2d (d - k)) (FP.l2d d))), .second, .val (.int (1 : Int32)), .val (.int (1 : Int32)), .unset, .unset, .unset] []))) (fun t_ k_ => XS.ifYes Xi9.here hx rfl (pc0 := 149) (pc' := 156) rfl (hb hby at_149) rfl ((if0 _ _).trans (feq ((own_z B_d B_n).2 hz)).2) (by decide) (by decide) k_) ?_
    refine Go.st (U := (Ti9.setTop (mkF m 157 #[.val (.long p0), .second, .val (.long p1), .second, .val (.long p2), .second, .val (.long p3), .second, .val (.long p4), .second, .val (.long d), .second, .val (.long n), .second, .val (.long k), .second, .val (.ref bi1), .val (.ref bi3), .val (.ref bi5), .val (.double (FP.ddiv (FP.l2d (d - n)) (FP.l2d d))), .second, .val (.double (FP.ddiv (FP.l2d (d - n)) (FP.l2d d))), .second, .val (.double (FP.ddiv (FP.l2d (d - k)) (FP.l2d d))), .second, .val (.int (1 : Int32)), .val (.int (1 : Int32)), .unset, .unset, .unset] [(.int (0 : Int32))]))) (fun t_ k_ => XS.iconst Xi9.here hx rfl (hb hby at_156) k_) ?_
    refine Go.st (U := (Ti9.setTop (mkF m 159 #[.val (.long p0), .second, .val (.long p1), .second, .val (.long p2), .second, .val (.long p3), .second, .val (.long p4), .second, .val (.long d), .second, .val (.long n), .second, .val (.long k), .second, .val (.ref bi1), .val (.ref bi3), .val (.ref bi5), .val (.double (FP.ddiv (FP.l2d (d - n)) (FP.l2d d))), .second, .val (.double (FP.ddiv (FP.l2d (d - n)) (FP.l2d d))), .second, .val (.double (FP.ddiv (FP.l2d (d - k)) (FP.l2d d))), .second, .val (.int (1 : Int32)), .val (.int (1 : Int32)), .unset, .unset, .unset] [(.long n), (.int (0 : Int32))]))) (fun t_ k_ => XS.lload Xi9.here hx rfl (hb hby at_157) rfl k_) ?_
    refine Go.st (U := (Ti9.setTop (mkF m 161 #[.val (.long p0), .second, .val (.long p1), .second, .val (.long p2), .second, .val (.long p3), .second, .val (.long p4), .second, .val (.long d), .second, .val (.long n), .second, .val (.long k), .second, .val (.ref bi1), .val (.ref bi3), .val (.ref bi5), .val (.double (FP.ddiv (FP.l2d (d - n)) (FP.l2d d))), .second, .val (.double (FP.ddiv (FP.l2d (d - n)) (FP.l2d d))), .second, .val (.double (FP.ddiv (FP.l2d (d - k)) (FP.l2d d))), .second, .val (.int (1 : Int32)), .val (.int (1 : Int32)), .unset, .unset, .unset] [(.long d), (.long n), (.int (0 : Int32))]))) (fun t_ k_ => XS.lload Xi9.here hx rfl (hb hby at_159) rfl k_) ?_
    refine Go.st (U := (Ti9.setTop (mkF m 162 #[.val (.long p0), .second, .val (.long p1), .second, .val (.long p2), .second, .val (.long p3), .second, .val (.long p4), .second, .val (.long d), .second, .val (.long n), .second, .val (.long k), .second, .val (.ref bi1), .val (.ref bi3), .val (.ref bi5), .val (.double (FP.ddiv (FP.l2d (d - n)) (FP.l2d d))), .second, .val (.double (FP.ddiv (FP.l2d (d - n)) (FP.l2d d))), .second, .val (.double (FP.ddiv (FP.l2d (d - k)) (FP.l2d d))), .second, .val (.int (1 : Int32)), .val (.int (1 : Int32)), .unset, .unset, .unset] [(.int (lcmpW n d)), (.int (0 : Int32))]))) (fun t_ k_ => XS.lcmp Xi9.here hx rfl (hb hby at_161) rfl k_) ?_
    refine Go.st (U := (Ti9.setTop (mkF m 169 #[.val (.long p0), .second, .val (.long p1), .second, .val (.long p2), .second, .val (.long p3), .second, .val (.long p4), .second, .val (.long d), .second, .val (.long n), .second, .val (.long k), .second, .val (.ref bi1), .val (.ref bi3), .val (.ref bi5), .val (.double (FP.ddiv (FP.l2d (d - n)) (FP.l2d d))), .second, .val (.double (FP.ddiv (FP.l2d (d - n)) (FP.l2d d))), .second, .val (.double (FP.ddiv (FP.l2d (d - k)) (FP.l2d d))), .second, .val (.int (1 : Int32)), .val (.int (1 : Int32)), .unset, .unset, .unset] [(.int (0 : Int32))]))) (fun t_ k_ => XS.ifYes Xi9.here hx rfl (pc0 := 162) (pc' := 169) rfl (hb hby at_162) rfl ((if0 _ _).trans (feq (fun q => hz (Jvm.OwnFl.lc_eq.mp q))).2) (by decide) (by decide) k_) ?_
    refine Go.st (U := (Ti9.setTop (mkF m 170 #[.val (.long p0), .second, .val (.long p1), .second, .val (.long p2), .second, .val (.long p3), .second, .val (.long p4), .second, .val (.long d), .second, .val (.long n), .second, .val (.long k), .second, .val (.ref bi1), .val (.ref bi3), .val (.ref bi5), .val (.double (FP.ddiv (FP.l2d (d - n)) (FP.l2d d))), .second, .val (.double (FP.ddiv (FP.l2d (d - n)) (FP.l2d d))), .second, .val (.double (FP.ddiv (FP.l2d (d - k)) (FP.l2d d))), .second, .val (.int (1 : Int32)), .val (.int (1 : Int32)), .unset, .unset, .unset] [(.int (0 : Int32)), (.int (0 : Int32))]))) (fun t_ k_ => XS.iconst Xi9.here hx rfl (hb hby at_169) k_) ?_
    refine Go.st (U := (Ti9.setTop (mkF m 173 #[.val (.long p0), .second, .val (.long p1), .second, .val (.long p2), .second, .val (.long p3), .second, .val (.long p4), .second, .val (.long d), .second, .val (.long n), .second, .val (.long k), .second, .val (.ref bi1), .val (.ref bi3), .val (.ref bi5), .val (.double (FP.ddiv (FP.l2d (d - n)) (FP.l2d d))), .second, .val (.double (FP.ddiv (FP.l2d (d - n)) (FP.l2d d))), .second, .val (.double (FP.ddiv (FP.l2d (d - k)) (FP.l2d d))), .second, .val (.int (1 : Int32)), .val (.int (1 : Int32)), .unset, .unset, .unset] []))) (fun t_ k_ => XS.icmpNo Xi9.here hx rfl (hb hby at_170) rfl (teq (rfl : _ = _)).2 k_) ?_
    refine Go.st (U := (Ti9.setTop (mkF m 174 #[.val (.long p0), .second, .val (.long p1), .second, .val (.long p2), .second, .val (.long p3), .second, .val (.long p4), .second, .val (.long d), .second, .val (.long n), .second, .val (.long k), .second, .val (.ref bi1), .val (.ref bi3), .val (.ref bi5), .val (.double (FP.ddiv (FP.l2d (d - n)) (FP.l2d d))), .second, .val (.double (FP.ddiv (FP.l2d (d - n)) (FP.l2d d))), .second, .val (.double (FP.ddiv (FP.l2d (d - k)) (FP.l2d d))), .second, .val (.int (1 : Int32)), .val (.int (1 : Int32)), .unset, .unset, .unset] [(.int (1 : Int32))]))) (fun t_ k_ => XS.iconst Xi9.here hx rfl (hb hby at_173) k_) ?_
    refine Go.st (U := (Ti9.setTop (mkF m 178 #[.val (.long p0), .second, .val (.long p1), .second, .val (.long p2), .second, .val (.long p3), .second, .val (.long p4), .second, .val (.long d), .second, .val (.long n), .second, .val (.long k), .second, .val (.ref bi1), .val (.ref bi3), .val (.ref bi5), .val (.double (FP.ddiv (FP.l2d (d - n)) (FP.l2d d))), .second, .val (.double (FP.ddiv (FP.l2d (d - n)) (FP.l2d d))), .second, .val (.double (FP.ddiv (FP.l2d (d - k)) (FP.l2d d))), .second, .val (.int (1 : Int32)), .val (.int (1 : Int32)), .unset, .unset, .unset] [(.int (1 : Int32))]))) (fun t_ k_ => XS.goto Xi9.here hx rfl (pc0 := 174) (pc' := 178) rfl (hb hby at_174) (by decide) (by decide) k_) ?_
    exact J178  
set_option maxRecDepth 65536 in
set_option maxHeartbeats 40000000 in
theorem comes_1 {Post : Tables → Env → Array Value → State → Outcome → State → Prop} (hpost : ∀ tb e args s v u, (limb_1_1.after args s (.returned v) u = true ∧ limb_1_2.after args s (.returned v) u = true ∧ True) → FrameEnd s (.returned v) u (Jvm.fieldLocs frame_1_writes args s ++ Jvm.arrayLocs frame_1_arrays args s ++ Jvm.staticLocs frame_1_statics s) 16 128 → Post tb e args s (.returned v) u) :
    ArmFor flags0 classFile x code maxLocals ret World_1 tables_1 room_1 Calls_1 rest_1 Pre_1 Post := by
  intro l hfl _ _ p e ha hc hk s m args below hf hA hF happ hP
  obtain ⟨hcalls, hrest, hpre⟩ := hP
  obtain ⟨-, -, -, hnamed, -, -, -, hat⟩ := (Spec.applies_iff hf).mp happ
  obtain ⟨hg, hn⟩ := and_e (Cond.before_iff.mp (show (Jvm.Cond.and given_1 narrow_1).before args s = true from hpre))
  obtain ⟨hcnt, k0⟩ := and_e hg
  obtain ⟨j0, k1⟩ := and_e k0
  obtain ⟨j1, k2⟩ := and_e k1
  obtain ⟨j2, k3⟩ := and_e k2
  obtain ⟨j3, k4⟩ := and_e k3
  have j4 := k4
  obtain ⟨w0, w1, w2, w3, w4, rfl⟩ : ∃ w0 w1 w2 w3 w4 : Value, args = #[w0, w1, w2, w3, w4] := by
    have hs : args.size = 5 := by simpa [Cond.value, given_1] using hcnt
    obtain ⟨L⟩ := args
    match L, hs with
    | [w0, w1, w2, w3, w4], _ => exact ⟨w0, w1, w2, w3, w4, rfl⟩
  have hw := fun d (hd : d ∈ tables_1) => atoms_spec (ws := Jvm.Cond.code x code maxLocals ret :: tables_1) hat d (List.mem_cons_of_mem _ hd)
  have hfit : Fit s := fun {y c} hc i hi => by
    obtain ⟨ha, rfl⟩ := Array.getElem?_eq_some_iff.mp hc
    have q := List.all_eq_true.mp ((Array.all_eq_true_iff_forall_mem.mp hF) _ (Array.getElem_mem ha)) i (List.mem_range.mpr hi)
    simpa [Array.getElem?_eq_getElem hi] using q
  obtain ⟨i0, e0⟩ := isL_v j0
  obtain rfl : w0 = (.long i0) := Option.some.inj e0
  obtain ⟨i1, e1⟩ := isL_v j1
  obtain rfl : w1 = (.long i1) := Option.some.inj e1
  obtain ⟨i2, e2⟩ := isL_v j2
  obtain rfl : w2 = (.long i2) := Option.some.inj e2
  obtain ⟨i3, e3⟩ := isL_v j3
  obtain rfl : w3 = (.long i3) := Option.some.inj e3
  obtain ⟨i4, e4⟩ := isL_v j4
  obtain rfl : w4 = (.long i4) := Option.some.inj e4
  obtain ⟨n, o, h1, h2, h3, _, L, rfl, ⟨rfl, N⟩, hq⟩ := rm_law l s _ hw tables_1 i0 i1 i2 i3 i4  s.heap s.heap.size (Nat.le_refl _)  p e ha hc hk s m _ below hf ((Spec.applies_iff_loose hf).mp happ).1 ⟨rfl, State.Warmed39.refl s, rfl⟩ trivial
  refine ⟨n, _, h1, h2, h3, hpost _ _ _ _ _ _ ⟨Cond.after_iff.mpr rfl, Cond.after_iff.mpr (eq_i res_at (Term.int_eval (1)) rfl), trivial⟩ ⟨hq.1, hq.2.1, (hq.2.2.sift fun y hy => Or.inr (N y hy)).mono (by decide) (by decide)⟩⟩
theorem main_1_1 : Claimed_1_1 := comes_1 fun _ _ _ _ _ _ h hF => ⟨h.1, hF⟩
theorem main_1_2 : Claimed_1_2 := comes_1 fun _ _ _ _ _ _ h hF => ⟨h.2.1, hF⟩
end Jvm.Pilot.@@N@@
namespace Jvm.Pilot.@@N@@
open Jvm Jvm.ClassFile Sem Op Lib Jvm.Free Jvm.Stand Jvm.Pilot.@@N@@.Jvm.D
/-! MADE BY PROGRAM (witnessworld.py) out of the Statement's table words and the real class files: 10 classes; the members and pool entries that the words name. The judged class is class 1, her method 1. -/
namespace start1
open Jvm.ClassFile
def u (s : String) : CpInfo := .utf8 (stringToUtf16 s)
/-- a pool by its gaps: so many unusable entries, then the entry; so many at the end -/
def gap : Nat → List CpInfo → List CpInfo
  | 0, r => r
  | n + 1, r => .unusable :: gap n r
def poolList (es : List (Nat × CpInfo)) (last : Nat) : List CpInfo := es.foldr (fun e r => gap e.1 (e.2 :: r)) (gap last [])
def pool (es : List (Nat × CpInfo)) (last : Nat) : Array CpInfo := ⟨poolList es last⟩
def fileOf (pool : Array CpInfo) (this : Nat) (attrs : Array Attribute := #[]) (ms : Array MethodInfo := #[]) (fl : Nat := 33) (sup : Nat := 0) (ifs : Array Nat := #[]) (fds : Array FieldInfo := #[]) : ClassFile where
  minorVersion := 0
  majorVersion := 65
  constantPool := pool
  accessFlags := fl
  thisClass := this
  superClass := sup
  interfaces := ifs
  fields := fds
  methods := ms
  attributes := attrs
def plain (name : String) (sup : Option ClassId) : Class where
  name := name
  kind := .ordinary
  loader := none
  accessFlags := 33
  super := sup
  interfaces := #[]
  cf := none
  fields := #[]
  methods := #[]
  instanceTypes := #[]
  staticTypes := #[]
  resolved := #[]
  callSites := []
  init := .initialized
  statics := none
  mirror := none

def pool0 : Array CpInfo := pool [(5, u "<init>"), (0, u "()V"), (1, .class_ 10), (1, u "java/lang/Object")] 113

def k0c0 : Code := { maxStack := 0, maxLocals := 1, code := object_method_1_code, exceptionTable := #[], attributes := #[] }
def k0m0 : Method := { name := "<init>", desc := "()V", sig := { parameters := [], returnType := none }, accessFlags := 1, code := some k0c0 }
/-- java/lang/Object -/
def k0 : Class := { plain "java/lang/Object" none with
  accessFlags := 33
  interfaces := #[]
  cf := some (fileOf pool0 8 #[] #[{ accessFlags := 1, nameIndex := 5, descriptorIndex := 6, attributes := #[] }] 33 0 #[] #[])
  fields := #[]
  methods := #[k0m0]
  instanceTypes := #[]
  staticTypes := #[]
  resolved := Array.replicate 124 none
  statics := none }

def pool1 : Array CpInfo := pool [(2, .class_ 4), (1, u "java/lang/Object"), (0, u "<init>"), (0, u "()V"), (0, .long 4503599627370495), (3, .long 9223372036854775807), (1, .class_ 14), (0, u "com/example/sublattice/sublattice/service/Likeness"), (0, .methodref 13 16), (0, .nameAndType 5 17), (0, u "(JJJJ)V"), (0, .methodref 13 19), (0, .nameAndType 20 21), (0, u "localDistance"), (0, u "()D"), (0, .methodref 13 23), (0, .nameAndType 24 21), (0, u "similarity"), (0, .class_ 26), (0, u "com/example/sublattice/sublattice/service/LikenessLocalDistancePinLaw"), (2, u "law"), (0, u "(JJJJJ)Z")] 3

def k1m0 : Method := { name := "<init>", desc := "()V", sig := { parameters := [], returnType := none }, accessFlags := 2, code := none }
def k1c1 : Code := { maxStack := 10, maxLocals := 30, code := code, exceptionTable := #[], attributes := #[] }
def k1m1 : Method := { name := "law", desc := "(JJJJJ)Z", sig := { parameters := [.long, .long, .long, .long, .long], returnType := some .boolean }, accessFlags := 9, code := some k1c1 }
/-- com/example/sublattice/sublattice/service/LikenessLocalDistancePinLaw -/
def k1 : Class := { plain "com/example/sublattice/sublattice/service/LikenessLocalDistancePinLaw" (some 0) with
  accessFlags := 49
  interfaces := #[]
  cf := some (fileOf pool1 25 #[] #[{ accessFlags := 2, nameIndex := 5, descriptorIndex := 6, attributes := #[] }, { accessFlags := 9, nameIndex := 29, descriptorIndex := 30, attributes := #[] }] 49 2 #[] #[])
  fields := #[]
  methods := #[k1m0, k1m1]
  instanceTypes := #[]
  staticTypes := #[]
  resolved := Array.replicate 34 none
  statics := none }

def pool2 : Array CpInfo := pool [(1, .methodref 2 3), (0, .class_ 4), (0, .nameAndType 5 6), (0, u "java/lang/Object"), (0, u "<init>"), (0, u "()V"), (0, .class_ 8), (0, u "java/lang/Record")] 13

def k2c0 : Code := { maxStack := 1, maxLocals := 1, code := jdk_30_method_1_code, exceptionTable := #[], attributes := #[] }
def k2m0 : Method := { name := "<init>", desc := "()V", sig := { parameters := [], returnType := none }, accessFlags := 4, code := some k2c0 }
/-- java/lang/Record -/
def k2 : Class := { plain "java/lang/Record" (some 0) with
  accessFlags := 1057
  interfaces := #[]
  cf := some (fileOf pool2 7 #[] #[{ accessFlags := 4, nameIndex := 5, descriptorIndex := 6, attributes := #[] }] 1057 2 #[] #[])
  fields := #[]
  methods := #[k2m0]
  instanceTypes := #[]
  staticTypes := #[]
  resolved := Array.replicate 22 none
  statics := none }

def pool3 : Array CpInfo := pool [(1, .methodref 2 3), (0, .class_ 4), (0, .nameAndType 5 6), (0, u "java/lang/Record"), (0, u "<init>"), (0, u "()V"), (0, .fieldref 8 9), (0, .class_ 10), (0, .nameAndType 11 12), (0, u "com/example/sublattice/sublattice/service/Likeness"), (0, u "similarityNumerator"), (0, u "J"), (0, .fieldref 8 14), (0, .nameAndType 15 12), (0, u "similarityDenominator"), (0, .fieldref 8 17), (0, .nameAndType 18 12), (0, u "globalNumerator"), (0, .fieldref 8 20), (0, .nameAndType 21 12), (0, u "globalDenominator"), (21, u "(JJJJ)V"), (37, u "similarity"), (0, u "()D"), (0, u "localDistance")] 29

def k3c0 : Code := { maxStack := 3, maxLocals := 9, code := prog_30_method_1_code, exceptionTable := #[], attributes := #[] }
def k3m0 : Method := { name := "<init>", desc := "(JJJJ)V", sig := { parameters := [.long, .long, .long, .long], returnType := none }, accessFlags := 0, code := some k3c0 }
def k3c1 : Code := { maxStack := 4, maxLocals := 1, code := prog_30_method_3_code, exceptionTable := #[], attributes := #[] }
def k3m1 : Method := { name := "similarity", desc := "()D", sig := { parameters := [], returnType := some .double }, accessFlags := 0, code := some k3c1 }
def k3c2 : Code := { maxStack := 4, maxLocals := 1, code := prog_30_method_4_code, exceptionTable := #[], attributes := #[] }
def k3m2 : Method := { name := "localDistance", desc := "()D", sig := { parameters := [], returnType := some .double }, accessFlags := 0, code := some k3c2 }
/-- com/example/sublattice/sublattice/service/Likeness -/
def k3 : Class := { plain "com/example/sublattice/sublattice/service/Likeness" (some 2) with
  accessFlags := 48
  interfaces := #[]
  cf := some (fileOf pool3 8 #[] #[{ accessFlags := 0, nameIndex := 5, descriptorIndex := 43, attributes := #[] }, { accessFlags := 0, nameIndex := 81, descriptorIndex := 82, attributes := #[] }, { accessFlags := 0, nameIndex := 83, descriptorIndex := 82, attributes := #[] }] 48 2 #[] #[{ accessFlags := 18, nameIndex := 11, descriptorIndex := 12, attributes := #[] }, { accessFlags := 18, nameIndex := 15, descriptorIndex := 12, attributes := #[] }, { accessFlags := 18, nameIndex := 18, descriptorIndex := 12, attributes := #[] }, { accessFlags := 18, nameIndex := 21, descriptorIndex := 12, attributes := #[] }])
  fields := #[{ name := "similarityNumerator", type := .long, accessFlags := 18, slot := 0, constantValue := 0 }, { name := "similarityDenominator", type := .long, accessFlags := 18, slot := 1, constantValue := 0 }, { name := "globalNumerator", type := .long, accessFlags := 18, slot := 2, constantValue := 0 }, { name := "globalDenominator", type := .long, accessFlags := 18, slot := 3, constantValue := 0 }]
  methods := #[k3m0, k3m1, k3m2]
  instanceTypes := #[.long, .long, .long, .long]
  staticTypes := #[]
  resolved := Array.replicate 113 none
  statics := none }

def pool4 : Array CpInfo := pool [(1, u "java/lang/Cloneable"), (0, .class_ 1), (0, u "java/lang/Object"), (0, .class_ 3)] 3

/-- java/lang/Cloneable -/
def k4 : Class := { plain "java/lang/Cloneable" (some 0) with
  accessFlags := 1537
  interfaces := #[]
  cf := some (fileOf pool4 2 #[] #[] 1537 4 #[] #[])
  fields := #[]
  methods := #[]
  instanceTypes := #[]
  staticTypes := #[]
  resolved := Array.replicate 8 none
  statics := none }

def pool5 : Array CpInfo := pool [(1, u "java/io/Serializable"), (0, .class_ 1), (0, u "java/lang/Object"), (0, .class_ 3)] 3

/-- java/io/Serializable -/
def k5 : Class := { plain "java/io/Serializable" (some 0) with
  accessFlags := 1537
  interfaces := #[]
  cf := some (fileOf pool5 2 #[] #[] 1537 4 #[] #[])
  fields := #[]
  methods := #[]
  instanceTypes := #[]
  staticTypes := #[]
  resolved := Array.replicate 8 none
  statics := none }

/-- the primitive byte -/
def k6 : Class := { plain "byte" none with kind := .primitive 'B', accessFlags := 0x411 }
/-- [B -/
def k7 : Class := { plain "[B" (some 0) with kind := .array 6 .byte, interfaces := #[4, 5], accessFlags := 1041 }

/-- the primitive int -/
def k8 : Class := { plain "int" none with kind := .primitive 'I', accessFlags := 0x411 }
/-- [I -/
def k9 : Class := { plain "[I" (some 0) with kind := .array 8 .int, interfaces := #[4, 5], accessFlags := 1041 }

def heap : Heap := #[]
def classes : Array Class := #[k0, k1, k2, k3, k4, k5, k6, k7, k8, k9]
def interned : List (Array UInt16 × Addr) := []
def slotsUsed : Nat := 0
def theMethod : MethodId := ⟨1, 1⟩
def args0 : Array Value := #[.long 5, .long 7, .long 9, .long 11, .long 12]
def aboutOver (below : List Frame) : State where
  vm := { classes := classes, interned := interned.toArray }
  heap := heap
  slotsUsed := slotsUsed
  threads := #[{ frames := .invoking theMethod args0 :: below }]
def below0 : List Frame := [.native { method := ⟨0, 0⟩, args := #[] }]
def about1 : State := aboutOver below0
def p0 : Program := .bare "" "" ""
def e0 : Env := launch0.env 0 0 0
theorem w_frames : about1.frames = Frame.invoking theMethod args0 :: below0 := rfl
set_option maxRecDepth 65536 in
theorem w_args : argsFit about1.vm theMethod args0 = true := by decide +kernel
set_option maxRecDepth 65536 in
theorem w_heap : heapFits about1 = true := by decide +kernel
set_option maxRecDepth 65536 in
theorem w_runnable : about1.curStatus? = some .runnable := by decide +kernel
set_option maxRecDepth 65536 in
theorem w_alone : about1.alone = true := by decide +kernel
set_option maxRecDepth 65536 in
theorem w_named : about1.methodNamed? x = some theMethod := by decide +kernel
set_option maxRecDepth 65536 in
theorem w_hears : about1.hears theMethod below0 = true := by decide +kernel
set_option maxRecDepth 65536 in
theorem w_ripe : about1.ripe theMethod args0 below0 = true := by decide +kernel
theorem w_running : about1.status = .running := rfl
set_option maxRecDepth 65536 in
theorem w_room : about1.hasRoom e0.platform room_1 = true :=
  launch0.hasRoom_least _ room_1 (by decide +kernel) (by decide +kernel) (by decide +kernel) (by decide +kernel) (by decide +kernel) (by decide +kernel)
theorem allAtoms_all (ts : List Jvm.Cond) (a : Array Jvm.Value) (st : Jvm.State) : (allAtoms ts).before a st = ts.all (fun c => c.before a st) := by
  induction ts with
  | nil => rfl
  | cons c t ih =>
    show (Jvm.Cond.and c (allAtoms t)).before a st = _
    rw [Jvm.Cond.before_and, ih, List.all_cons]
def words1 : List Jvm.Cond := Jvm.Cond.code x code maxLocals ret :: tables_1
/-- a 'code' word, met by the world's own term for the bytes: nothing is compared byte by byte -/
theorem code_word {y : MethodName} {bytes : ByteArray} {mx : Nat} {rt : Option FieldType} {a : Array Value} {s : State} {m : MethodId} {meth : Method} {c : Code} (h1 : s.methodNamed? y = some m) (h2 : s.vm.method? m = some meth) (h3 : meth.code = some c) (h4 : c.code = bytes)
    (h5 : (c.maxLocals == mx && c.exceptionTable.isEmpty && decide (c.maxStack ≤ mostOperands) && decide (meth.sig.returnType = rt) && !meth.locks && decide (parseMethodDescriptor y.desc = some meth.sig)) = true) : (Jvm.Cond.code y bytes mx rt).before a s = true := by
  simp only [Bool.and_eq_true, beq_iff_eq, Bool.not_eq_true', decide_eq_true_eq] at h5
  obtain ⟨⟨⟨⟨⟨g1, g2⟩, g3⟩, g4⟩, g5⟩, g6⟩ := h5
  simp [Cond.before, Cond.holds, Cond.value, h1, h2, h3, h4, g1, g2, g3, g4, g5, g6]
def isCode : Jvm.Cond → Bool
  | .code _ _ _ _ => true
  | _ => false
theorem all_split {L : List Jvm.Cond} {P : Jvm.Cond → Bool} (h1 : L.all (fun c => isCode c || P c) = true) (h2 : ∀ c ∈ L.filter isCode, P c = true) : L.all P = true := by
  refine List.all_eq_true.mpr fun c hc => ?_
  have h := List.all_eq_true.mp h1 c hc
  rcases Bool.eq_false_or_eq_true (isCode c) with hi | hi
  · exact h2 c (List.mem_filter.mpr ⟨hc, hi⟩)
  · simpa [hi] using h
set_option maxRecDepth 65536 in
theorem w_c0 : (Jvm.Cond.code x code maxLocals ret).before args0 about1 = true := code_word (m := ⟨1, 1⟩) (meth := k1m1) (c := k1c1) (by decide +kernel) rfl rfl rfl (by decide +kernel)
set_option maxRecDepth 65536 in
theorem w_c1 : (Jvm.Cond.code ({ cls := "com/example/sublattice/sublattice/service/Likeness", name := "<init>", desc := "(JJJJ)V" } : Jvm.MethodName) prog_30_method_1_code (9 : Nat) (Option.none : Option Jvm.ClassFile.FieldType)).before args0 about1 = true := code_word (m := ⟨3, 0⟩) (meth := k3m0) (c := k3c0) (by decide +kernel) rfl rfl rfl (by decide +kernel)
set_option maxRecDepth 65536 in
theorem w_c2 : (Jvm.Cond.code ({ cls := "java/lang/Record", name := "<init>", desc := "()V" } : Jvm.MethodName) jdk_30_method_1_code (1 : Nat) (Option.none : Option Jvm.ClassFile.FieldType)).before args0 about1 = true := code_word (m := ⟨2, 0⟩) (meth := k2m0) (c := k2c0) (by decide +kernel) rfl rfl rfl (by decide +kernel)
set_option maxRecDepth 65536 in
theorem w_c3 : (Jvm.Cond.code ({ cls := "java/lang/Object", name := "<init>", desc := "()V" } : Jvm.MethodName) object_method_1_code (1 : Nat) (Option.none : Option Jvm.ClassFile.FieldType)).before args0 about1 = true := code_word (m := ⟨0, 0⟩) (meth := k0m0) (c := k0c0) (by decide +kernel) rfl rfl rfl (by decide +kernel)
set_option maxRecDepth 65536 in
theorem w_c4 : (Jvm.Cond.code ({ cls := "com/example/sublattice/sublattice/service/Likeness", name := "localDistance", desc := "()D" } : Jvm.MethodName) prog_30_method_4_code (1 : Nat) (Option.some Jvm.ClassFile.FieldType.double)).before args0 about1 = true := code_word (m := ⟨3, 2⟩) (meth := k3m2) (c := k3c2) (by decide +kernel) rfl rfl rfl (by decide +kernel)
set_option maxRecDepth 65536 in
theorem w_c5 : (Jvm.Cond.code ({ cls := "com/example/sublattice/sublattice/service/Likeness", name := "similarity", desc := "()D" } : Jvm.MethodName) prog_30_method_3_code (1 : Nat) (Option.some Jvm.ClassFile.FieldType.double)).before args0 about1 = true := code_word (m := ⟨3, 1⟩) (meth := k3m1) (c := k3c1) (by decide +kernel) rfl rfl rfl (by decide +kernel)
def codes1 : List Jvm.Cond := [Jvm.Cond.code x code maxLocals ret, Jvm.Cond.code ({ cls := "com/example/sublattice/sublattice/service/Likeness", name := "<init>", desc := "(JJJJ)V" } : Jvm.MethodName) prog_30_method_1_code (9 : Nat) (Option.none : Option Jvm.ClassFile.FieldType), Jvm.Cond.code ({ cls := "java/lang/Record", name := "<init>", desc := "()V" } : Jvm.MethodName) jdk_30_method_1_code (1 : Nat) (Option.none : Option Jvm.ClassFile.FieldType), Jvm.Cond.code ({ cls := "java/lang/Object", name := "<init>", desc := "()V" } : Jvm.MethodName) object_method_1_code (1 : Nat) (Option.none : Option Jvm.ClassFile.FieldType), Jvm.Cond.code ({ cls := "com/example/sublattice/sublattice/service/Likeness", name := "localDistance", desc := "()D" } : Jvm.MethodName) prog_30_method_4_code (1 : Nat) (Option.some Jvm.ClassFile.FieldType.double), Jvm.Cond.code ({ cls := "com/example/sublattice/sublattice/service/Likeness", name := "similarity", desc := "()D" } : Jvm.MethodName) prog_30_method_3_code (1 : Nat) (Option.some Jvm.ClassFile.FieldType.double)]
set_option maxRecDepth 65536 in
theorem codes_eq : words1.filter isCode = codes1 := rfl
theorem w_codes : ∀ c ∈ words1.filter isCode, c.before args0 about1 = true := by
  rw [codes_eq]
  intro c hc
  simp only [codes1, List.mem_cons, List.not_mem_nil, or_false] at hc
  rcases hc with rfl | rfl | rfl | rfl | rfl | rfl
  · exact w_c0
  · exact w_c1
  · exact w_c2
  · exact w_c3
  · exact w_c4
  · exact w_c5
set_option maxRecDepth 65536 in
theorem w_t1 : (words1.take 24).all (fun c => isCode c || c.before args0 about1) = true := by decide +kernel
set_option maxRecDepth 65536 in
theorem w_t2 : (words1.drop 24).all (fun c => isCode c || c.before args0 about1) = true := by decide +kernel
theorem w_tables : (allAtoms (Jvm.Cond.code x code maxLocals ret :: tables_1)).before args0 about1 = true := by
  rw [allAtoms_all]
  show words1.all (fun c => c.before args0 about1) = true
  refine all_split ?_ w_codes
  rw [← List.take_append_drop 24 words1, List.all_append, w_t1, w_t2]
  rfl
set_option maxRecDepth 65536 in
theorem w_case : (Jvm.Cond.and given_1 narrow_1).before args0 about1 = true := by decide +kernel
theorem w_applies : (headSpec (Jvm.Cond.code x code maxLocals ret :: tables_1) room_1).applies x e0.platform about1 = true :=
  (Spec.applies_iff w_frames).mpr ⟨w_running, w_runnable, w_alone, w_named, w_hears, w_ripe, w_room, w_tables⟩
theorem atStart : AtStart classFile x code maxLocals ret World_1 tables_1 room_1 Calls_1 rest_1 Pre_1 launch0 p0 e0 about1 theMethod args0 below0 :=
  ⟨lists_1, trivial, launch0.admits_env _ _ _, launch0.least_env, fairChoices_fair.cas, fairChoices_fair.clock, w_frames, w_args, w_heap, w_applies, trivial, trivial, w_case⟩
end start1
theorem witness_1 : WitnessClaimed_1 := ⟨start1.p0, start1.e0, start1.about1, start1.theMethod, start1.args0, start1.below0, start1.atStart⟩
end Jvm.Pilot.@@N@@
