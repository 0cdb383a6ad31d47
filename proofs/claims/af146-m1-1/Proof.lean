import JvmDerived
import JvmDerived.Pilot.@@N@@Statement
import JvmDerived.Pilot.@@N@@Code
set_option linter.unusedVariables false
set_option linter.unusedSimpArgs false
@@BLOCK:NumsL.lean.txt@@
namespace Jvm.RoadKit
open Sem ClassFile Op Lib Jvm.Stand Jvm.Free Jvm.LawKit
section Go
variable {p : Program} {l : Launch} {e : Env} {R : Room} {s : State} {m : MethodId} {args : Array Value} {below : List Frame} {meth : Method} {c : Code} {T : State} {locs : List Loc} {cells slots : Nat} {Z : State} {a0 : Array Value} {h : Heap}
/-- the run from U comes to its return, and leaves what Qv says -/
def Go (p : Program) (e : Env) (below : List Frame) (s : State) (R : Room) (Qv : Option Value → Heap → List Loc → Prop) (U : State) : Prop :=
  ∃ s₂ o, Steps p.tables e below U s₂ ∧ s₂.status = .running ∧ Ended s₂ below o ∧ ∃ v L, o = .returned v ∧ Qv v s₂.heap L ∧ FrameEnd s o s₂ L R.cells R.slots
variable {Qv : Option Value → Heap → List Loc → Prop} {U V : State}
theorem Go.st (h : ∀ t, Steps p.tables e below U t → Steps p.tables e below V t) (k : Go p e below s R Qv U) : Go p e below s R Qv V := by
  obtain ⟨t, o, h1, r⟩ := k
  exact ⟨t, o, h t h1, r⟩
theorem Go.ret (X : Stand p l e R s m args below meth c T locs cells slots) (hlk : meth.locks = false) {v : Option Value} (hv : meth.sig.returnType = none → v = none) (hc : cells ≤ R.cells) (hs : slots ≤ R.slots) (hq : Qv v T.heap locs)
    (st : ∀ fs, (∀ (f : JFrame) (acts : List Action), f.method = m → f.locked = none → f.entered = [] → (doReturn e (T.setTop f) acts v).1 = T.setFrames fs) → Steps p.tables e below V (T.setFrames fs)) : Go p e below s R Qv V := by
  obtain ⟨fs, hr, hrun, hended, hW, hsame⟩ := X.leave (v := v) hv hlk
  exact ⟨_, _, st fs hr, hrun, hended, _, _, rfl, hq, ⟨_, rfl⟩, hW, hsame.mono hc hs⟩
theorem Go.retD (X : Stand p l e R s m args below meth c T locs cells slots) (hx : p.tables.exec = Jvm.exec) (hlk : meth.locks = false) (hret : meth.sig.returnType = some .double) {pc : Nat} {Ls : Array Slot} {z : UInt64} {rest : List Value} (hd : decode c.code pc = .ok (.dreturn, 1)) (hc : cells ≤ R.cells) (hs : slots ≤ R.slots)
    (hq : Qv (some (.double z)) T.heap locs) : Go p e below s R Qv (T.setTop (mkF m pc Ls (.double z :: rest))) :=
  Go.ret X hlk (v := some (.double z)) (fun q => by rw [hret] at q; cases q) hc hs hq fun fs hr => retOut X hx hret rfl (Or.inr (Or.inr (Or.inl ⟨rfl, rfl, _, rfl⟩))) hd hr
theorem Go.retJ (X : Stand p l e R s m args below meth c T locs cells slots) (hx : p.tables.exec = Jvm.exec) (hlk : meth.locks = false) (hret : meth.sig.returnType = some .long) {pc : Nat} {Ls : Array Slot} {z : Int64} {rest : List Value} (hd : decode c.code pc = .ok (.lreturn, 1)) (hc : cells ≤ R.cells) (hs : slots ≤ R.slots)
    (hq : Qv (some (.long z)) T.heap locs) : Go p e below s R Qv (T.setTop (mkF m pc Ls (.long z :: rest))) :=
  Go.ret X hlk (v := some (.long z)) (fun q => by rw [hret] at q; cases q) hc hs hq fun fs hr => retOut X hx hret rfl (Or.inr (Or.inl ⟨rfl, rfl, _, rfl⟩)) hd hr
theorem Go.retI (X : Stand p l e R s m args below meth c T locs cells slots) (hx : p.tables.exec = Jvm.exec) (hlk : meth.locks = false) (hret : meth.sig.returnType = some .int) {pc : Nat} {Ls : Array Slot} {z : Int32} {rest : List Value} (hd : decode c.code pc = .ok (.ireturn, 1)) (hc : cells ≤ R.cells) (hs : slots ≤ R.slots)
    (hq : Qv (some (.int z)) T.heap locs) : Go p e below s R Qv (T.setTop (mkF m pc Ls (.int z :: rest))) :=
  Go.ret X hlk (v := some (.int z)) (fun q => by rw [hret] at q; cases q) hc hs hq fun fs hr => retOut X hx hret rfl (Or.inl ⟨rfl, Or.inl rfl, _, rfl⟩) hd hr
theorem Go.retZ (X : Stand p l e R s m args below meth c T locs cells slots) (hx : p.tables.exec = Jvm.exec) (hlk : meth.locks = false) (hret : meth.sig.returnType = some .boolean) {pc : Nat} {Ls : Array Slot} {z : Int32} {rest : List Value} (hd : decode c.code pc = .ok (.ireturn, 1)) (hc : cells ≤ R.cells) (hs : slots ≤ R.slots)
    (hq : Qv (some (.int (nar .boolean z))) T.heap locs) : Go p e below s R Qv (T.setTop (mkF m pc Ls (.int z :: rest))) :=
  Go.ret X hlk (v := some (.int (nar .boolean z))) (fun q => by rw [hret] at q; cases q) hc hs hq fun fs hr => retN X hx hret (Or.inl rfl) hd hr
theorem Go.retV (X : Stand p l e R s m args below meth c T locs cells slots) (hx : p.tables.exec = Jvm.exec) (hlk : meth.locks = false) (hret : meth.sig.returnType = none) {pc : Nat} {Ls : Array Slot} {st : List Value} (hd : decode c.code pc = .ok (.return_, 1)) (hc : cells ≤ R.cells) (hs : slots ≤ R.slots)
    (hq : Qv none T.heap locs) : Go p e below s R Qv (T.setTop (mkF m pc Ls [])) :=
  Go.ret X hlk (v := none) (fun _ => rfl) hc hs hq fun fs hr => X.returnOut hx hret hd hr
theorem Go.callS (X : Stand p l e R s m args below meth c T locs cells slots) (hx : p.tables.exec = Jvm.exec) (hZ : Z.Warmed39 s.vm) {own : String} {index : Nat} {y : MethodName} {bytes : ByteArray} {maxL : Nat} {ret : Option FieldType} (hown : s.vm.findClass own = some m.cls)
    (w1 : (Cond.methodLink own index y).before a0 Z = true) (w2 : (Cond.static y).before a0 Z = true) (w3 : (Cond.initialized y.cls).before a0 Z = true) (w4 : (Cond.code y bytes maxL ret).before a0 Z = true) (hy : y.cls ≠ "java/lang/invoke/MethodHandle" ∧ y.cls ≠ "java/lang/invoke/VarHandle")
    {rm : Room} {as' : Array Value} {Q : Option Value → Heap → List Loc → Prop}
    (hM : MetFree l y (head1 [Cond.code y bytes maxL ret] rm) (fun a U => a = as' ∧ Z.Warmed39 U.vm ∧ U.heap = h) (fun _ _ _ _ _ => True) (fun _ U o U' => ∃ v L, o = .returned v ∧ Q v U'.heap L ∧ FrameEnd U o U' L rm.cells rm.slots))
    (eT : T.heap = h) (W : Nat) (hf : rm.frames + 1 ≤ R.frames) (hl : W + (maxL + 11) + rm.locals ≤ R.locals) {g : JFrame} (hg : g.method = m) (hsize : g.locals.size = c.maxLocals) (argsL rest : List Value) (ha : as' = argsL.toArray)
    (hlen : ∀ sig, parseMethodDescriptor y.desc = some sig → argsL.length = sig.parameters.length) (hst : g.stack = argsL.reverse ++ rest) (hW : 2 * g.monitorRoom + (rest.map fun v => v.category).sum ≤ W) (hd : decode c.code g.pc = .ok (.invokestatic index, 3)) (hc : cells + rm.cells ≤ R.cells) (hs : slots + rm.slots ≤ R.slots)
    (k : ∀ v T' L, Q v T'.heap L → Stand p l e R s m args below meth c T' (locs ++ L) (cells + rm.cells) (slots + rm.slots) → Go p e below s R Qv (T'.setTop { g with pc := g.pc + 3, stack := v.toList ++ rest })) : Go p e below s R Qv (T.setTop g) := by
  subst ha
  obtain ⟨v, vm1, ⟨T', L', c', n'⟩, -, X', ⟨L, hQ, l1, y1, z1⟩, st⟩ := Jvm.LawKit.callS X hx hown (mvT hZ w1) (mvT hZ w2) (mvT hZ w3) (mvT hZ w4) hy (backOf (W := W) hM hZ w4 w3 hf hl) hg hsize (argsL := argsL) (rest := rest) hlen hst hW hd (fun _ _ => ⟨rfl, eT, hc, hs⟩)
  dsimp only [Pt.U, Pt.locs, Pt.cells, Pt.slots] at X' l1 y1 z1 st hQ
  subst l1 y1 z1
  exact Go.st st (k v T' L hQ X')
theorem Go.callI (X : Stand p l e R s m args below meth c T locs cells slots) (hx : p.tables.exec = Jvm.exec) (hZ : Z.Warmed39 s.vm) {own : String} {index : Nat} {y : MethodName} {bytes : ByteArray} {maxL : Nat} (hown : s.vm.findClass own = some m.cls) (hy1 : y.name = "<init>")
    (w1 : (Cond.methodLink own index y).before a0 Z = true) (w2 : (Cond.instanceMethod y).before a0 Z = true) (w3 : (Cond.initialized y.cls).before a0 Z = true) (w4 : (Cond.code y bytes maxL none).before a0 Z = true) (hy : y.cls ≠ "java/lang/invoke/MethodHandle" ∧ y.cls ≠ "java/lang/invoke/VarHandle")
    {rm : Room} {as' : Array Value} {Q : Option Value → Heap → List Loc → Prop}
    (hM : MetFree l y (head1 [Cond.code y bytes maxL none] rm) (fun a U => a = as' ∧ Z.Warmed39 U.vm ∧ U.heap = h) (fun _ _ _ _ _ => True) (fun _ U o U' => ∃ v L, o = .returned v ∧ Q v U'.heap L ∧ FrameEnd U o U' L rm.cells rm.slots))
    (eT : T.heap = h) (W : Nat) (hf : rm.frames + 1 ≤ R.frames) (hl : W + (maxL + 11) + rm.locals ≤ R.locals) {g : JFrame} (hg : g.method = m) (hsize : g.locals.size = c.maxLocals) (a : Addr) (argsL rest : List Value) (ha : as' = (.ref a :: argsL).toArray)
    (hlen : ∀ sig, parseMethodDescriptor y.desc = some sig → argsL.length = sig.parameters.length) (hst : g.stack = argsL.reverse ++ .ref a :: rest) (hW : 2 * g.monitorRoom + (rest.map fun v => v.category).sum ≤ W) (hd : decode c.code g.pc = .ok (.invokespecial index, 3)) (hc : cells + rm.cells ≤ R.cells) (hs : slots + rm.slots ≤ R.slots)
    (k : ∀ v T' L, Q v T'.heap L → Stand p l e R s m args below meth c T' (locs ++ L) (cells + rm.cells) (slots + rm.slots) → Go p e below s R Qv (T'.setTop { g with pc := g.pc + 3, stack := v.toList ++ rest })) : Go p e below s R Qv (T.setTop g) := by
  subst ha
  obtain ⟨v, vm1, ⟨T', L', c', n'⟩, -, X', ⟨L, hQ, l1, y1, z1⟩, st⟩ := X.specialBack hx hy1 hown (mvT hZ w1) (mvT hZ w2) (mvT hZ w4) hy (backOf (W := W) hM hZ w4 w3 hf hl) hg hsize (Steps.refl _) (a := a) (argsL := argsL) (rest := rest) hlen hst hW hd (fun _ _ => ⟨rfl, eT, hc, hs⟩)
  dsimp only [Pt.U, Pt.locs, Pt.cells, Pt.slots] at X' l1 y1 z1 st hQ
  subst l1 y1 z1
  exact Go.st (fun t k => st.trans k) (k v T' L hQ X')
theorem Go.callV (X : Stand p l e R s m args below meth c T locs cells slots) (hx : p.tables.exec = Jvm.exec) (hZ : Z.Warmed39 s.vm) {own C : String} {index : Nat} {y : MethodName} {bytes : ByteArray} {maxL : Nat} {ret : Option FieldType} (hown : s.vm.findClass own = some m.cls)
    (w1 : (Cond.methodLink own index y).before a0 Z = true) (w2 : (Cond.declares y).before a0 Z = true) (w5 : (Cond.selects C y y).before a0 Z = true) (w6 : (Cond.instanceMethod y).before a0 Z = true) (w3 : (Cond.initialized y.cls).before a0 Z = true) (w4 : (Cond.code y bytes maxL ret).before a0 Z = true) (hy : y.cls ≠ "java/lang/invoke/MethodHandle" ∧ y.cls ≠ "java/lang/invoke/VarHandle")
    {rm : Room} {as' : Array Value} {Q : Option Value → Heap → List Loc → Prop}
    (hM : MetFree l y (head1 [Cond.code y bytes maxL ret] rm) (fun a U => a = as' ∧ Z.Warmed39 U.vm ∧ U.heap = h) (fun _ _ _ _ _ => True) (fun _ U o U' => ∃ v L, o = .returned v ∧ Q v U'.heap L ∧ FrameEnd U o U' L rm.cells rm.slots))
    (eT : T.heap = h) (a : Addr) (E : Exa Z h a C) (W : Nat) (hf : rm.frames + 1 ≤ R.frames) (hl : W + (maxL + 11) + rm.locals ≤ R.locals) {g : JFrame} (hg : g.method = m) (hsize : g.locals.size = c.maxLocals) (argsL rest : List Value) (ha : as' = (.ref a :: argsL).toArray)
    (hlen : ∀ sig, parseMethodDescriptor y.desc = some sig → argsL.length = sig.parameters.length) (hst : g.stack = argsL.reverse ++ .ref a :: rest) (hW : 2 * g.monitorRoom + (rest.map fun v => v.category).sum ≤ W) (hd : decode c.code g.pc = .ok (.invokevirtual index, 3)) (hc : cells + rm.cells ≤ R.cells) (hs : slots + rm.slots ≤ R.slots)
    (k : ∀ v T' L, Q v T'.heap L → Stand p l e R s m args below meth c T' (locs ++ L) (cells + rm.cells) (slots + rm.slots) → Go p e below s R Qv (T'.setTop { g with pc := g.pc + 3, stack := v.toList ++ rest })) : Go p e below s R Qv (T.setTop g) := by
  subst ha
  obtain ⟨cB, kB, q1, q2, q3⟩ := isOf hZ eT E
  obtain ⟨v, vm1, ⟨T', L', c', n'⟩, -, X', ⟨L, hQ, l1, y1, z1⟩, st⟩ := X.virtualBack hx hown (mvT hZ w1) (mvT hZ w2) (notFace_of_selects (args := #[]) (mvT hZ w5)) (mvT hZ w5) (mvT hZ w6) hy (backOf (W := W) hM hZ w4 w3 hf hl) q1 q3 hg hsize (Steps.refl _) (argsL := argsL) (rest := rest) hlen hst hW hd (fun _ _ => ⟨rfl, eT, hc, hs⟩)
  dsimp only [Pt.U, Pt.locs, Pt.cells, Pt.slots] at X' l1 y1 z1 st hQ
  subst l1 y1 z1
  exact Go.st (fun t k => st.trans k) (k v T' L hQ X')
/-- a body's contract, by its walk -/
theorem Go.met {y : MethodName} {bytes : ByteArray} {maxL : Nat} {ret : Option FieldType} {ws : List Cond} {rm : Room} {as' : Array Value} {Q : Option Value → Heap → List Loc → Prop} (hn : plainFor y = true)
    (body : ∀ (p : Program) (e : Env) (s : State) (m : MethodId) (below : List Frame) (meth : Method) (c : Code) (s₁ : State), p.tables.exec = Jvm.exec → c.code = bytes → c.maxLocals = maxL → s.vm.findClass y.cls = some m.cls → meth.name = y.name → meth.sig.returnType = ret → meth.locks = false → Z.Warmed39 s.vm → s₁.heap = h →
      Stand p l e rm s m as' below meth c s₁ [] 0 0 → Go p e below s rm Q (s₁.setTop (entryFrame m as' maxL))) :
    MetFree l y (head1 (Cond.code y bytes maxL ret :: ws) rm) (fun a U => a = as' ∧ Z.Warmed39 U.vm ∧ U.heap = h) (fun _ _ _ _ _ => True) (fun _ U o U' => ∃ v L, o = .returned v ∧ Q v U'.heap L ∧ FrameEnd U o U' L rm.cells rm.slots) := by
  refine MetFree.of_bodySF hn hisR ?_
  intro p e s m args below meth c s₁ Bd hml hP hK
  obtain ⟨rfl, hZ, hh⟩ := hP
  exact body p e s m below meth c s₁ Bd.exec Bd.bytes hml (findClass_of_methodNamed Bd.named) (name_of_methodNamed Bd.named Bd.method).1 Bd.returns Bd.notSynchronized hZ (by rw [← hh, Bd.state]; rfl) (Stand.of_body Bd)
theorem Keep.size_le {h0 h : Heap} {ws : List Addr} (K : Keep h0 h ws) : h0.size ≤ h.size := K.1
theorem Go.cast {g g' : JFrame} (q : g = g') (k : Go p e below s R Qv (T.setTop g')) : Go p e below s R Qv (T.setTop g) := q ▸ k
end Go
end Jvm.RoadKit
namespace Jvm.OwnFl
open Jvm Jvm.FP Jvm.FP.Core Jvm.Free.Fl Op
/-- a double as a whole number of the least doubles -/
abbrev zv (a : UInt64) : Int := zval b64 (val64 a)
theorem zv_def (a : UInt64) : zv a = zval b64 (val64 a) := rfl
theorem nn_int {i : Int} {a : UInt64} (h : DInt i a) : NoNaN64 a := val64_no.mpr (DInt_ne_nan h)
theorem nn_fin {a : UInt64} (h : DFin a) : NoNaN64 a := val64_no.mpr h.ne_nan
theorem fin_int {i : Int} {a : UInt64} (h : DInt i a) : DFin a := by
  unfold DInt at h
  cases hv : val64 a with
  | nan => rw [hv] at h; exact h.elim
  | inf s => rw [hv] at h; exact h.elim
  | fin s c q => exact ⟨s, c, q, hv⟩
/-! what a comparison pushes -/
theorem cv_lt {a b : UInt64} (ha : NoNaN64 a) (hb : NoNaN64 b) (h : zv a < zv b) (o : ClassFile.CmpOp) : cmpValue (FP.dcmp a b) o = -1 := by
  rw [show FP.dcmp a b = some .lt by
    show Core.dcmp a b = _
    rw [dcmp_zval (val64_no.mp ha) (val64_no.mp hb)]; exact congrArg some ((compare_lt_iff _ _).mpr h)]
  cases o <;> rfl
theorem cv_eq {a b : UInt64} (ha : NoNaN64 a) (hb : NoNaN64 b) (h : zv a = zv b) (o : ClassFile.CmpOp) : cmpValue (FP.dcmp a b) o = 0 := by
  rw [show FP.dcmp a b = some .eq by
    show Core.dcmp a b = _
    rw [dcmp_zval (val64_no.mp ha) (val64_no.mp hb)]; exact congrArg some ((compare_eq_iff _ _).mpr h)]
  cases o <;> rfl
theorem cv_gt {a b : UInt64} (ha : NoNaN64 a) (hb : NoNaN64 b) (h : zv b < zv a) (o : ClassFile.CmpOp) : cmpValue (FP.dcmp a b) o = 1 := by
  rw [show FP.dcmp a b = some .gt by
    show Core.dcmp a b = _
    rw [dcmp_zval (val64_no.mp ha) (val64_no.mp hb)]; exact congrArg some ((compare_gt_iff _ _).mpr h)]
  cases o <;> rfl
theorem cv_ge {a b : UInt64} (ha : NoNaN64 a) (hb : NoNaN64 b) (h : zv b ≤ zv a) (o : ClassFile.CmpOp) : ¬ (cmpValue (FP.dcmp a b) o < 0) := by
  rcases Int.lt_or_eq_of_le h with h | h
  · rw [cv_gt ha hb h o]; decide
  · rw [cv_eq ha hb h.symm o]; decide
theorem cv_le {a b : UInt64} (ha : NoNaN64 a) (hb : NoNaN64 b) (h : zv a ≤ zv b) (o : ClassFile.CmpOp) : ¬ (0 < cmpValue (FP.dcmp a b) o) := by
  rcases Int.lt_or_eq_of_le h with h | h
  · rw [cv_lt ha hb h o]; decide
  · rw [cv_eq ha hb h o]; decide
theorem cv_lt' {a b : UInt64} (ha : NoNaN64 a) (hb : NoNaN64 b) (h : zv a < zv b) (o : ClassFile.CmpOp) : cmpValue (FP.dcmp a b) o < 0 := by rw [cv_lt ha hb h o]; decide
theorem cv_gt' {a b : UInt64} (ha : NoNaN64 a) (hb : NoNaN64 b) (h : zv b < zv a) (o : ClassFile.CmpOp) : 0 < cmpValue (FP.dcmp a b) o := by rw [cv_gt ha hb h o]; decide
theorem cv_ne {a b : UInt64} (ha : NoNaN64 a) (hb : NoNaN64 b) (h : zv a ≠ zv b) (o : ClassFile.CmpOp) : ¬ (cmpValue (FP.dcmp a b) o = 0) := by
  rcases Int.lt_or_gt_of_ne h with h | h
  · rw [cv_lt ha hb h o]; decide
  · rw [cv_gt ha hb h o]; decide
/-! what lcmp pushes -/
theorem lc_eq {x y : Int64} : Jvm.RoadKit.lcmpW x y = 0 ↔ x.toInt = y.toInt := by
  rw [Int64.toInt_inj]
  unfold Jvm.RoadKit.lcmpW
  by_cases h : x > y
  · rw [if_pos h]; constructor
    · intro h1; exact absurd h1 (by decide)
    · rintro rfl; exact absurd h (Int64.lt_irrefl)
  · rw [if_neg h]
    by_cases h2 : x = y
    · rw [if_pos h2]; simp [h2]
    · rw [if_neg h2]; constructor
      · intro h1; exact absurd h1 (by decide)
      · intro h1; exact absurd h1 h2
theorem lc_gt {x y : Int64} : 0 < Jvm.RoadKit.lcmpW x y ↔ y.toInt < x.toInt := by
  rw [← Int64.lt_iff_toInt_lt]
  unfold Jvm.RoadKit.lcmpW
  by_cases h : x > y
  · rw [if_pos h]; exact ⟨fun _ => h, fun _ => by decide⟩
  · rw [if_neg h]
    by_cases h2 : x = y
    · rw [if_pos h2]; exact ⟨fun h1 => absurd h1 (by decide), fun h1 => absurd h1 h⟩
    · rw [if_neg h2]; exact ⟨fun h1 => absurd h1 (by decide), fun h1 => absurd h1 h⟩
theorem lc_lt {x y : Int64} : Jvm.RoadKit.lcmpW x y < 0 ↔ x.toInt < y.toInt := by
  by_cases h : x > y
  · have h3 := Int64.lt_iff_toInt_lt.mp h
    unfold Jvm.RoadKit.lcmpW
    rw [if_pos h]; exact ⟨fun h1 => absurd h1 (by decide), fun h1 => by omega⟩
  · have h3 : ¬ (y.toInt < x.toInt) := fun q => h (Int64.lt_iff_toInt_lt.mpr q)
    unfold Jvm.RoadKit.lcmpW
    rw [if_neg h]
    by_cases h2 : x = y
    · rw [if_pos h2]; subst h2; exact ⟨fun h1 => absurd h1 (by decide), fun h1 => by omega⟩
    · rw [if_neg h2]
      have h4 : x.toInt ≠ y.toInt := fun q => h2 (Int64.toInt_inj.mp q)
      exact ⟨fun _ => by omega, fun _ => by decide⟩
/-! whole numbers -/
theorem zv_int {i : Int} {a : UInt64} (h : DInt i a) : zv a = i * (one64 : Int) := DInt_zval h
theorem one_pos : (0 : Int) < (one64 : Int) := Int.ofNat_lt.mpr one64_pos
theorem cvi_eq {i j : Int} {a b : UInt64} (ha : DInt i a) (hb : DInt j b) (h : i = j) (o : ClassFile.CmpOp) : cmpValue (FP.dcmp a b) o = 0 :=
  cv_eq (nn_int ha) (nn_int hb) (by rw [zv_int ha, zv_int hb, h]) o
theorem cvi_lt {i j : Int} {a b : UInt64} (ha : DInt i a) (hb : DInt j b) (h : i < j) (o : ClassFile.CmpOp) : cmpValue (FP.dcmp a b) o = -1 :=
  cv_lt (nn_int ha) (nn_int hb) (by rw [zv_int ha, zv_int hb]; exact Int.mul_lt_mul_of_pos_right h one_pos) o
theorem cvi_gt {i j : Int} {a b : UInt64} (ha : DInt i a) (hb : DInt j b) (h : j < i) (o : ClassFile.CmpOp) : cmpValue (FP.dcmp a b) o = 1 :=
  cv_gt (nn_int ha) (nn_int hb) (by rw [zv_int ha, zv_int hb]; exact Int.mul_lt_mul_of_pos_right h one_pos) o
theorem zint : DInt 0 (0 : UInt64) := by unfold DInt; rw [val64_zero]; show signed false (0 * _) = 0 * _; simp [signed]
theorem l2dI {x : Int64} (h1 : -9007199254740992 ≤ x.toInt) (h2 : x.toInt ≤ 9007199254740992) : DInt x.toInt (FP.l2d x) := l2d_int (by omega)
theorem i2dI (x : Int32) : DInt x.toInt (FP.i2d x) := i2d_int x
theorem mulI {i j : Int} {a b : UInt64} (ha : DInt i a) (hb : DInt j b) (h : (i * j).natAbs ≤ 9007199254740992) : DInt (i * j) (FP.dmul a b) := dmul_int ha hb h
theorem addI {i j : Int} {a b : UInt64} (ha : DInt i a) (hb : DInt j b) (h : (i + j).natAbs ≤ 9007199254740992) : DInt (i + j) (FP.dadd a b) := dadd_int ha hb h
theorem subI {i j : Int} {a b : UInt64} (ha : DInt i a) (hb : DInt j b) (h : (i - j).natAbs ≤ 9007199254740992) : DInt (i - j) (FP.dsub a b) := dsub_int ha hb h
theorem absMul {i j : Int} {A B : Nat} (h1 : i.natAbs ≤ A) (h2 : j.natAbs ≤ B) : (i * j).natAbs ≤ A * B := by rw [Int.natAbs_mul]; exact Nat.mul_le_mul h1 h2
end Jvm.OwnFl
namespace Jvm.OwnFl
open Jvm Jvm.FP Jvm.FP.Core Jvm.Free.Fl Op
/-! ROUNDING: rz A B: the double nearest A / B, as a whole number of the least doubles -/
def rz (A B : Nat) : Nat := zmag b64 (roundRatio b64 false A B 0)
/-- v least doubles are a double -/
def Rep (v : Nat) : Prop := ∃ c q, Core.fits b64 (.fin false c q) ∧ inUnits c q b64.qmin = v
theorem qz : b64.qmin = -1074 := by decide
theorem rep_of {c k : Nat} (hc : c < 2 ^ 53) (hk : k ≤ 2045) : Rep (c * 2 ^ k) := by
  obtain ⟨c', q', h1, h2⟩ := round_exact good_b64 false (c := c) (q := b64.qmin + k) hc (by omega) (by have : b64.qmax = 971 := by decide
                                                                                                       rw [qz, this]; omega)
  refine ⟨c', q', ?_, ?_⟩
  · rw [← h1]; exact round_fits good_b64 _
  · rw [h2]; unfold inUnits; rw [show (b64.qmin + (k : Int) - b64.qmin).toNat = k by omega]
theorem rep_le {n k : Nat} (hn : n ≤ 2 ^ 53) (hk : k ≤ 2044) : Rep (n * 2 ^ k) := by
  rcases Nat.lt_or_eq_of_le hn with h | h
  · exact rep_of h (by omega)
  · have := rep_of (c := 2 ^ 52) (k := k + 1) (by decide) (by omega)
    rw [h]; rw [Nat.pow_succ] at this
    rw [show (2 : Nat) ^ 53 * 2 ^ k = 2 ^ 52 * (2 ^ k * 2) by rw [show (2 : Nat) ^ 53 = 2 ^ 52 * 2 from rfl]; grind]
    exact this
theorem rep_int {n : Nat} (hn : n ≤ 2 ^ 53) : Rep (n * one64) := rep_le hn (by decide)
theorem inU (A : Nat) : inUnits A 0 b64.qmin = A * one64 := by
  unfold inUnits; rw [← pow_qmin64, show (0 - b64.qmin : Int) = -b64.qmin by omega]
theorem rz_le {A B v : Nat} (hB : 0 < B) (hv : Rep v) (h : A * one64 ≤ v * B) : rz A B ≤ v := by
  obtain ⟨c, q, hf, rfl⟩ := hv
  refine zmag_roundRatio_le good_b64 hB hf (by simp) (e0 := b64.qmin) (Int.le_refl _) (by rw [qz]; decide) ?_
  rw [inU, show (b64.qmin - b64.qmin : Int).toNat = 0 by omega, Nat.pow_zero, Nat.mul_one]
  exact h
theorem rz_ge {A B v : Nat} (hB : 0 < B) (hv : Rep v) (h : v * B ≤ A * one64) : v ≤ rz A B := by
  obtain ⟨c, q, hf, rfl⟩ := hv
  refine zmag_roundRatio_ge good_b64 hB hf (e0 := b64.qmin) (Int.le_refl _) (by rw [qz]; decide) ?_
  rw [inU, show (b64.qmin - b64.qmin : Int).toNat = 0 by omega, Nat.pow_zero, Nat.mul_one]
  exact h
theorem rz_exact {A B v : Nat} (hB : 0 < B) (hv : Rep v) (h : A * one64 = v * B) : rz A B = v :=
  Nat.le_antisymm (rz_le hB hv (Nat.le_of_eq h)) (rz_ge hB hv (Nat.le_of_eq h.symm))
theorem rz_congr {A B A' B' : Nat} (hB : 0 < B) (hB' : 0 < B') (h : A * B' = A' * B) : rz A B = rz A' B' := by
  unfold rz
  rw [roundRatio_congr (f := b64) (s := false) (e := 0) (e' := 0) hB hB' (by simpa using h)]
theorem rz_zero (B : Nat) : rz 0 B = 0 := by
  unfold rz roundRatio; simp [zmag, inUnits]
theorem zmag_sign (s : Bool) (A B : Nat) (e : Int) : zmag b64 (roundRatio b64 s A B e) = zmag b64 (roundRatio b64 false A B e) := by
  unfold roundRatio roundAt settle bound
  split
  · rfl
  · split
    · split <;> rfl
    · split <;> rfl
/-- the quotient of two finite doubles -/
theorem val_ddiv {a b : UInt64} (ha : DFin a) (hb : DFin b) (h0 : zv b ≠ 0) :
    ∃ s A B, 0 < B ∧ zv a = signed (sgn (val64 a)) A ∧ zv b = signed (sgn (val64 b)) B ∧ s = (sgn (val64 a) != sgn (val64 b)) ∧ val64 (FP.ddiv a b) = roundRatio b64 s A B 0 := by
  obtain ⟨s, c, q, e1⟩ := ha
  obtain ⟨t, d, r, e2⟩ := hb
  have f1 := val64_fits a
  have f2 := val64_fits b
  have hzb : zv b = signed t (inUnits d r b64.qmin) := by rw [zv_def, e2]; rfl
  have hd : d ≠ 0 := by
    intro hd; apply h0; rw [hzb, hd]; unfold inUnits; rw [Nat.zero_mul, signed_zero]
  rw [e1] at f1; rw [e2] at f2
  have q1 := f1.2.1; have q2 := f2.2.1
  refine ⟨s != t, inUnits c q b64.qmin, inUnits d r b64.qmin, Nat.mul_pos (Nat.pos_of_ne_zero hd) (Nat.two_pow_pos _), by rw [zv_def, e1]; rfl, by rw [zv_def, e2]; rfl, by rw [e1, e2]; rfl, ?_⟩
  show val64 (Core.ddiv a b) = _
  rw [val64_ddiv, e1, e2]
  show (if d = 0 then _ else roundRatio b64 (s != t) c d (q - r)) = _
  rw [if_neg hd]
  refine roundRatio_congr (Nat.pos_of_ne_zero hd) (Nat.mul_pos (Nat.pos_of_ne_zero hd) (Nat.two_pow_pos _)) ?_
  unfold inUnits
  have e3 : (r - b64.qmin).toNat + (q - r - 0).toNat = (q - b64.qmin).toNat + (0 - (q - r)).toNat := by omega
  rw [show c * (d * 2 ^ (r - b64.qmin).toNat) * 2 ^ (q - r - 0).toNat = c * d * (2 ^ (r - b64.qmin).toNat * 2 ^ (q - r - 0).toNat) by grind, ← Nat.pow_add, e3, Nat.pow_add]
  grind
theorem zv_round (s : Bool) (A B : Nat) : zval b64 (roundRatio b64 s A B 0) = signed s (rz A B) := by
  unfold zval; rw [sgn_roundRatio, zmag_sign]; rfl
theorem nn_ddiv {a b : UInt64} (ha : DFin a) (hb : DFin b) (h0 : zv b ≠ 0) : NoNaN64 (FP.ddiv a b) := by
  obtain ⟨s, A, B, -, -, -, -, h⟩ := val_ddiv ha hb h0
  refine val64_no.mpr ?_
  rw [h]; exact roundRatio_ne_nan _ _ _ _ _
/-- where both are positive, or the dividend nought -/
theorem zv_ddiv {a b : UInt64} {A B : Nat} (ha : DFin a) (hb : DFin b) (h1 : zv a = (A : Int)) (h2 : zv b = (B : Int)) (hB : 0 < B) : zv (FP.ddiv a b) = (rz A B : Int) := by
  obtain ⟨s, A', B', p, q1, q2, hs, h⟩ := val_ddiv ha hb (by omega)
  have e1 : A' = A := by
    have := natAbs_signed (sgn (val64 a)) A'
    rw [← q1, h1] at this; omega
  have e2 : B' = B := by
    have := natAbs_signed (sgn (val64 b)) B'
    rw [← q2, h2] at this; omega
  subst e1 e2
  rw [zv_def, h, zv_round]
  by_cases z : A' = 0
  · subst z; rw [rz_zero, signed_zero]; rfl
  · have s1 : sgn (val64 a) = false := by
      cases hq : sgn (val64 a) with
      | false => rfl
      | true => rw [hq, h1] at q1; simp only [signed, if_true] at q1; omega
    have s2 : sgn (val64 b) = false := by
      cases hq : sgn (val64 b) with
      | false => rfl
      | true => rw [hq, h2] at q2; simp only [signed, if_true] at q2; omega
    rw [hs, s1, s2]; rfl
/-- the quotient of two whole numbers, the divisor positive -/
theorem zv_divI {i j : Nat} {a b : UInt64} (ha : DInt i a) (hb : DInt j b) (hj : 0 < j) : zv (FP.ddiv a b) = (rz i j : Int) := by
  have h1 : zv a = ((i * one64 : Nat) : Int) := by rw [zv_int ha]; rfl
  have h2 : zv b = ((j * one64 : Nat) : Int) := by rw [zv_int hb]; rfl
  rw [zv_ddiv (fin_int ha) (fin_int hb) h1 h2 (Nat.mul_pos hj one64_pos)]
  exact congrArg Int.ofNat (rz_congr (Nat.mul_pos hj one64_pos) hj (by grind))
theorem nn_divI {i j : Int} {a b : UInt64} (ha : DInt i a) (hb : DInt j b) (hj : j ≠ 0) : NoNaN64 (FP.ddiv a b) :=
  nn_ddiv (fin_int ha) (fin_int hb) (by rw [zv_int hb]; have := one_pos; intro h; rcases Int.mul_eq_zero.mp h with h | h <;> omega)
theorem sgn_key {k : Int} {t : Bool} {K : Nat} (hk : k * (one64 : Int) = signed t K) (h0 : k ≠ 0) : t = decide (k < 0) := by
  rcases Int.lt_or_gt_of_ne h0 with h | h
  · have h1 := Int.mul_neg_of_neg_of_pos h one_pos
    cases t with
    | true => simp [h]
    | false => rw [hk] at h1; simp only [signed] at h1; exfalso; simp at h1; omega
  · have h1 := Int.mul_pos h one_pos
    cases t with
    | false => simp; omega
    | true => rw [hk] at h1; simp only [signed, if_true] at h1; exfalso; omega
/-- the quotient of two whole numbers, by their signs -/
theorem zv_divS {i j : Int} {a b : UInt64} (ha : DInt i a) (hb : DInt j b) (hj : j ≠ 0) : ((0 ≤ i ∧ 0 < j) ∨ (i ≤ 0 ∧ j < 0) → zv (FP.ddiv a b) = (rz i.natAbs j.natAbs : Int)) ∧ ((0 ≤ i ∧ j < 0) ∨ (i ≤ 0 ∧ 0 < j) → zv (FP.ddiv a b) = -(rz i.natAbs j.natAbs : Int)) := by
  have hz : zv b ≠ 0 := by rw [zv_int hb]; have := one_pos; intro h; rcases Int.mul_eq_zero.mp h with h | h <;> omega
  obtain ⟨s, A, B, hB, h1, h2, hs, h⟩ := val_ddiv (fin_int ha) (fin_int hb) hz
  rw [zv_int ha] at h1; rw [zv_int hb] at h2
  have eA : i.natAbs * one64 = A := by have := congrArg Int.natAbs h1; rw [natAbs_signed, Int.natAbs_mul, Int.natAbs_natCast] at this; exact this
  have eB : j.natAbs * one64 = B := by have := congrArg Int.natAbs h2; rw [natAbs_signed, Int.natAbs_mul, Int.natAbs_natCast] at this; exact this
  have hr : rz A B = rz i.natAbs j.natAbs := by subst eA eB; exact rz_congr hB (by omega) (by generalize one64 = o; ac_rfl)
  have hv : zv (FP.ddiv a b) = signed s (rz A B) := by rw [zv_def, h, zv_round]
  have sb := sgn_key h2 hj
  by_cases hi : i = 0
  · have : rz A B = 0 := by rw [hr, hi]; exact rz_zero _
    rw [hv, this, signed_zero]
    rw [this] at hr
    omega
  · have sa := sgn_key h1 hi
    rw [sa, sb] at hs
    rw [hv, hr, hs]
    constructor
    · rintro (⟨q1, q2⟩ | ⟨q1, q2⟩)
      · have : ¬ i < 0 := by omega
        have : ¬ j < 0 := by omega
        simp [*, signed]
      · have : i < 0 := by omega
        simp [*, signed]
    · rintro (⟨q1, q2⟩ | ⟨q1, q2⟩)
      · have : ¬ i < 0 := by omega
        simp [*, signed]
      · have : i < 0 := by omega
        have : ¬ j < 0 := by omega
        simp [*, signed]
end Jvm.OwnFl
namespace Jvm.OwnFl
open Jvm Jvm.FP Jvm.FP.Core Jvm.Free.Fl Op
/-! sums, differences, products: rounded between the doubles that bound them -/
theorem repz {v : Int} (h : Rep v.natAbs) : ∃ V, Core.fits b64 V ∧ V ≠ .nan ∧ zval b64 V = v := by
  obtain ⟨c, q, hf, hq⟩ := h
  refine ⟨.fin (decide (v < 0)) c q, hf, by simp, ?_⟩
  show signed (decide (v < 0)) (inUnits c q b64.qmin) = v
  rw [hq]; unfold signed
  by_cases h : v < 0 <;> simp [h] <;> omega
theorem q0 : ((2 ^ (b64.qmin - b64.qmin).toNat : Nat) : Int) = 1 := by rw [show (b64.qmin - b64.qmin).toNat = 0 by omega]; rfl
theorem zadd_le {a b : UInt64} {v : Int} (ha : DFin a) (hb : DFin b) (hv : Rep v.natAbs) (h : zv a + zv b ≤ v) : zv (FP.dadd a b) ≤ v := by
  obtain ⟨V, h1, h2, rfl⟩ := repz hv
  obtain ⟨s, c, q, e1⟩ := ha
  obtain ⟨t, d, r, e2⟩ := hb
  have f1 := val64_fits a
  have f2 := val64_fits b
  rw [zv_def, zv_def, e1, e2] at h
  rw [e1] at f1; rw [e2] at f2
  obtain ⟨sg, n, e, k1, k2, k3⟩ := sum_units f1 f2
  show zval b64 (val64 (Core.dadd a b)) ≤ _
  rw [val64_dadd, e1, e2, k1]
  exact zval_round_le good_b64 h1 h2 (Int.le_refl _) k2 (by rw [k3, q0, Int.mul_one]; exact h)
theorem zadd_ge {a b : UInt64} {v : Int} (ha : DFin a) (hb : DFin b) (hv : Rep v.natAbs) (h : v ≤ zv a + zv b) : v ≤ zv (FP.dadd a b) := by
  obtain ⟨V, h1, h2, rfl⟩ := repz hv
  obtain ⟨s, c, q, e1⟩ := ha
  obtain ⟨t, d, r, e2⟩ := hb
  have f1 := val64_fits a
  have f2 := val64_fits b
  rw [zv_def, zv_def, e1, e2] at h
  rw [e1] at f1; rw [e2] at f2
  obtain ⟨sg, n, e, k1, k2, k3⟩ := sum_units f1 f2
  show _ ≤ zval b64 (val64 (Core.dadd a b))
  rw [val64_dadd, e1, e2, k1]
  exact zval_round_ge good_b64 h1 h2 (Int.le_refl _) k2 (by rw [k3, q0, Int.mul_one]; exact h)
theorem zadd {a b : UInt64} (ha : DFin a) (hb : DFin b) (hv : Rep (zv a + zv b).natAbs) : zv (FP.dadd a b) = zv a + zv b :=
  Int.le_antisymm (zadd_le ha hb hv (Int.le_refl _)) (zadd_ge ha hb hv (Int.le_refl _))
theorem zneg (a : UInt64) : zv (Core.dneg a) = -zv a := by
  show zval b64 (val64 (Core.dneg a)) = _
  rw [Core.val64_dneg]; exact zval_negate _ _
theorem neg_fin {a : UInt64} (ha : DFin a) : DFin (Core.dneg a) := by
  obtain ⟨s, c, q, e1⟩ := ha
  exact ⟨!s, c, q, by rw [Core.val64_dneg, e1]; rfl⟩
theorem zsub_le {a b : UInt64} {v : Int} (ha : DFin a) (hb : DFin b) (hv : Rep v.natAbs) (h : zv a - zv b ≤ v) : zv (FP.dsub a b) ≤ v := by
  show zv (Core.dsub a b) ≤ v
  rw [Core.dsub_eq]
  exact zadd_le ha (neg_fin hb) hv (by rw [zneg]; omega)
theorem zsub_ge {a b : UInt64} {v : Int} (ha : DFin a) (hb : DFin b) (hv : Rep v.natAbs) (h : v ≤ zv a - zv b) : v ≤ zv (FP.dsub a b) := by
  show v ≤ zv (Core.dsub a b)
  rw [Core.dsub_eq]
  exact zadd_ge ha (neg_fin hb) hv (by rw [zneg]; omega)
theorem zsub {a b : UInt64} (ha : DFin a) (hb : DFin b) (hv : Rep (zv a - zv b).natAbs) : zv (FP.dsub a b) = zv a - zv b :=
  Int.le_antisymm (zsub_le ha hb hv (Int.le_refl _)) (zsub_ge ha hb hv (Int.le_refl _))
theorem q2 : ((2 ^ (b64.qmin - 2 * b64.qmin).toNat : Nat) : Int) = (one64 : Int) := by rw [← pow_qmin64, show (b64.qmin - 2 * b64.qmin) = -b64.qmin by omega]
theorem zmul_le {a b : UInt64} {v : Int} (ha : DFin a) (hb : DFin b) (hv : Rep v.natAbs) (h : zv a * zv b ≤ v * (one64 : Int)) : zv (FP.dmul a b) ≤ v := by
  obtain ⟨V, h1, h2, rfl⟩ := repz hv
  obtain ⟨s, c, q, e1⟩ := ha
  obtain ⟨t, d, r, e2⟩ := hb
  have f1 := val64_fits a
  have f2 := val64_fits b
  rw [zv_def, zv_def, e1, e2] at h
  rw [e1] at f1; rw [e2] at f2
  obtain ⟨k1, k2, k3⟩ := product_units f1 f2
  show zval b64 (val64 (Core.dmul a b)) ≤ _
  rw [val64_dmul, e1, e2, k1]
  exact zval_round_le good_b64 h1 h2 (e0 := 2 * b64.qmin) (by rw [qz]; decide) k2 (by rw [k3, q2, signed_xor]; exact h)
theorem zmul_ge {a b : UInt64} {v : Int} (ha : DFin a) (hb : DFin b) (hv : Rep v.natAbs) (h : v * (one64 : Int) ≤ zv a * zv b) : v ≤ zv (FP.dmul a b) := by
  obtain ⟨V, h1, h2, rfl⟩ := repz hv
  obtain ⟨s, c, q, e1⟩ := ha
  obtain ⟨t, d, r, e2⟩ := hb
  have f1 := val64_fits a
  have f2 := val64_fits b
  rw [zv_def, zv_def, e1, e2] at h
  rw [e1] at f1; rw [e2] at f2
  obtain ⟨k1, k2, k3⟩ := product_units f1 f2
  show _ ≤ zval b64 (val64 (Core.dmul a b))
  rw [val64_dmul, e1, e2, k1]
  exact zval_round_ge good_b64 h1 h2 (e0 := 2 * b64.qmin) (by rw [qz]; decide) k2 (by rw [k3, q2, signed_xor]; exact h)
theorem zmul {a b : UInt64} {v : Int} (ha : DFin a) (hb : DFin b) (hv : Rep v.natAbs) (h : zv a * zv b = v * (one64 : Int)) : zv (FP.dmul a b) = v :=
  Int.le_antisymm (zmul_le ha hb hv (Int.le_of_eq h)) (zmul_ge ha hb hv (Int.le_of_eq h.symm))
theorem fin_le {a : UInt64} (hn : NoNaN64 a) (h : (zv a).natAbs ≤ 2 ^ 1974) : DFin a := by
  cases hv : val64 a with
  | nan => exact absurd hv (val64_no.mp hn)
  | fin s c q => exact ⟨s, c, q, hv⟩
  | inf s =>
    exfalso
    rw [zv_def, hv] at h
    have h1 : (zval b64 (.inf s)).natAbs = b64.tails * 2 ^ (b64.exps - 2) := natAbs_signed _ _
    rw [h1] at h
    have h3 : (2 : Nat) ^ 1974 < b64.tails * 2 ^ (b64.exps - 2) := by decide +kernel
    exact absurd (Nat.lt_of_le_of_lt h h3) (Nat.lt_irrefl _)
theorem nn_add {a b : UInt64} (ha : DFin a) (hb : DFin b) : NoNaN64 (FP.dadd a b) := noNaN64_no.mpr (Core.dadd_out ha.notNaN hb)
theorem nn_sub {a b : UInt64} (ha : DFin a) (hb : DFin b) : NoNaN64 (FP.dsub a b) := noNaN64_no.mpr (Core.dsub_out ha.notNaN hb)
theorem nn_mul {a b : UInt64} (ha : DFin a) (hb : DFin b) : NoNaN64 (FP.dmul a b) := noNaN64_no.mpr (Core.dmul_out ha hb)
end Jvm.OwnFl
namespace Jvm.Pilot.@@N@@
open Jvm Jvm.ClassFile Sem Op Lib Jvm.Free Jvm.Stand Jvm.LawKit Jvm.RoadKit Bundle Jvm.Pilot.@@N@@.Jvm.D
section Own
open Jvm.OwnFl Jvm.FP.Core Jvm.Free.Fl
theorem own_half : NoNaN64 (4602678819172646912 : UInt64) ∧ DFin (4602678819172646912 : UInt64) ∧ zv (4602678819172646912 : UInt64) = ((2 ^ 1073 : Nat) : Int) := by
  have h : val64 4602678819172646912 = .fin false (2 ^ 52) (-53) := by decide +kernel
  refine ⟨val64_no.mpr (by rw [h]; simp), ⟨_, _, _, h⟩, ?_⟩
  rw [zv_def, h]; decide +kernel
theorem own_O : (one64 : Int) = 2 * ((2 ^ 1073 : Nat) : Int) := by
  unfold one64; rw [show (1074 : Nat) = 1073 + 1 from rfl, Nat.pow_succ]; omega
theorem own_i (v : Int32) : -2147483649 ≤ v.toInt64.toInt ∧ v.toInt64.toInt ≤ 2147483648 := by
  have h1 := v.le_toInt; have h2 := v.toInt_lt
  rw [Jvm.Kit.i64_of_i32]; omega
theorem own_lo {v : Int32} {u : Int64} (q : v.toInt64 = u) : -2147483649 ≤ (u - (1 : Int64)).toInt ∧ (u - (1 : Int64)).toInt ≤ 2147483648 := by
  have h1 := v.le_toInt; have h2 := v.toInt_lt
  have h3 := Jvm.Kit.i64_of_i32 v
  rw [q] at h3
  rw [Jvm.Kit.i64_sub (by rw [Int64.toInt_one]; omega) (by rw [Int64.toInt_one]; omega), Int64.toInt_one]; omega
theorem own_hi {v : Int32} {u : Int64} (q : v.toInt64 = u) : -2147483649 ≤ (u + (1 : Int64)).toInt ∧ (u + (1 : Int64)).toInt ≤ 2147483648 := by
  have h1 := v.le_toInt; have h2 := v.toInt_lt
  have h3 := Jvm.Kit.i64_of_i32 v
  rw [q] at h3
  rw [Jvm.Kit.i64_add (by rw [Int64.toInt_one]; omega) (by rw [Int64.toInt_one]; omega), Int64.toInt_one]; omega
theorem own_x {v : Int32} {u : Int64} (q : v.toInt64 = u) : -2147483649 ≤ u.toInt ∧ u.toInt ≤ 2147483648 := by rw [← q]; exact own_i v
theorem own_v {x : Int64} (h : -2147483649 ≤ x.toInt ∧ x.toInt ≤ 2147483648) : NoNaN64 (FP.l2d x) ∧ zv (FP.l2d x) = x.toInt * (one64 : Int) := by
  have d := l2dI (x := x) (by omega) (by omega)
  exact ⟨nn_int d, zv_int d⟩
theorem own_w {x : Int64} (h : -2147483649 ≤ x.toInt ∧ x.toInt ≤ 2147483648) : NoNaN64 (FP.dadd (FP.l2d x) (4602678819172646912 : UInt64)) ∧ zv (FP.dadd (FP.l2d x) (4602678819172646912 : UInt64)) = (2 * x.toInt + 1) * ((2 ^ 1073 : Nat) : Int) := by
  have d := l2dI (x := x) (by omega) (by omega)
  have e : zv (FP.l2d x) + zv (4602678819172646912 : UInt64) = (2 * x.toInt + 1) * ((2 ^ 1073 : Nat) : Int) := by
    rw [zv_int d, own_half.2.2, own_O]; grind
  refine ⟨nn_add (fin_int d) own_half.2.1, ?_⟩
  rw [zadd (fin_int d) own_half.2.1 ?_, e]
  rw [e, Int.natAbs_mul, Int.natAbs_natCast]
  exact rep_le (by omega) (by decide)
theorem own_p : (0 : Int) < ((2 ^ 1073 : Nat) : Int) := Int.ofNat_lt.mpr (Nat.two_pow_pos _)
/-- the value is x -/
theorem own_cl {a : Int32} {u x : Int64} (q : a.toInt64 = u) (h : -2147483649 ≤ x.toInt ∧ x.toInt ≤ 2147483648) : (0 < lcmpW u x → 0 < cmpValue (FP.dcmp (FP.i2d a) (FP.l2d x)) .g) ∧ (¬ 0 < lcmpW u x → ¬ 0 < cmpValue (FP.dcmp (FP.i2d a) (FP.l2d x)) .g) := by
  have e : u.toInt = a.toInt := by rw [← q]; exact Jvm.Kit.i64_of_i32 a
  constructor
  · intro c; have := lc_gt.mp c
    refine cv_gt' (nn_int (i2dI a)) (own_v h).1 ?_ .g
    rw [(own_v h).2, zv_int (i2dI a)]; exact Int.mul_lt_mul_of_pos_right (by omega) one_pos
  · intro c; have := mt lc_gt.mpr c
    refine cv_le (nn_int (i2dI a)) (own_v h).1 ?_ .g
    rw [(own_v h).2, zv_int (i2dI a)]; exact Int.mul_le_mul_of_nonneg_right (by omega) (Int.le_of_lt one_pos)
theorem own_cr {b : Int32} {u x : Int64} (q : b.toInt64 = u) (h : -2147483649 ≤ x.toInt ∧ x.toInt ≤ 2147483648) : (0 < lcmpW x u → 0 < cmpValue (FP.dcmp (FP.l2d x) (FP.i2d b)) .g) ∧ (¬ 0 < lcmpW x u → ¬ 0 < cmpValue (FP.dcmp (FP.l2d x) (FP.i2d b)) .g) := by
  have e : u.toInt = b.toInt := by rw [← q]; exact Jvm.Kit.i64_of_i32 b
  constructor
  · intro c; have := lc_gt.mp c
    refine cv_gt' (own_v h).1 (nn_int (i2dI b)) ?_ .g
    rw [(own_v h).2, zv_int (i2dI b)]; exact Int.mul_lt_mul_of_pos_right (by omega) one_pos
  · intro c; have := mt lc_gt.mpr c
    refine cv_le (own_v h).1 (nn_int (i2dI b)) ?_ .g
    rw [(own_v h).2, zv_int (i2dI b)]; exact Int.mul_le_mul_of_nonneg_right (by omega) (Int.le_of_lt one_pos)
/-- the value is x + 1/2 -/
theorem own_hl {a : Int32} {u x : Int64} (q : a.toInt64 = u) (h : -2147483649 ≤ x.toInt ∧ x.toInt ≤ 2147483648) : (0 < lcmpW u x → 0 < cmpValue (FP.dcmp (FP.i2d a) (FP.dadd (FP.l2d x) (4602678819172646912 : UInt64))) .g) ∧ (¬ 0 < lcmpW u x → ¬ 0 < cmpValue (FP.dcmp (FP.i2d a) (FP.dadd (FP.l2d x) (4602678819172646912 : UInt64))) .g) := by
  have e : u.toInt = a.toInt := by rw [← q]; exact Jvm.Kit.i64_of_i32 a
  have ez : zv (FP.i2d a) = (2 * a.toInt) * ((2 ^ 1073 : Nat) : Int) := by rw [zv_int (i2dI a), own_O]; grind
  constructor
  · intro c; have := lc_gt.mp c
    refine cv_gt' (nn_int (i2dI a)) (own_w h).1 ?_ .g
    rw [(own_w h).2, ez]; exact Int.mul_lt_mul_of_pos_right (by omega) own_p
  · intro c; have := mt lc_gt.mpr c
    refine cv_le (nn_int (i2dI a)) (own_w h).1 ?_ .g
    rw [(own_w h).2, ez]; exact Int.mul_le_mul_of_nonneg_right (by omega) (Int.le_of_lt own_p)
theorem own_hr {b : Int32} {u x : Int64} (q : b.toInt64 = u) (h : -2147483649 ≤ x.toInt ∧ x.toInt ≤ 2147483648) : (0 < lcmpW (x + (1 : Int64)) u → 0 < cmpValue (FP.dcmp (FP.dadd (FP.l2d x) (4602678819172646912 : UInt64)) (FP.i2d b)) .g) ∧ (¬ 0 < lcmpW (x + (1 : Int64)) u → ¬ 0 < cmpValue (FP.dcmp (FP.dadd (FP.l2d x) (4602678819172646912 : UInt64)) (FP.i2d b)) .g) := by
  have e : u.toInt = b.toInt := by rw [← q]; exact Jvm.Kit.i64_of_i32 b
  have e1 : (x + (1 : Int64)).toInt = x.toInt + 1 := by rw [Jvm.Kit.i64_add (by rw [Int64.toInt_one]; omega) (by rw [Int64.toInt_one]; omega), Int64.toInt_one]
  have ez : zv (FP.i2d b) = (2 * b.toInt) * ((2 ^ 1073 : Nat) : Int) := by rw [zv_int (i2dI b), own_O]; grind
  constructor
  · intro c; have := lc_gt.mp c
    refine cv_gt' (own_w h).1 (nn_int (i2dI b)) ?_ .g
    rw [(own_w h).2, ez]; exact Int.mul_lt_mul_of_pos_right (by omega) own_p
  · intro c; have := mt lc_gt.mpr c
    refine cv_le (own_w h).1 (nn_int (i2dI b)) ?_ .g
    rw [(own_w h).2, ez]; exact Int.mul_le_mul_of_nonneg_right (by omega) (Int.le_of_lt own_p)
end Own
theorem d1_0 : decode jdk_30_method_1_code 0 = .ok (.aload_n 0, 1) := by decide +kernel
theorem d1_1 : decode jdk_30_method_1_code 1 = .ok (.invokespecial 1, 3) := by decide +kernel
theorem d1_4 : decode jdk_30_method_1_code 4 = .ok (.return_, 1) := by decide +kernel
theorem pn0 : plainName "java/lang/Record" = true := by first | (simp [plainName, overriddenIn]; done) | decide +kernel
def Q_rec (Z : State) (a : Addr) (h0 : Heap) (n0 : Nat) (v : Option Value) (h : Heap) (L : List Loc) : Prop := v = none ∧ Fr n0 L ∧ h = h0
theorem ef_rec (m : MethodId) (y0 : Addr) : entryFrame m #[(.ref y0)] 1 = mkF m 0 #[.val (.ref y0)] [] := by first | (simp [entryFrame, mkF, argsToLocals, Value.category, maxLocals]; done) | rfl
set_option maxRecDepth 65536 in
set_option maxHeartbeats 40000000 in
theorem rm_rec (l : Launch) (Z : State) (a0 : Array Value) (hw : ∀ d ∈ tables_1, d.before a0 Z = true) (ws : List Jvm.Cond) (a : Addr) (h0 : Heap) (n0 : Nat) (Z0 : n0 ≤ h0.size)  :
    MetFree l (⟨"java/lang/Record", "<init>", "()V"⟩ : MethodName) (head1 (Jvm.Cond.code (⟨"java/lang/Record", "<init>", "()V"⟩ : MethodName) jdk_30_method_1_code 1 none :: ws) ({ frames := 1, cells := 0, slots := 0, locals := 12 } : Room)) (fun aa_ U => aa_ = #[(.ref a)] ∧ Z.Warmed39 U.vm ∧ U.heap = h0) (fun _ _ _ _ _ => True) (fun _ U o U' => ∃ v L, o = .returned v ∧ Q_rec Z a h0 n0 v U'.heap L ∧ FrameEnd U o U' L (({ frames := 1, cells := 0, slots := 0, locals := 12 } : Room)).cells (({ frames := 1, cells := 0, slots := 0, locals := 12 } : Room)).slots) := by
  refine Go.met (plainFor_of_name pn0) ?_
  intro p e s m below meth c s₁ hx hby hml hown hnm hret hlk hZ e0 X0
  have N0 := Fr.nil n0
  refine Go.cast (ef_rec m a) ?_
  refine Go.st (U := (s₁.setTop (mkF m 1 #[.val (.ref a)] [(.ref a)]))) (fun t_ k_ => XS.aloadN X0.here hx rfl (hb hby d1_0) rfl rfl k_) ?_
  obtain ⟨Ti1, Xi1, ei1, sti1⟩ := initO X0 hx hZ hown (hw _ (List.mem_of_getElem? (i := 11) rfl)) (hw _ (List.mem_of_getElem? (i := 12) rfl)) (hw _ (List.mem_of_getElem? (i := 13) rfl)) e0 (g := (mkF m 1 #[.val (.ref a)] [(.ref a)])) rfl (by rw [hml]; rfl) rfl (hb hby d1_1) (by decide) (W := 0) (by show 2 * 0 + _ ≤ _; exact Nat.le_of_eq rfl) (by decide)
  refine Go.st (U := (Ti1.setTop (mkF m 4 #[.val (.ref a)] []))) sti1 ?_
  refine Go.retV (st := []) Xi1 hx hlk hret (hb hby d1_4) (by decide) (by decide) ?_
  show Q_rec Z a h0 n0 _ Ti1.heap _
  rw [ei1]
  exact ⟨rfl, N0, rfl⟩
theorem d0_0 : decode prog_10_method_1_code 0 = .ok (.aload_n 0, 1) := by decide +kernel
theorem d0_1 : decode prog_10_method_1_code 1 = .ok (.invokespecial 1, 3) := by decide +kernel
theorem d0_4 : decode prog_10_method_1_code 4 = .ok (.aload_n 0, 1) := by decide +kernel
theorem d0_5 : decode prog_10_method_1_code 5 = .ok (.dload_n 1, 1) := by decide +kernel
theorem d0_6 : decode prog_10_method_1_code 6 = .ok (.putfield 7, 3) := by decide +kernel
theorem d0_9 : decode prog_10_method_1_code 9 = .ok (.aload_n 0, 1) := by decide +kernel
theorem d0_10 : decode prog_10_method_1_code 10 = .ok (.dload_n 3, 1) := by decide +kernel
theorem d0_11 : decode prog_10_method_1_code 11 = .ok (.putfield 13, 3) := by decide +kernel
theorem d0_14 : decode prog_10_method_1_code 14 = .ok (.return_, 1) := by decide +kernel
theorem pn1 : plainName "com/example/lethe/lethe/Range" = true := by first | (simp [plainName, overriddenIn]; done) | decide +kernel
def Q_rng (Z : State) (a : Addr) (x0 : UInt64) (x1 : UInt64) (o0 : Value) (o1 : Value) (h0 : Heap) (n0 : Nat) (v : Option Value) (h : Heap) (L : List Loc) : Prop := v = none ∧ Fr n0 L ∧ Keep h0 h [a] ∧ Exa Z h a "com/example/lethe/lethe/Range" ∧ Fld Z h a "com/example/lethe/lethe/Range" "low" "D" (.double x0) ∧ Fld Z h a "com/example/lethe/lethe/Range" "high" "D" (.double x1)
theorem ef_rng (m : MethodId) (y0 : Addr) (y1 : UInt64) (y2 : UInt64) : entryFrame m #[(.ref y0), (.double y1), (.double y2)] 5 = mkF m 0 #[.val (.ref y0), .val (.double y1), .second, .val (.double y2), .second] [] := by first | (simp [entryFrame, mkF, argsToLocals, Value.category, maxLocals]; done) | rfl
theorem pd0 : parseMethodDescriptor "()V" = some ⟨[], none⟩ := by decide +kernel
set_option maxRecDepth 65536 in
set_option maxHeartbeats 40000000 in
theorem rm_rng (l : Launch) (Z : State) (a0 : Array Value) (hw : ∀ d ∈ tables_1, d.before a0 Z = true) (ws : List Jvm.Cond) (a : Addr) (x0 : UInt64) (x1 : UInt64) (o0 : Value) (o1 : Value) (h0 : Heap) (n0 : Nat) (Z0 : n0 ≤ h0.size) (E0_a : Exa Z h0 a "com/example/lethe/lethe/Range") (ge_a : n0 ≤ a) (F0_a_low : Fld Z h0 a "com/example/lethe/lethe/Range" "low" "D" o0) (F0_a_high : Fld Z h0 a "com/example/lethe/lethe/Range" "high" "D" o1) :
    MetFree l (⟨"com/example/lethe/lethe/Range", "<init>", "(DD)V"⟩ : MethodName) (head1 (Jvm.Cond.code (⟨"com/example/lethe/lethe/Range", "<init>", "(DD)V"⟩ : MethodName) prog_10_method_1_code 5 none :: ws) ({ frames := 2, cells := 0, slots := 0, locals := 24 } : Room)) (fun aa_ U => aa_ = #[(.ref a), (.double x0), (.double x1)] ∧ Z.Warmed39 U.vm ∧ U.heap = h0) (fun _ _ _ _ _ => True) (fun _ U o U' => ∃ v L, o = .returned v ∧ Q_rng Z a x0 x1 o0 o1 h0 n0 v U'.heap L ∧ FrameEnd U o U' L (({ frames := 2, cells := 0, slots := 0, locals := 24 } : Room)).cells (({ frames := 2, cells := 0, slots := 0, locals := 24 } : Room)).slots) := by
  refine Go.met (plainFor_of_name pn1) ?_
  intro p e s m below meth c s₁ hx hby hml hown hnm hret hlk hZ e0 X0
  have N0 := Fr.nil n0
  refine Go.cast (ef_rng m a x0 x1) ?_
  refine Go.st (U := (s₁.setTop (mkF m 1 #[.val (.ref a), .val (.double x0), .second, .val (.double x1), .second] [(.ref a)]))) (fun t_ k_ => XS.aloadN X0.here hx rfl (hb hby d0_0) rfl rfl k_) ?_
  refine Go.callI X0 hx hZ hown rfl (hw _ (List.mem_of_getElem? (i := 6) rfl)) (hw _ (List.mem_of_getElem? (i := 7) rfl)) (hw _ (List.mem_of_getElem? (i := 9) rfl)) (hw _ (List.mem_of_getElem? (i := 10) rfl)) (by decide) (rm_rec l Z a0 hw [] a h0 n0 Z0 ) e0 0 (by decide) (by decide) (g := (mkF m 1 #[.val (.ref a), .val (.double x0), .second, .val (.double x1), .second] [(.ref a)])) rfl (by rw [hml]; rfl) a [] [] rfl (lenOf pd0 rfl) rfl (by show 2 * 0 + _ ≤ _; exact Nat.le_of_eq rfl) (hb hby d0_1) (by decide) (by decide) ?_
  intro vi1 Ti1 Li1 hQi1 Xi1
  obtain ⟨rfl, Ni1, ei1⟩ := hQi1
  have Ni1 := Fr.app N0 Ni1
  show Go p e below s _ _ (Ti1.setTop (mkF m 4 #[.val (.ref a), .val (.double x0), .second, .val (.double x1), .second] []))
  refine Go.st (U := (Ti1.setTop (mkF m 5 #[.val (.ref a), .val (.double x0), .second, .val (.double x1), .second] [(.ref a)]))) (fun t_ k_ => XS.aloadN Xi1.here hx rfl (hb hby d0_4) rfl rfl k_) ?_
  refine Go.st (U := (Ti1.setTop (mkF m 6 #[.val (.ref a), .val (.double x0), .second, .val (.double x1), .second] [(.double x0), (.ref a)]))) (fun t_ k_ => XS.dloadN Xi1.here hx rfl (hb hby d0_5) rfl k_) ?_
  obtain ⟨Ti2, hi2, Xi2, ei2, Wi2, sti2⟩ := putF Xi1 hx hZ hown (host := "") (Or.inl (hw _ (List.mem_of_getElem? (i := 14) rfl))) Via.refl ei1 F0_a_low E0_a (Or.inr ⟨(hw _ (List.mem_of_getElem? (i := 15) rfl)), rfl, hnm⟩) (hw _ (List.mem_of_getElem? (i := 1) rfl)) (ty := .double) (by decide) rfl rfl (g := (mkF m 6 #[.val (.ref a), .val (.double x0), .second, .val (.double x1), .second] [(.double x0), (.ref a)])) rfl rfl (hb hby d0_6)
  have Ni2 := Fr.snoc Xi2 Ni1 ge_a
  have Zi2 : n0 ≤ hi2.size := by rw [Wi2.size]; exact Z0
  have Fi2_a_low := Fld.same Wi2 F0_a_low
  have Fi2_a_high := Fld.other Wi2 F0_a_high (Or.inr (slot_ne (Or.inr (hw _ (List.mem_of_getElem? (i := 17) rfl))) (Or.inr (hw _ (List.mem_of_getElem? (i := 15) rfl))) (by decide) (t := .double) (t' := .double) (by decide) (by decide)))
  have Ei2_a := Exa.wr Wi2 E0_a
  have Ki2 := Keep.wr (Keep.refl h0 [a]) Wi2 (Or.inl (List.mem_of_getElem? (i := 0) rfl))
  refine Go.st (U := (Ti2.setTop (mkF m 9 #[.val (.ref a), .val (.double x0), .second, .val (.double x1), .second] []))) sti2 ?_
  refine Go.st (U := (Ti2.setTop (mkF m 10 #[.val (.ref a), .val (.double x0), .second, .val (.double x1), .second] [(.ref a)]))) (fun t_ k_ => XS.aloadN Xi2.here hx rfl (hb hby d0_9) rfl rfl k_) ?_
  refine Go.st (U := (Ti2.setTop (mkF m 11 #[.val (.ref a), .val (.double x0), .second, .val (.double x1), .second] [(.double x1), (.ref a)]))) (fun t_ k_ => XS.dloadN Xi2.here hx rfl (hb hby d0_10) rfl k_) ?_
  obtain ⟨Ti3, hi3, Xi3, ei3, Wi3, sti3⟩ := putF Xi2 hx hZ hown (host := "") (Or.inl (hw _ (List.mem_of_getElem? (i := 16) rfl))) Via.refl ei2 Fi2_a_high Ei2_a (Or.inr ⟨(hw _ (List.mem_of_getElem? (i := 17) rfl)), rfl, hnm⟩) (hw _ (List.mem_of_getElem? (i := 1) rfl)) (ty := .double) (by decide) rfl rfl (g := (mkF m 11 #[.val (.ref a), .val (.double x0), .second, .val (.double x1), .second] [(.double x1), (.ref a)])) rfl rfl (hb hby d0_11)
  have Ni3 := Fr.snoc Xi3 Ni2 ge_a
  have Zi3 : n0 ≤ hi3.size := by rw [Wi3.size]; exact Zi2
  have Fi3_a_low := Fld.other Wi3 Fi2_a_low (Or.inr (slot_ne (Or.inr (hw _ (List.mem_of_getElem? (i := 15) rfl))) (Or.inr (hw _ (List.mem_of_getElem? (i := 17) rfl))) (by decide) (t := .double) (t' := .double) (by decide) (by decide)))
  have Fi3_a_high := Fld.same Wi3 Fi2_a_high
  have Ei3_a := Exa.wr Wi3 Ei2_a
  have Ki3 := Keep.wr Ki2 Wi3 (Or.inl (List.mem_of_getElem? (i := 0) rfl))
  refine Go.st (U := (Ti3.setTop (mkF m 14 #[.val (.ref a), .val (.double x0), .second, .val (.double x1), .second] []))) sti3 ?_
  refine Go.retV (st := []) Xi3 hx hlk hret (hb hby d0_14) (by decide) (by decide) ?_
  show Q_rng Z a x0 x1 o0 o1 h0 n0 _ Ti3.heap _
  rw [ei3]
  exact ⟨rfl, Ni3, Ki3, Ei3_a, Fi3_a_low, Fi3_a_high⟩
theorem d3_0 : decode prog_10_method_6_code 0 = .ok (.aload_n 0, 1) := by decide +kernel
theorem d3_1 : decode prog_10_method_6_code 1 = .ok (.getfield 7, 3) := by decide +kernel
theorem d3_4 : decode prog_10_method_6_code 4 = .ok (.dload_n 1, 1) := by decide +kernel
theorem d3_5 : decode prog_10_method_6_code 5 = .ok (.dcmp .g, 1) := by decide +kernel
theorem d3_6 : decode prog_10_method_6_code 6 = .ok (.ifCond .gt 16, 3) := by decide +kernel
theorem d3_9 : decode prog_10_method_6_code 9 = .ok (.dload_n 1, 1) := by decide +kernel
theorem d3_10 : decode prog_10_method_6_code 10 = .ok (.aload_n 0, 1) := by decide +kernel
theorem d3_11 : decode prog_10_method_6_code 11 = .ok (.getfield 13, 3) := by decide +kernel
theorem d3_14 : decode prog_10_method_6_code 14 = .ok (.dcmp .g, 1) := by decide +kernel
theorem d3_15 : decode prog_10_method_6_code 15 = .ok (.ifCond .gt 7, 3) := by decide +kernel
theorem d3_18 : decode prog_10_method_6_code 18 = .ok (.iconst 1, 1) := by decide +kernel
theorem d3_19 : decode prog_10_method_6_code 19 = .ok (.goto 4, 3) := by decide +kernel
theorem d3_22 : decode prog_10_method_6_code 22 = .ok (.iconst 0, 1) := by decide +kernel
theorem d3_23 : decode prog_10_method_6_code 23 = .ok (.ireturn, 1) := by decide +kernel
def Q_cny (Z : State) (a : Addr) (u : UInt64) (lo : UInt64) (hi : UInt64) (h0 : Heap) (n0 : Nat) (v : Option Value) (h : Heap) (L : List Loc) : Prop := v = some (.int (1 : Int32)) ∧ Fr n0 L ∧ h = h0
theorem ef_cny (m : MethodId) (y0 : Addr) (y1 : UInt64) : entryFrame m #[(.ref y0), (.double y1)] 3 = mkF m 0 #[.val (.ref y0), .val (.double y1), .second] [] := by first | (simp [entryFrame, mkF, argsToLocals, Value.category, maxLocals]; done) | rfl
set_option maxRecDepth 65536 in
set_option maxHeartbeats 40000000 in
theorem rm_cny (l : Launch) (Z : State) (a0 : Array Value) (hw : ∀ d ∈ tables_1, d.before a0 Z = true) (ws : List Jvm.Cond) (a : Addr) (u : UInt64) (lo : UInt64) (hi : UInt64) (h0 : Heap) (n0 : Nat) (Z0 : n0 ≤ h0.size) (F0_a_low : Fld Z h0 a "com/example/lethe/lethe/Range" "low" "D" (.double lo)) (F0_a_high : Fld Z h0 a "com/example/lethe/lethe/Range" "high" "D" (.double hi)) (c6 : ¬ (0 < cmpValue (FP.dcmp lo u) .g)) (c15 : ¬ (0 < cmpValue (FP.dcmp u hi) .g)) :
    MetFree l (⟨"com/example/lethe/lethe/Range", "contains", "(D)Z"⟩ : MethodName) (head1 (Jvm.Cond.code (⟨"com/example/lethe/lethe/Range", "contains", "(D)Z"⟩ : MethodName) prog_10_method_6_code 3 (some .boolean) :: ws) ({ frames := 0, cells := 0, slots := 0, locals := 0 } : Room)) (fun aa_ U => aa_ = #[(.ref a), (.double u)] ∧ Z.Warmed39 U.vm ∧ U.heap = h0) (fun _ _ _ _ _ => True) (fun _ U o U' => ∃ v L, o = .returned v ∧ Q_cny Z a u lo hi h0 n0 v U'.heap L ∧ FrameEnd U o U' L (({ frames := 0, cells := 0, slots := 0, locals := 0 } : Room)).cells (({ frames := 0, cells := 0, slots := 0, locals := 0 } : Room)).slots) := by
  refine Go.met (plainFor_of_name pn1) ?_
  intro p e s m below meth c s₁ hx hby hml hown hnm hret hlk hZ e0 X0
  have N0 := Fr.nil n0
  refine Go.cast (ef_cny m a u) ?_
  refine Go.st (U := (s₁.setTop (mkF m 1 #[.val (.ref a), .val (.double u), .second] [(.ref a)]))) (fun t_ k_ => XS.aloadN X0.here hx rfl (hb hby d3_0) rfl rfl k_) ?_
  obtain ⟨Ti1, Xi1, ei1, sti1⟩ := getF X0 hx hZ hown (host := "") (Or.inl (hw _ (List.mem_of_getElem? (i := 14) rfl))) Via.refl e0 F0_a_low (g := (mkF m 1 #[.val (.ref a), .val (.double u), .second] [(.ref a)])) rfl rfl (hb hby d3_1)
  refine Go.st (U := (Ti1.setTop (mkF m 4 #[.val (.ref a), .val (.double u), .second] [(.double lo)]))) sti1 ?_
  refine Go.st (U := (Ti1.setTop (mkF m 5 #[.val (.ref a), .val (.double u), .second] [(.double u), (.double lo)]))) (fun t_ k_ => XS.dloadN Xi1.here hx rfl (hb hby d3_4) rfl k_) ?_
  refine Go.st (U := (Ti1.setTop (mkF m 6 #[.val (.ref a), .val (.double u), .second] [(.int (cmpValue (FP.dcmp lo u) .g))]))) (fun t_ k_ => XS.dcmpS Xi1.here hx rfl (hb hby d3_5) rfl rfl k_) ?_
  refine Go.st (U := (Ti1.setTop (mkF m 9 #[.val (.ref a), .val (.double u), .second] []))) (fun t_ k_ => XS.ifNo Xi1.here hx rfl (hb hby d3_6) rfl ((if0 _ _).trans (flt c6).2.2.1) k_) ?_
  refine Go.st (U := (Ti1.setTop (mkF m 10 #[.val (.ref a), .val (.double u), .second] [(.double u)]))) (fun t_ k_ => XS.dloadN Xi1.here hx rfl (hb hby d3_9) rfl k_) ?_
  refine Go.st (U := (Ti1.setTop (mkF m 11 #[.val (.ref a), .val (.double u), .second] [(.ref a), (.double u)]))) (fun t_ k_ => XS.aloadN Xi1.here hx rfl (hb hby d3_10) rfl rfl k_) ?_
  obtain ⟨Ti2, Xi2, ei2, sti2⟩ := getF Xi1 hx hZ hown (host := "") (Or.inl (hw _ (List.mem_of_getElem? (i := 16) rfl))) Via.refl ei1 F0_a_high (g := (mkF m 11 #[.val (.ref a), .val (.double u), .second] [(.ref a), (.double u)])) rfl rfl (hb hby d3_11)
  refine Go.st (U := (Ti2.setTop (mkF m 14 #[.val (.ref a), .val (.double u), .second] [(.double hi), (.double u)]))) sti2 ?_
  refine Go.st (U := (Ti2.setTop (mkF m 15 #[.val (.ref a), .val (.double u), .second] [(.int (cmpValue (FP.dcmp u hi) .g))]))) (fun t_ k_ => XS.dcmpS Xi2.here hx rfl (hb hby d3_14) rfl rfl k_) ?_
  refine Go.st (U := (Ti2.setTop (mkF m 18 #[.val (.ref a), .val (.double u), .second] []))) (fun t_ k_ => XS.ifNo Xi2.here hx rfl (hb hby d3_15) rfl ((if0 _ _).trans (flt c15).2.2.1) k_) ?_
  refine Go.st (U := (Ti2.setTop (mkF m 19 #[.val (.ref a), .val (.double u), .second] [(.int (1 : Int32))]))) (fun t_ k_ => XS.iconst Xi2.here hx rfl (hb hby d3_18) k_) ?_
  refine Go.st (U := (Ti2.setTop (mkF m 23 #[.val (.ref a), .val (.double u), .second] [(.int (1 : Int32))]))) (fun t_ k_ => XS.goto Xi2.here hx rfl (pc0 := 19) (pc' := 23) rfl (hb hby d3_19) (by decide) (by decide) k_) ?_
  refine Go.retZ Xi2 hx hlk hret (hb hby d3_23) (by decide) (by decide) ?_
  show Q_cny Z a u lo hi h0 n0 _ Ti2.heap _
  rw [ei2]
  exact ⟨rfl, N0, rfl⟩
def Q_cnl (Z : State) (a : Addr) (u : UInt64) (lo : UInt64) (hi : UInt64) (h0 : Heap) (n0 : Nat) (v : Option Value) (h : Heap) (L : List Loc) : Prop := v = some (.int (0 : Int32)) ∧ Fr n0 L ∧ h = h0
theorem ef_cnl (m : MethodId) (y0 : Addr) (y1 : UInt64) : entryFrame m #[(.ref y0), (.double y1)] 3 = mkF m 0 #[.val (.ref y0), .val (.double y1), .second] [] := by first | (simp [entryFrame, mkF, argsToLocals, Value.category, maxLocals]; done) | rfl
set_option maxRecDepth 65536 in
set_option maxHeartbeats 40000000 in
theorem rm_cnl (l : Launch) (Z : State) (a0 : Array Value) (hw : ∀ d ∈ tables_1, d.before a0 Z = true) (ws : List Jvm.Cond) (a : Addr) (u : UInt64) (lo : UInt64) (hi : UInt64) (h0 : Heap) (n0 : Nat) (Z0 : n0 ≤ h0.size) (F0_a_low : Fld Z h0 a "com/example/lethe/lethe/Range" "low" "D" (.double lo)) (F0_a_high : Fld Z h0 a "com/example/lethe/lethe/Range" "high" "D" (.double hi)) (c6 : 0 < cmpValue (FP.dcmp lo u) .g) :
    MetFree l (⟨"com/example/lethe/lethe/Range", "contains", "(D)Z"⟩ : MethodName) (head1 (Jvm.Cond.code (⟨"com/example/lethe/lethe/Range", "contains", "(D)Z"⟩ : MethodName) prog_10_method_6_code 3 (some .boolean) :: ws) ({ frames := 0, cells := 0, slots := 0, locals := 0 } : Room)) (fun aa_ U => aa_ = #[(.ref a), (.double u)] ∧ Z.Warmed39 U.vm ∧ U.heap = h0) (fun _ _ _ _ _ => True) (fun _ U o U' => ∃ v L, o = .returned v ∧ Q_cnl Z a u lo hi h0 n0 v U'.heap L ∧ FrameEnd U o U' L (({ frames := 0, cells := 0, slots := 0, locals := 0 } : Room)).cells (({ frames := 0, cells := 0, slots := 0, locals := 0 } : Room)).slots) := by
  refine Go.met (plainFor_of_name pn1) ?_
  intro p e s m below meth c s₁ hx hby hml hown hnm hret hlk hZ e0 X0
  have N0 := Fr.nil n0
  refine Go.cast (ef_cnl m a u) ?_
  refine Go.st (U := (s₁.setTop (mkF m 1 #[.val (.ref a), .val (.double u), .second] [(.ref a)]))) (fun t_ k_ => XS.aloadN X0.here hx rfl (hb hby d3_0) rfl rfl k_) ?_
  obtain ⟨Ti1, Xi1, ei1, sti1⟩ := getF X0 hx hZ hown (host := "") (Or.inl (hw _ (List.mem_of_getElem? (i := 14) rfl))) Via.refl e0 F0_a_low (g := (mkF m 1 #[.val (.ref a), .val (.double u), .second] [(.ref a)])) rfl rfl (hb hby d3_1)
  refine Go.st (U := (Ti1.setTop (mkF m 4 #[.val (.ref a), .val (.double u), .second] [(.double lo)]))) sti1 ?_
  refine Go.st (U := (Ti1.setTop (mkF m 5 #[.val (.ref a), .val (.double u), .second] [(.double u), (.double lo)]))) (fun t_ k_ => XS.dloadN Xi1.here hx rfl (hb hby d3_4) rfl k_) ?_
  refine Go.st (U := (Ti1.setTop (mkF m 6 #[.val (.ref a), .val (.double u), .second] [(.int (cmpValue (FP.dcmp lo u) .g))]))) (fun t_ k_ => XS.dcmpS Xi1.here hx rfl (hb hby d3_5) rfl rfl k_) ?_
  refine Go.st (U := (Ti1.setTop (mkF m 22 #[.val (.ref a), .val (.double u), .second] []))) (fun t_ k_ => XS.ifYes Xi1.here hx rfl (pc0 := 6) (pc' := 22) rfl (hb hby d3_6) rfl ((if0 _ _).trans (tlt c6).2.2.1) (by decide) (by decide) k_) ?_
  refine Go.st (U := (Ti1.setTop (mkF m 23 #[.val (.ref a), .val (.double u), .second] [(.int (0 : Int32))]))) (fun t_ k_ => XS.iconst Xi1.here hx rfl (hb hby d3_22) k_) ?_
  refine Go.retZ Xi1 hx hlk hret (hb hby d3_23) (by decide) (by decide) ?_
  show Q_cnl Z a u lo hi h0 n0 _ Ti1.heap _
  rw [ei1]
  exact ⟨rfl, N0, rfl⟩
def Q_cnr (Z : State) (a : Addr) (u : UInt64) (lo : UInt64) (hi : UInt64) (h0 : Heap) (n0 : Nat) (v : Option Value) (h : Heap) (L : List Loc) : Prop := v = some (.int (0 : Int32)) ∧ Fr n0 L ∧ h = h0
theorem ef_cnr (m : MethodId) (y0 : Addr) (y1 : UInt64) : entryFrame m #[(.ref y0), (.double y1)] 3 = mkF m 0 #[.val (.ref y0), .val (.double y1), .second] [] := by first | (simp [entryFrame, mkF, argsToLocals, Value.category, maxLocals]; done) | rfl
set_option maxRecDepth 65536 in
set_option maxHeartbeats 40000000 in
theorem rm_cnr (l : Launch) (Z : State) (a0 : Array Value) (hw : ∀ d ∈ tables_1, d.before a0 Z = true) (ws : List Jvm.Cond) (a : Addr) (u : UInt64) (lo : UInt64) (hi : UInt64) (h0 : Heap) (n0 : Nat) (Z0 : n0 ≤ h0.size) (F0_a_low : Fld Z h0 a "com/example/lethe/lethe/Range" "low" "D" (.double lo)) (F0_a_high : Fld Z h0 a "com/example/lethe/lethe/Range" "high" "D" (.double hi)) (c6 : ¬ (0 < cmpValue (FP.dcmp lo u) .g)) (c15 : 0 < cmpValue (FP.dcmp u hi) .g) :
    MetFree l (⟨"com/example/lethe/lethe/Range", "contains", "(D)Z"⟩ : MethodName) (head1 (Jvm.Cond.code (⟨"com/example/lethe/lethe/Range", "contains", "(D)Z"⟩ : MethodName) prog_10_method_6_code 3 (some .boolean) :: ws) ({ frames := 0, cells := 0, slots := 0, locals := 0 } : Room)) (fun aa_ U => aa_ = #[(.ref a), (.double u)] ∧ Z.Warmed39 U.vm ∧ U.heap = h0) (fun _ _ _ _ _ => True) (fun _ U o U' => ∃ v L, o = .returned v ∧ Q_cnr Z a u lo hi h0 n0 v U'.heap L ∧ FrameEnd U o U' L (({ frames := 0, cells := 0, slots := 0, locals := 0 } : Room)).cells (({ frames := 0, cells := 0, slots := 0, locals := 0 } : Room)).slots) := by
  refine Go.met (plainFor_of_name pn1) ?_
  intro p e s m below meth c s₁ hx hby hml hown hnm hret hlk hZ e0 X0
  have N0 := Fr.nil n0
  refine Go.cast (ef_cnr m a u) ?_
  refine Go.st (U := (s₁.setTop (mkF m 1 #[.val (.ref a), .val (.double u), .second] [(.ref a)]))) (fun t_ k_ => XS.aloadN X0.here hx rfl (hb hby d3_0) rfl rfl k_) ?_
  obtain ⟨Ti1, Xi1, ei1, sti1⟩ := getF X0 hx hZ hown (host := "") (Or.inl (hw _ (List.mem_of_getElem? (i := 14) rfl))) Via.refl e0 F0_a_low (g := (mkF m 1 #[.val (.ref a), .val (.double u), .second] [(.ref a)])) rfl rfl (hb hby d3_1)
  refine Go.st (U := (Ti1.setTop (mkF m 4 #[.val (.ref a), .val (.double u), .second] [(.double lo)]))) sti1 ?_
  refine Go.st (U := (Ti1.setTop (mkF m 5 #[.val (.ref a), .val (.double u), .second] [(.double u), (.double lo)]))) (fun t_ k_ => XS.dloadN Xi1.here hx rfl (hb hby d3_4) rfl k_) ?_
  refine Go.st (U := (Ti1.setTop (mkF m 6 #[.val (.ref a), .val (.double u), .second] [(.int (cmpValue (FP.dcmp lo u) .g))]))) (fun t_ k_ => XS.dcmpS Xi1.here hx rfl (hb hby d3_5) rfl rfl k_) ?_
  refine Go.st (U := (Ti1.setTop (mkF m 9 #[.val (.ref a), .val (.double u), .second] []))) (fun t_ k_ => XS.ifNo Xi1.here hx rfl (hb hby d3_6) rfl ((if0 _ _).trans (flt c6).2.2.1) k_) ?_
  refine Go.st (U := (Ti1.setTop (mkF m 10 #[.val (.ref a), .val (.double u), .second] [(.double u)]))) (fun t_ k_ => XS.dloadN Xi1.here hx rfl (hb hby d3_9) rfl k_) ?_
  refine Go.st (U := (Ti1.setTop (mkF m 11 #[.val (.ref a), .val (.double u), .second] [(.ref a), (.double u)]))) (fun t_ k_ => XS.aloadN Xi1.here hx rfl (hb hby d3_10) rfl rfl k_) ?_
  obtain ⟨Ti2, Xi2, ei2, sti2⟩ := getF Xi1 hx hZ hown (host := "") (Or.inl (hw _ (List.mem_of_getElem? (i := 16) rfl))) Via.refl ei1 F0_a_high (g := (mkF m 11 #[.val (.ref a), .val (.double u), .second] [(.ref a), (.double u)])) rfl rfl (hb hby d3_11)
  refine Go.st (U := (Ti2.setTop (mkF m 14 #[.val (.ref a), .val (.double u), .second] [(.double hi), (.double u)]))) sti2 ?_
  refine Go.st (U := (Ti2.setTop (mkF m 15 #[.val (.ref a), .val (.double u), .second] [(.int (cmpValue (FP.dcmp u hi) .g))]))) (fun t_ k_ => XS.dcmpS Xi2.here hx rfl (hb hby d3_14) rfl rfl k_) ?_
  refine Go.st (U := (Ti2.setTop (mkF m 22 #[.val (.ref a), .val (.double u), .second] []))) (fun t_ k_ => XS.ifYes Xi2.here hx rfl (pc0 := 15) (pc' := 22) rfl (hb hby d3_15) rfl ((if0 _ _).trans (tlt c15).2.2.1) (by decide) (by decide) k_) ?_
  refine Go.st (U := (Ti2.setTop (mkF m 23 #[.val (.ref a), .val (.double u), .second] [(.int (0 : Int32))]))) (fun t_ k_ => XS.iconst Xi2.here hx rfl (hb hby d3_22) k_) ?_
  refine Go.retZ Xi2 hx hlk hret (hb hby d3_23) (by decide) (by decide) ?_
  show Q_cnr Z a u lo hi h0 n0 _ Ti2.heap _
  rw [ei2]
  exact ⟨rfl, N0, rfl⟩
theorem pn2 : plainName "com/example/lethe/lethe/RangeContainsPinLaw" = true := by first | (simp [plainName, overriddenIn]; done) | decide +kernel
def Q_law (Z : State) (p0 : Int32) (p1 : Int32) (p2 : Int32) (p3 : Int32) (h0 : Heap) (n0 : Nat) (v : Option Value) (h : Heap) (L : List Loc) : Prop := v = some (.int 1) ∧ Fr n0 L
theorem ef_law (m : MethodId) (y0 : Int32) (y1 : Int32) (y2 : Int32) (y3 : Int32) : entryFrame m #[(.int y0), (.int y1), (.int y2), (.int y3)] maxLocals = mkF m 0 #[.val (.int y0), .val (.int y1), .val (.int y2), .val (.int y3), .unset, .unset, .unset, .unset, .unset, .unset, .unset, .unset, .unset, .unset, .unset, .unset] [] := by first | (simp [entryFrame, mkF, argsToLocals, Value.category, maxLocals]; done) | rfl
theorem pd1 : parseMethodDescriptor "(DD)V" = some ⟨[.double, .double], none⟩ := by decide +kernel
theorem pd2 : parseMethodDescriptor "(D)Z" = some ⟨[.double], some .boolean⟩ := by decide +kernel
set_option maxRecDepth 65536 in
set_option maxHeartbeats 40000000 in
theorem rm_law (l : Launch) (Z : State) (a0 : Array Value) (hw : ∀ d ∈ tables_1, d.before a0 Z = true) (ws : List Jvm.Cond) (p0 : Int32) (p1 : Int32) (p2 : Int32) (p3 : Int32) (h0 : Heap) (n0 : Nat) (Z0 : n0 ≤ h0.size)  :
    MetFree l x (head1 (Jvm.Cond.code x code maxLocals ret :: ws) room_1) (fun aa_ U => aa_ = #[(.int p0), (.int p1), (.int p2), (.int p3)] ∧ Z.Warmed39 U.vm ∧ U.heap = h0) (fun _ _ _ _ _ => True) (fun _ U o U' => ∃ v L, o = .returned v ∧ Q_law Z p0 p1 p2 p3 h0 n0 v U'.heap L ∧ FrameEnd U o U' L (room_1).cells (room_1).slots) := by
  refine Go.met (plainFor_of_name pn2) ?_
  intro p e s m below meth c s₁ hx hby hml hown hnm hret hlk hZ e0 X0
  have hml : c.maxLocals = 16 := hml
  have N0 := Fr.nil n0
  refine Go.cast (ef_law m p0 p1 p2 p3) ?_
  refine Go.st (U := (s₁.setTop (mkF m 1 #[.val (.int p0), .val (.int p1), .val (.int p2), .val (.int p3), .unset, .unset, .unset, .unset, .unset, .unset, .unset, .unset, .unset, .unset, .unset, .unset] [(.int p0)]))) (fun t_ k_ => XS.iloadN X0.here hx rfl (hb hby at_0) rfl k_) ?_
  refine Go.st (U := (s₁.setTop (mkF m 2 #[.val (.int p0), .val (.int p1), .val (.int p2), .val (.int p3), .unset, .unset, .unset, .unset, .unset, .unset, .unset, .unset, .unset, .unset, .unset, .unset] [(.long (p0.toInt64))]))) (fun t_ k_ => XS.i2l X0.here hx rfl (hb hby at_1) rfl k_) ?_
  generalize q_lo : (p0.toInt64) = lo
  refine Go.st (U := (s₁.setTop (mkF m 4 #[.val (.int p0), .val (.int p1), .val (.int p2), .val (.int p3), .val (.long lo), .second, .unset, .unset, .unset, .unset, .unset, .unset, .unset, .unset, .unset, .unset] []))) (fun t_ k_ => XS.lstore X0.here hx rfl (hb hby at_2) rfl (l' := #[.val (.int p0), .val (.int p1), .val (.int p2), .val (.int p3), .val (.long lo), .second, .unset, .unset, .unset, .unset, .unset, .unset, .unset, .unset, .unset, .unset]) rfl k_) ?_
  refine Go.st (U := (s₁.setTop (mkF m 5 #[.val (.int p0), .val (.int p1), .val (.int p2), .val (.int p3), .val (.long lo), .second, .unset, .unset, .unset, .unset, .unset, .unset, .unset, .unset, .unset, .unset] [(.int p1)]))) (fun t_ k_ => XS.iloadN X0.here hx rfl (hb hby at_4) rfl k_) ?_
  refine Go.st (U := (s₁.setTop (mkF m 6 #[.val (.int p0), .val (.int p1), .val (.int p2), .val (.int p3), .val (.long lo), .second, .unset, .unset, .unset, .unset, .unset, .unset, .unset, .unset, .unset, .unset] [(.long (p1.toInt64))]))) (fun t_ k_ => XS.i2l X0.here hx rfl (hb hby at_5) rfl k_) ?_
  generalize q_hi : (p1.toInt64) = hi
  refine Go.st (U := (s₁.setTop (mkF m 8 #[.val (.int p0), .val (.int p1), .val (.int p2), .val (.int p3), .val (.long lo), .second, .val (.long hi), .second, .unset, .unset, .unset, .unset, .unset, .unset, .unset, .unset] []))) (fun t_ k_ => XS.lstore X0.here hx rfl (hb hby at_6) rfl (l' := #[.val (.int p0), .val (.int p1), .val (.int p2), .val (.int p3), .val (.long lo), .second, .val (.long hi), .second, .unset, .unset, .unset, .unset, .unset, .unset, .unset, .unset]) rfl k_) ?_
  refine Go.st (U := (s₁.setTop (mkF m 9 #[.val (.int p0), .val (.int p1), .val (.int p2), .val (.int p3), .val (.long lo), .second, .val (.long hi), .second, .unset, .unset, .unset, .unset, .unset, .unset, .unset, .unset] [(.int p3)]))) (fun t_ k_ => XS.iloadN X0.here hx rfl (hb hby at_8) rfl k_) ?_
  refine Go.st (U := (s₁.setTop (mkF m 11 #[.val (.int p0), .val (.int p1), .val (.int p2), .val (.int p3), .val (.long lo), .second, .val (.long hi), .second, .unset, .unset, .unset, .unset, .unset, .unset, .unset, .unset] [(.int (7 : Int32)), (.int p3)]))) (fun t_ k_ => XS.bipush X0.here hx rfl (hb hby at_9) k_) ?_
  refine Go.st (U := (s₁.setTop (mkF m 12 #[.val (.int p0), .val (.int p1), .val (.int p2), .val (.int p3), .val (.long lo), .second, .val (.long hi), .second, .unset, .unset, .unset, .unset, .unset, .unset, .unset, .unset] [(.int (p3 &&& (7 : Int32)))]))) (fun t_ k_ => XS.iand X0.here hx rfl (hb hby at_11) rfl k_) ?_
  generalize q_kd : (p3 &&& (7 : Int32)) = kd
  refine Go.st (U := (s₁.setTop (mkF m 14 #[.val (.int p0), .val (.int p1), .val (.int p2), .val (.int p3), .val (.long lo), .second, .val (.long hi), .second, .val (.int kd), .unset, .unset, .unset, .unset, .unset, .unset, .unset] []))) (fun t_ k_ => XS.istore X0.here hx rfl (hb hby at_12) rfl (l' := #[.val (.int p0), .val (.int p1), .val (.int p2), .val (.int p3), .val (.long lo), .second, .val (.long hi), .second, .val (.int kd), .unset, .unset, .unset, .unset, .unset, .unset, .unset]) rfl k_) ?_
  have J74 : ∀ (xv : Int64) (B_x : -2147483649 ≤ xv.toInt ∧ xv.toInt ≤ 2147483648), Go p e below s room_1 (Q_law Z p0 p1 p2 p3 h0 n0) (s₁.setTop (mkF m 74 #[.val (.int p0), .val (.int p1), .val (.int p2), .val (.int p3), .val (.long lo), .second, .val (.long hi), .second, .val (.int kd), .val (.long xv), .second, .unset, .unset, .unset, .unset, .unset] [])) := by
    intro xv B_x
    refine Go.st (U := (s₁.setTop (mkF m 75 #[.val (.int p0), .val (.int p1), .val (.int p2), .val (.int p3), .val (.long lo), .second, .val (.long hi), .second, .val (.int kd), .val (.long xv), .second, .unset, .unset, .unset, .unset, .unset] [(.int p3)]))) (fun t_ k_ => XS.iloadN X0.here hx rfl (hb hby at_74) rfl k_) ?_
    refine Go.st (U := (s₁.setTop (mkF m 77 #[.val (.int p0), .val (.int p1), .val (.int p2), .val (.int p3), .val (.long lo), .second, .val (.long hi), .second, .val (.int kd), .val (.long xv), .second, .unset, .unset, .unset, .unset, .unset] [(.int (8 : Int32)), (.int p3)]))) (fun t_ k_ => XS.bipush X0.here hx rfl (hb hby at_75) k_) ?_
    refine Go.st (U := (s₁.setTop (mkF m 78 #[.val (.int p0), .val (.int p1), .val (.int p2), .val (.int p3), .val (.long lo), .second, .val (.long hi), .second, .val (.int kd), .val (.long xv), .second, .unset, .unset, .unset, .unset, .unset] [(.int (p3 &&& (8 : Int32)))]))) (fun t_ k_ => XS.iand X0.here hx rfl (hb hby at_77) rfl k_) ?_
    by_cases h78 : (p3 &&& (8 : Int32)) = (0 : Int32)
    · refine Go.st (U := (s₁.setTop (mkF m 85 #[.val (.int p0), .val (.int p1), .val (.int p2), .val (.int p3), .val (.long lo), .second, .val (.long hi), .second, .val (.int kd), .val (.long xv), .second, .unset, .unset, .unset, .unset, .unset] []))) (fun t_ k_ => XS.ifYes X0.here hx rfl (pc0 := 78) (pc' := 85) rfl (hb hby at_78) rfl ((if0 _ _).trans (teq h78).1) (by decide) (by decide) k_) ?_
      refine Go.st (U := (s₁.setTop (mkF m 86 #[.val (.int p0), .val (.int p1), .val (.int p2), .val (.int p3), .val (.long lo), .second, .val (.long hi), .second, .val (.int kd), .val (.long xv), .second, .unset, .unset, .unset, .unset, .unset] [(.int (0 : Int32))]))) (fun t_ k_ => XS.iconst X0.here hx rfl (hb hby at_85) k_) ?_
      refine Go.st (U := (s₁.setTop (mkF m 88 #[.val (.int p0), .val (.int p1), .val (.int p2), .val (.int p3), .val (.long lo), .second, .val (.long hi), .second, .val (.int kd), .val (.long xv), .second, .val (.int (0 : Int32)), .unset, .unset, .unset, .unset] []))) (fun t_ k_ => XS.istore X0.here hx rfl (hb hby at_86) rfl (l' := #[.val (.int p0), .val (.int p1), .val (.int p2), .val (.int p3), .val (.long lo), .second, .val (.long hi), .second, .val (.int kd), .val (.long xv), .second, .val (.int (0 : Int32)), .unset, .unset, .unset, .unset]) rfl k_) ?_
      refine Go.st (U := (s₁.setTop (mkF m 90 #[.val (.int p0), .val (.int p1), .val (.int p2), .val (.int p3), .val (.long lo), .second, .val (.long hi), .second, .val (.int kd), .val (.long xv), .second, .val (.int (0 : Int32)), .unset, .unset, .unset, .unset] [(.int (0 : Int32))]))) (fun t_ k_ => XS.iload X0.here hx rfl (hb hby at_88) rfl k_) ?_
      refine Go.st (U := (s₁.setTop (mkF m 103 #[.val (.int p0), .val (.int p1), .val (.int p2), .val (.int p3), .val (.long lo), .second, .val (.long hi), .second, .val (.int kd), .val (.long xv), .second, .val (.int (0 : Int32)), .unset, .unset, .unset, .unset] []))) (fun t_ k_ => XS.ifYes X0.here hx rfl (pc0 := 90) (pc' := 103) rfl (hb hby at_90) rfl ((if0 _ _).trans (teq (rfl : _ = _)).1) (by decide) (by decide) k_) ?_
      refine Go.st (U := (s₁.setTop (mkF m 105 #[.val (.int p0), .val (.int p1), .val (.int p2), .val (.int p3), .val (.long lo), .second, .val (.long hi), .second, .val (.int kd), .val (.long xv), .second, .val (.int (0 : Int32)), .unset, .unset, .unset, .unset] [(.long xv)]))) (fun t_ k_ => XS.lload X0.here hx rfl (hb hby at_103) rfl k_) ?_
      refine Go.st (U := (s₁.setTop (mkF m 106 #[.val (.int p0), .val (.int p1), .val (.int p2), .val (.int p3), .val (.long lo), .second, .val (.long hi), .second, .val (.int kd), .val (.long xv), .second, .val (.int (0 : Int32)), .unset, .unset, .unset, .unset] [(.double (FP.l2d xv))]))) (fun t_ k_ => XS.l2dS X0.here hx rfl (hb hby at_105) rfl rfl k_) ?_
      refine Go.st (U := (s₁.setTop (mkF m 108 #[.val (.int p0), .val (.int p1), .val (.int p2), .val (.int p3), .val (.long lo), .second, .val (.long hi), .second, .val (.int kd), .val (.long xv), .second, .val (.int (0 : Int32)), .val (.double (FP.l2d xv)), .second, .unset, .unset] []))) (fun t_ k_ => XS.dstore X0.here hx rfl (hb hby at_106) rfl (l' := #[.val (.int p0), .val (.int p1), .val (.int p2), .val (.int p3), .val (.long lo), .second, .val (.long hi), .second, .val (.int kd), .val (.long xv), .second, .val (.int (0 : Int32)), .val (.double (FP.l2d xv)), .second, .unset, .unset]) rfl k_) ?_
      refine Go.st (U := (s₁.setTop (mkF m 110 #[.val (.int p0), .val (.int p1), .val (.int p2), .val (.int p3), .val (.long lo), .second, .val (.long hi), .second, .val (.int kd), .val (.long xv), .second, .val (.int (0 : Int32)), .val (.double (FP.l2d xv)), .second, .unset, .unset] [(.int (0 : Int32))]))) (fun t_ k_ => XS.iload X0.here hx rfl (hb hby at_108) rfl k_) ?_
      refine Go.st (U := (s₁.setTop (mkF m 141 #[.val (.int p0), .val (.int p1), .val (.int p2), .val (.int p3), .val (.long lo), .second, .val (.long hi), .second, .val (.int kd), .val (.long xv), .second, .val (.int (0 : Int32)), .val (.double (FP.l2d xv)), .second, .unset, .unset] []))) (fun t_ k_ => XS.ifYes X0.here hx rfl (pc0 := 110) (pc' := 141) rfl (hb hby at_110) rfl ((if0 _ _).trans (teq (rfl : _ = _)).1) (by decide) (by decide) k_) ?_
      refine Go.st (U := (s₁.setTop (mkF m 143 #[.val (.int p0), .val (.int p1), .val (.int p2), .val (.int p3), .val (.long lo), .second, .val (.long hi), .second, .val (.int kd), .val (.long xv), .second, .val (.int (0 : Int32)), .val (.double (FP.l2d xv)), .second, .unset, .unset] [(.long lo)]))) (fun t_ k_ => XS.lload X0.here hx rfl (hb hby at_141) rfl k_) ?_
      refine Go.st (U := (s₁.setTop (mkF m 145 #[.val (.int p0), .val (.int p1), .val (.int p2), .val (.int p3), .val (.long lo), .second, .val (.long hi), .second, .val (.int kd), .val (.long xv), .second, .val (.int (0 : Int32)), .val (.double (FP.l2d xv)), .second, .unset, .unset] [(.long xv), (.long lo)]))) (fun t_ k_ => XS.lload X0.here hx rfl (hb hby at_143) rfl k_) ?_
      refine Go.st (U := (s₁.setTop (mkF m 146 #[.val (.int p0), .val (.int p1), .val (.int p2), .val (.int p3), .val (.long lo), .second, .val (.long hi), .second, .val (.int kd), .val (.long xv), .second, .val (.int (0 : Int32)), .val (.double (FP.l2d xv)), .second, .unset, .unset] [(.int (lcmpW lo xv))]))) (fun t_ k_ => XS.lcmp X0.here hx rfl (hb hby at_145) rfl k_) ?_
      by_cases h146 : (0 : Int32) < (lcmpW lo xv)
      · refine Go.st (U := (s₁.setTop (mkF m 161 #[.val (.int p0), .val (.int p1), .val (.int p2), .val (.int p3), .val (.long lo), .second, .val (.long hi), .second, .val (.int kd), .val (.long xv), .second, .val (.int (0 : Int32)), .val (.double (FP.l2d xv)), .second, .unset, .unset] []))) (fun t_ k_ => XS.ifYes X0.here hx rfl (pc0 := 146) (pc' := 161) rfl (hb hby at_146) rfl ((if0 _ _).trans (tlt h146).2.2.1) (by decide) (by decide) k_) ?_
        refine Go.st (U := (s₁.setTop (mkF m 162 #[.val (.int p0), .val (.int p1), .val (.int p2), .val (.int p3), .val (.long lo), .second, .val (.long hi), .second, .val (.int kd), .val (.long xv), .second, .val (.int (0 : Int32)), .val (.double (FP.l2d xv)), .second, .unset, .unset] [(.int (0 : Int32))]))) (fun t_ k_ => XS.iconst X0.here hx rfl (hb hby at_161) k_) ?_
        refine Go.st (U := (s₁.setTop (mkF m 164 #[.val (.int p0), .val (.int p1), .val (.int p2), .val (.int p3), .val (.long lo), .second, .val (.long hi), .second, .val (.int kd), .val (.long xv), .second, .val (.int (0 : Int32)), .val (.double (FP.l2d xv)), .second, .val (.int (0 : Int32)), .unset] []))) (fun t_ k_ => XS.istore X0.here hx rfl (hb hby at_162) rfl (l' := #[.val (.int p0), .val (.int p1), .val (.int p2), .val (.int p3), .val (.long lo), .second, .val (.long hi), .second, .val (.int kd), .val (.long xv), .second, .val (.int (0 : Int32)), .val (.double (FP.l2d xv)), .second, .val (.int (0 : Int32)), .unset]) rfl k_) ?_
        obtain ⟨Ti1, hi1, Xi1, ei1, Gi1, Ai1, Di1, -, sti1⟩ := newO X0 hx hZ hown (hw _ (List.mem_of_getElem? (i := 0) rfl)) (hw _ (List.mem_of_getElem? (i := 1) rfl)) (hw _ (List.mem_of_getElem? (i := 2) rfl)) e0 (g := (mkF m 164 #[.val (.int p0), .val (.int p1), .val (.int p2), .val (.int p3), .val (.long lo), .second, .val (.long hi), .second, .val (.int kd), .val (.long xv), .second, .val (.int (0 : Int32)), .val (.double (FP.l2d xv)), .second, .val (.int (0 : Int32)), .unset] [])) rfl (hb hby at_164) (by decide) (by decide)
        obtain ⟨bi1, gi1⟩ : ∃ z, z = h0.size := ⟨_, rfl⟩
        rw [← gi1] at Ai1 Di1 sti1
        have ge_bi1 : n0 ≤ bi1 := Nat.le_trans Z0 (Nat.le_of_eq gi1.symm)
        have sz_bi1 : h0.size ≤ bi1 := Nat.le_of_eq gi1.symm
        have sz0_bi1 : h0.size ≤ bi1 := Nat.le_trans (Keep.size_le (Keep.refl h0 [])) sz_bi1
        have Fi1_bi1_low : Fld Z hi1 bi1 "com/example/lethe/lethe/Range" "low" "D" (.double 0) := Di1 (Or.inr (hw _ (List.mem_of_getElem? (i := 15) rfl))) (ty := .double) (by decide)
        have Fi1_bi1_high : Fld Z hi1 bi1 "com/example/lethe/lethe/Range" "high" "D" (.double 0) := Di1 (Or.inr (hw _ (List.mem_of_getElem? (i := 17) rfl))) (ty := .double) (by decide)
        have Zi1 : n0 ≤ hi1.size := Nat.le_trans Z0 Gi1.1
        have Ki1 := Keep.ext (Keep.refl h0 []) Gi1
        refine Go.st (U := (Ti1.setTop (mkF m 167 #[.val (.int p0), .val (.int p1), .val (.int p2), .val (.int p3), .val (.long lo), .second, .val (.long hi), .second, .val (.int kd), .val (.long xv), .second, .val (.int (0 : Int32)), .val (.double (FP.l2d xv)), .second, .val (.int (0 : Int32)), .unset] [(.ref bi1)]))) sti1 ?_
        refine Go.st (U := (Ti1.setTop (mkF m 168 #[.val (.int p0), .val (.int p1), .val (.int p2), .val (.int p3), .val (.long lo), .second, .val (.long hi), .second, .val (.int kd), .val (.long xv), .second, .val (.int (0 : Int32)), .val (.double (FP.l2d xv)), .second, .val (.int (0 : Int32)), .unset] [(.ref bi1), (.ref bi1)]))) (fun t_ k_ => XS.dup Xi1.here hx rfl (hb hby at_167) rfl rfl k_) ?_
        refine Go.st (U := (Ti1.setTop (mkF m 169 #[.val (.int p0), .val (.int p1), .val (.int p2), .val (.int p3), .val (.long lo), .second, .val (.long hi), .second, .val (.int kd), .val (.long xv), .second, .val (.int (0 : Int32)), .val (.double (FP.l2d xv)), .second, .val (.int (0 : Int32)), .unset] [(.int p0), (.ref bi1), (.ref bi1)]))) (fun t_ k_ => XS.iloadN Xi1.here hx rfl (hb hby at_168) rfl k_) ?_
        refine Go.st (U := (Ti1.setTop (mkF m 170 #[.val (.int p0), .val (.int p1), .val (.int p2), .val (.int p3), .val (.long lo), .second, .val (.long hi), .second, .val (.int kd), .val (.long xv), .second, .val (.int (0 : Int32)), .val (.double (FP.l2d xv)), .second, .val (.int (0 : Int32)), .unset] [(.double (FP.i2d p0)), (.ref bi1), (.ref bi1)]))) (fun t_ k_ => XS.i2dS Xi1.here hx rfl (hb hby at_169) rfl rfl k_) ?_
        refine Go.st (U := (Ti1.setTop (mkF m 171 #[.val (.int p0), .val (.int p1), .val (.int p2), .val (.int p3), .val (.long lo), .second, .val (.long hi), .second, .val (.int kd), .val (.long xv), .second, .val (.int (0 : Int32)), .val (.double (FP.l2d xv)), .second, .val (.int (0 : Int32)), .unset] [(.int p1), (.double (FP.i2d p0)), (.ref bi1), (.ref bi1)]))) (fun t_ k_ => XS.iloadN Xi1.here hx rfl (hb hby at_170) rfl k_) ?_
        refine Go.st (U := (Ti1.setTop (mkF m 172 #[.val (.int p0), .val (.int p1), .val (.int p2), .val (.int p3), .val (.long lo), .second, .val (.long hi), .second, .val (.int kd), .val (.long xv), .second, .val (.int (0 : Int32)), .val (.double (FP.l2d xv)), .second, .val (.int (0 : Int32)), .unset] [(.double (FP.i2d p1)), (.double (FP.i2d p0)), (.ref bi1), (.ref bi1)]))) (fun t_ k_ => XS.i2dS Xi1.here hx rfl (hb hby at_171) rfl rfl k_) ?_
        refine Go.callI Xi1 hx hZ hown rfl (hw _ (List.mem_of_getElem? (i := 3) rfl)) (hw _ (List.mem_of_getElem? (i := 4) rfl)) (hw _ (List.mem_of_getElem? (i := 2) rfl)) (hw _ (List.mem_of_getElem? (i := 5) rfl)) (by decide) (rm_rng l Z a0 hw [] bi1 (FP.i2d p0) (FP.i2d p1) (.double 0) (.double 0) hi1 n0 Zi1 Ai1 ge_bi1 Fi1_bi1_low Fi1_bi1_high) ei1 1 (by decide) (by decide) (g := (mkF m 172 #[.val (.int p0), .val (.int p1), .val (.int p2), .val (.int p3), .val (.long lo), .second, .val (.long hi), .second, .val (.int kd), .val (.long xv), .second, .val (.int (0 : Int32)), .val (.double (FP.l2d xv)), .second, .val (.int (0 : Int32)), .unset] [(.double (FP.i2d p1)), (.double (FP.i2d p0)), (.ref bi1), (.ref bi1)])) rfl (by rw [hml]; rfl) bi1 [(.double (FP.i2d p0)), (.double (FP.i2d p1))] [(.ref bi1)] rfl (lenOf pd1 rfl) rfl (by show 2 * 0 + _ ≤ _; exact Nat.le_of_eq rfl) (hb hby at_172) (by decide) (by decide) ?_
        intro vi2 Ti2 Li2 hQi2 Xi2
        obtain ⟨rfl, Ni2, Ki2, Ei2_bi1, Fi2_bi1_low, Fi2_bi1_high⟩ := hQi2
        have Ni2 := Fr.app N0 Ni2
        have Zi2 : n0 ≤ Ti2.heap.size := Nat.le_trans Zi1 Ki2.1
        have Ki2 := Keep.trans Ki1 Ki2 (allS (Or.inr sz0_bi1) all0)
        show Go p e below s _ _ (Ti2.setTop (mkF m 175 #[.val (.int p0), .val (.int p1), .val (.int p2), .val (.int p3), .val (.long lo), .second, .val (.long hi), .second, .val (.int kd), .val (.long xv), .second, .val (.int (0 : Int32)), .val (.double (FP.l2d xv)), .second, .val (.int (0 : Int32)), .unset] [(.ref bi1)]))
        refine Go.st (U := (Ti2.setTop (mkF m 177 #[.val (.int p0), .val (.int p1), .val (.int p2), .val (.int p3), .val (.long lo), .second, .val (.long hi), .second, .val (.int kd), .val (.long xv), .second, .val (.int (0 : Int32)), .val (.double (FP.l2d xv)), .second, .val (.int (0 : Int32)), .val (.ref bi1)] []))) (fun t_ k_ => XS.astore Xi2.here hx rfl (hb hby at_175) rfl rfl (l' := #[.val (.int p0), .val (.int p1), .val (.int p2), .val (.int p3), .val (.long lo), .second, .val (.long hi), .second, .val (.int kd), .val (.long xv), .second, .val (.int (0 : Int32)), .val (.double (FP.l2d xv)), .second, .val (.int (0 : Int32)), .val (.ref bi1)]) rfl k_) ?_
        refine Go.st (U := (Ti2.setTop (mkF m 179 #[.val (.int p0), .val (.int p1), .val (.int p2), .val (.int p3), .val (.long lo), .second, .val (.long hi), .second, .val (.int kd), .val (.long xv), .second, .val (.int (0 : Int32)), .val (.double (FP.l2d xv)), .second, .val (.int (0 : Int32)), .val (.ref bi1)] [(.ref bi1)]))) (fun t_ k_ => XS.aload Xi2.here hx rfl (hb hby at_177) rfl rfl k_) ?_
        refine Go.st (U := (Ti2.setTop (mkF m 181 #[.val (.int p0), .val (.int p1), .val (.int p2), .val (.int p3), .val (.long lo), .second, .val (.long hi), .second, .val (.int kd), .val (.long xv), .second, .val (.int (0 : Int32)), .val (.double (FP.l2d xv)), .second, .val (.int (0 : Int32)), .val (.ref bi1)] [(.double (FP.l2d xv)), (.ref bi1)]))) (fun t_ k_ => XS.dload Xi2.here hx rfl (hb hby at_179) rfl k_) ?_
        refine Go.callV Xi2 hx hZ hown (hw _ (List.mem_of_getElem? (i := 18) rfl)) (hw _ (List.mem_of_getElem? (i := 19) rfl)) (hw _ (List.mem_of_getElem? (i := 21) rfl)) (hw _ (List.mem_of_getElem? (i := 20) rfl)) (hw _ (List.mem_of_getElem? (i := 2) rfl)) (hw _ (List.mem_of_getElem? (i := 22) rfl)) (by decide) (rm_cnl l Z a0 hw [] bi1 (FP.l2d xv) (FP.i2d p0) (FP.i2d p1) Ti2.heap n0 Zi2 Fi2_bi1_low Fi2_bi1_high (((own_cl q_lo B_x).1 h146))) (rfl : Ti2.heap = Ti2.heap) bi1 Ei2_bi1 0 (by decide) (by decide) (g := (mkF m 181 #[.val (.int p0), .val (.int p1), .val (.int p2), .val (.int p3), .val (.long lo), .second, .val (.long hi), .second, .val (.int kd), .val (.long xv), .second, .val (.int (0 : Int32)), .val (.double (FP.l2d xv)), .second, .val (.int (0 : Int32)), .val (.ref bi1)] [(.double (FP.l2d xv)), (.ref bi1)])) rfl (by rw [hml]; rfl) [(.double (FP.l2d xv))] [] rfl (lenOf pd2 rfl) rfl (by show 2 * 0 + _ ≤ _; exact Nat.le_of_eq rfl) (hb hby at_181) (by decide) (by decide) ?_
        intro vi3 Ti3 Li3 hQi3 Xi3
        obtain ⟨rfl, Ni3, ei3⟩ := hQi3
        have Ni3 := Fr.app Ni2 Ni3
        show Go p e below s _ _ (Ti3.setTop (mkF m 184 #[.val (.int p0), .val (.int p1), .val (.int p2), .val (.int p3), .val (.long lo), .second, .val (.long hi), .second, .val (.int kd), .val (.long xv), .second, .val (.int (0 : Int32)), .val (.double (FP.l2d xv)), .second, .val (.int (0 : Int32)), .val (.ref bi1)] [(.int (0 : Int32))]))
        refine Go.st (U := (Ti3.setTop (mkF m 186 #[.val (.int p0), .val (.int p1), .val (.int p2), .val (.int p3), .val (.long lo), .second, .val (.long hi), .second, .val (.int kd), .val (.long xv), .second, .val (.int (0 : Int32)), .val (.double (FP.l2d xv)), .second, .val (.int (0 : Int32)), .val (.ref bi1)] [(.int (0 : Int32)), (.int (0 : Int32))]))) (fun t_ k_ => XS.iload Xi3.here hx rfl (hb hby at_184) rfl k_) ?_
        refine Go.st (U := (Ti3.setTop (mkF m 189 #[.val (.int p0), .val (.int p1), .val (.int p2), .val (.int p3), .val (.long lo), .second, .val (.long hi), .second, .val (.int kd), .val (.long xv), .second, .val (.int (0 : Int32)), .val (.double (FP.l2d xv)), .second, .val (.int (0 : Int32)), .val (.ref bi1)] []))) (fun t_ k_ => XS.icmpNo Xi3.here hx rfl (hb hby at_186) rfl (teq (rfl : _ = _)).2 k_) ?_
        refine Go.st (U := (Ti3.setTop (mkF m 190 #[.val (.int p0), .val (.int p1), .val (.int p2), .val (.int p3), .val (.long lo), .second, .val (.long hi), .second, .val (.int kd), .val (.long xv), .second, .val (.int (0 : Int32)), .val (.double (FP.l2d xv)), .second, .val (.int (0 : Int32)), .val (.ref bi1)] [(.int (1 : Int32))]))) (fun t_ k_ => XS.iconst Xi3.here hx rfl (hb hby at_189) k_) ?_
        refine Go.st (U := (Ti3.setTop (mkF m 194 #[.val (.int p0), .val (.int p1), .val (.int p2), .val (.int p3), .val (.long lo), .second, .val (.long hi), .second, .val (.int kd), .val (.long xv), .second, .val (.int (0 : Int32)), .val (.double (FP.l2d xv)), .second, .val (.int (0 : Int32)), .val (.ref bi1)] [(.int (1 : Int32))]))) (fun t_ k_ => XS.goto Xi3.here hx rfl (pc0 := 190) (pc' := 194) rfl (hb hby at_190) (by decide) (by decide) k_) ?_
        refine Go.retZ Xi3 hx hlk hret (hb hby at_194) (by decide) (by decide) ?_
        exact ⟨rfl, Ni3⟩
      · refine Go.st (U := (s₁.setTop (mkF m 149 #[.val (.int p0), .val (.int p1), .val (.int p2), .val (.int p3), .val (.long lo), .second, .val (.long hi), .second, .val (.int kd), .val (.long xv), .second, .val (.int (0 : Int32)), .val (.double (FP.l2d xv)), .second, .unset, .unset] []))) (fun t_ k_ => XS.ifNo X0.here hx rfl (hb hby at_146) rfl ((if0 _ _).trans (flt h146).2.2.1) k_) ?_
        refine Go.st (U := (s₁.setTop (mkF m 151 #[.val (.int p0), .val (.int p1), .val (.int p2), .val (.int p3), .val (.long lo), .second, .val (.long hi), .second, .val (.int kd), .val (.long xv), .second, .val (.int (0 : Int32)), .val (.double (FP.l2d xv)), .second, .unset, .unset] [(.long xv)]))) (fun t_ k_ => XS.lload X0.here hx rfl (hb hby at_149) rfl k_) ?_
        refine Go.st (U := (s₁.setTop (mkF m 153 #[.val (.int p0), .val (.int p1), .val (.int p2), .val (.int p3), .val (.long lo), .second, .val (.long hi), .second, .val (.int kd), .val (.long xv), .second, .val (.int (0 : Int32)), .val (.double (FP.l2d xv)), .second, .unset, .unset] [(.long hi), (.long xv)]))) (fun t_ k_ => XS.lload X0.here hx rfl (hb hby at_151) rfl k_) ?_
        refine Go.st (U := (s₁.setTop (mkF m 154 #[.val (.int p0), .val (.int p1), .val (.int p2), .val (.int p3), .val (.long lo), .second, .val (.long hi), .second, .val (.int kd), .val (.long xv), .second, .val (.int (0 : Int32)), .val (.double (FP.l2d xv)), .second, .unset, .unset] [(.int (lcmpW xv hi))]))) (fun t_ k_ => XS.lcmp X0.here hx rfl (hb hby at_153) rfl k_) ?_
        by_cases h154 : (0 : Int32) < (lcmpW xv hi)
        · refine Go.st (U := (s₁.setTop (mkF m 161 #[.val (.int p0), .val (.int p1), .val (.int p2), .val (.int p3), .val (.long lo), .second, .val (.long hi), .second, .val (.int kd), .val (.long xv), .second, .val (.int (0 : Int32)), .val (.double (FP.l2d xv)), .second, .unset, .unset] []))) (fun t_ k_ => XS.ifYes X0.here hx rfl (pc0 := 154) (pc' := 161) rfl (hb hby at_154) rfl ((if0 _ _).trans (tlt h154).2.2.1) (by decide) (by decide) k_) ?_
          refine Go.st (U := (s₁.setTop (mkF m 162 #[.val (.int p0), .val (.int p1), .val (.int p2), .val (.int p3), .val (.long lo), .second, .val (.long hi), .second, .val (.int kd), .val (.long xv), .second, .val (.int (0 : Int32)), .val (.double (FP.l2d xv)), .second, .unset, .unset] [(.int (0 : Int32))]))) (fun t_ k_ => XS.iconst X0.here hx rfl (hb hby at_161) k_) ?_
          refine Go.st (U := (s₁.setTop (mkF m 164 #[.val (.int p0), .val (.int p1), .val (.int p2), .val (.int p3), .val (.long lo), .second, .val (.long hi), .second, .val (.int kd), .val (.long xv), .second, .val (.int (0 : Int32)), .val (.double (FP.l2d xv)), .second, .val (.int (0 : Int32)), .unset] []))) (fun t_ k_ => XS.istore X0.here hx rfl (hb hby at_162) rfl (l' := #[.val (.int p0), .val (.int p1), .val (.int p2), .val (.int p3), .val (.long lo), .second, .val (.long hi), .second, .val (.int kd), .val (.long xv), .second, .val (.int (0 : Int32)), .val (.double (FP.l2d xv)), .second, .val (.int (0 : Int32)), .unset]) rfl k_) ?_
          obtain ⟨Ti4, hi4, Xi4, ei4, Gi4, Ai4, Di4, -, sti4⟩ := newO X0 hx hZ hown (hw _ (List.mem_of_getElem? (i := 0) rfl)) (hw _ (List.mem_of_getElem? (i := 1) rfl)) (hw _ (List.mem_of_getElem? (i := 2) rfl)) e0 (g := (mkF m 164 #[.val (.int p0), .val (.int p1), .val (.int p2), .val (.int p3), .val (.long lo), .second, .val (.long hi), .second, .val (.int kd), .val (.long xv), .second, .val (.int (0 : Int32)), .val (.double (FP.l2d xv)), .second, .val (.int (0 : Int32)), .unset] [])) rfl (hb hby at_164) (by decide) (by decide)
          obtain ⟨bi4, gi4⟩ : ∃ z, z = h0.size := ⟨_, rfl⟩
          rw [← gi4] at Ai4 Di4 sti4
          have ge_bi4 : n0 ≤ bi4 := Nat.le_trans Z0 (Nat.le_of_eq gi4.symm)
          have sz_bi4 : h0.size ≤ bi4 := Nat.le_of_eq gi4.symm
          have sz0_bi4 : h0.size ≤ bi4 := Nat.le_trans (Keep.size_le (Keep.refl h0 [])) sz_bi4
          have Fi4_bi4_low : Fld Z hi4 bi4 "com/example/lethe/lethe/Range" "low" "D" (.double 0) := Di4 (Or.inr (hw _ (List.mem_of_getElem? (i := 15) rfl))) (ty := .double) (by decide)
          have Fi4_bi4_high : Fld Z hi4 bi4 "com/example/lethe/lethe/Range" "high" "D" (.double 0) := Di4 (Or.inr (hw _ (List.mem_of_getElem? (i := 17) rfl))) (ty := .double) (by decide)
          have Zi4 : n0 ≤ hi4.size := Nat.le_trans Z0 Gi4.1
          have Ki4 := Keep.ext (Keep.refl h0 []) Gi4
          refine Go.st (U := (Ti4.setTop (mkF m 167 #[.val (.int p0), .val (.int p1), .val (.int p2), .val (.int p3), .val (.long lo), .second, .val (.long hi), .second, .val (.int kd), .val (.long xv), .second, .val (.int (0 : Int32)), .val (.double (FP.l2d xv)), .second, .val (.int (0 : Int32)), .unset] [(.ref bi4)]))) sti4 ?_
          refine Go.st (U := (Ti4.setTop (mkF m 168 #[.val (.int p0), .val (.int p1), .val (.int p2), .val (.int p3), .val (.long lo), .second, .val (.long hi), .second, .val (.int kd), .val (.long xv), .second, .val (.int (0 : Int32)), .val (.double (FP.l2d xv)), .second, .val (.int (0 : Int32)), .unset] [(.ref bi4), (.ref bi4)]))) (fun t_ k_ => XS.dup Xi4.here hx rfl (hb hby at_167) rfl rfl k_) ?_
          refine Go.st (U := (Ti4.setTop (mkF m 169 #[.val (.int p0), .val (.int p1), .val (.int p2), .val (.int p3), .val (.long lo), .second, .val (.long hi), .second, .val (.int kd), .val (.long xv), .second, .val (.int (0 : Int32)), .val (.double (FP.l2d xv)), .second, .val (.int (0 : Int32)), .unset] [(.int p0), (.ref bi4), (.ref bi4)]))) (fun t_ k_ => XS.iloadN Xi4.here hx rfl (hb hby at_168) rfl k_) ?_
          refine Go.st (U := (Ti4.setTop (mkF m 170 #[.val (.int p0), .val (.int p1), .val (.int p2), .val (.int p3), .val (.long lo), .second, .val (.long hi), .second, .val (.int kd), .val (.long xv), .second, .val (.int (0 : Int32)), .val (.double (FP.l2d xv)), .second, .val (.int (0 : Int32)), .unset] [(.double (FP.i2d p0)), (.ref bi4), (.ref bi4)]))) (fun t_ k_ => XS.i2dS Xi4.here hx rfl (hb hby at_169) rfl rfl k_) ?_
          refine Go.st (U := (Ti4.setTop (mkF m 171 #[.val (.int p0), .val (.int p1), .val (.int p2), .val (.int p3), .val (.long lo), .second, .val (.long hi), .second, .val (.int kd), .val (.long xv), .second, .val (.int (0 : Int32)), .val (.double (FP.l2d xv)), .second, .val (.int (0 : Int32)), .unset] [(.int p1), (.double (FP.i2d p0)), (.ref bi4), (.ref bi4)]))) (fun t_ k_ => XS.iloadN Xi4.here hx rfl (hb hby at_170) rfl k_) ?_
          refine Go.st (U := (Ti4.setTop (mkF m 172 #[.val (.int p0), .val (.int p1), .val (.int p2), .val (.int p3), .val (.long lo), .second, .val (.long hi), .second, .val (.int kd), .val (.long xv), .second, .val (.int (0 : Int32)), .val (.double (FP.l2d xv)), .second, .val (.int (0 : Int32)), .unset] [(.double (FP.i2d p1)), (.double (FP.i2d p0)), (.ref bi4), (.ref bi4)]))) (fun t_ k_ => XS.i2dS Xi4.here hx rfl (hb hby at_171) rfl rfl k_) ?_
          refine Go.callI Xi4 hx hZ hown rfl (hw _ (List.mem_of_getElem? (i := 3) rfl)) (hw _ (List.mem_of_getElem? (i := 4) rfl)) (hw _ (List.mem_of_getElem? (i := 2) rfl)) (hw _ (List.mem_of_getElem? (i := 5) rfl)) (by decide) (rm_rng l Z a0 hw [] bi4 (FP.i2d p0) (FP.i2d p1) (.double 0) (.double 0) hi4 n0 Zi4 Ai4 ge_bi4 Fi4_bi4_low Fi4_bi4_high) ei4 1 (by decide) (by decide) (g := (mkF m 172 #[.val (.int p0), .val (.int p1), .val (.int p2), .val (.int p3), .val (.long lo), .second, .val (.long hi), .second, .val (.int kd), .val (.long xv), .second, .val (.int (0 : Int32)), .val (.double (FP.l2d xv)), .second, .val (.int (0 : Int32)), .unset] [(.double (FP.i2d p1)), (.double (FP.i2d p0)), (.ref bi4), (.ref bi4)])) rfl (by rw [hml]; rfl) bi4 [(.double (FP.i2d p0)), (.double (FP.i2d p1))] [(.ref bi4)] rfl (lenOf pd1 rfl) rfl (by show 2 * 0 + _ ≤ _; exact Nat.le_of_eq rfl) (hb hby at_172) (by decide) (by decide) ?_
          intro vi5 Ti5 Li5 hQi5 Xi5
          obtain ⟨rfl, Ni5, Ki5, Ei5_bi4, Fi5_bi4_low, Fi5_bi4_high⟩ := hQi5
          have Ni5 := Fr.app N0 Ni5
          have Zi5 : n0 ≤ Ti5.heap.size := Nat.le_trans Zi4 Ki5.1
          have Ki5 := Keep.trans Ki4 Ki5 (allS (Or.inr sz0_bi4) all0)
          show Go p e below s _ _ (Ti5.setTop (mkF m 175 #[.val (.int p0), .val (.int p1), .val (.int p2), .val (.int p3), .val (.long lo), .second, .val (.long hi), .second, .val (.int kd), .val (.long xv), .second, .val (.int (0 : Int32)), .val (.double (FP.l2d xv)), .second, .val (.int (0 : Int32)), .unset] [(.ref bi4)]))
          refine Go.st (U := (Ti5.setTop (mkF m 177 #[.val (.int p0), .val (.int p1), .val (.int p2), .val (.int p3), .val (.long lo), .second, .val (.long hi), .second, .val (.int kd), .val (.long xv), .second, .val (.int (0 : Int32)), .val (.double (FP.l2d xv)), .second, .val (.int (0 : Int32)), .val (.ref bi4)] []))) (fun t_ k_ => XS.astore Xi5.here hx rfl (hb hby at_175) rfl rfl (l' := #[.val (.int p0), .val (.int p1), .val (.int p2), .val (.int p3), .val (.long lo), .second, .val (.long hi), .second, .val (.int kd), .val (.long xv), .second, .val (.int (0 : Int32)), .val (.double (FP.l2d xv)), .second, .val (.int (0 : Int32)), .val (.ref bi4)]) rfl k_) ?_
          refine Go.st (U := (Ti5.setTop (mkF m 179 #[.val (.int p0), .val (.int p1), .val (.int p2), .val (.int p3), .val (.long lo), .second, .val (.long hi), .second, .val (.int kd), .val (.long xv), .second, .val (.int (0 : Int32)), .val (.double (FP.l2d xv)), .second, .val (.int (0 : Int32)), .val (.ref bi4)] [(.ref bi4)]))) (fun t_ k_ => XS.aload Xi5.here hx rfl (hb hby at_177) rfl rfl k_) ?_
          refine Go.st (U := (Ti5.setTop (mkF m 181 #[.val (.int p0), .val (.int p1), .val (.int p2), .val (.int p3), .val (.long lo), .second, .val (.long hi), .second, .val (.int kd), .val (.long xv), .second, .val (.int (0 : Int32)), .val (.double (FP.l2d xv)), .second, .val (.int (0 : Int32)), .val (.ref bi4)] [(.double (FP.l2d xv)), (.ref bi4)]))) (fun t_ k_ => XS.dload Xi5.here hx rfl (hb hby at_179) rfl k_) ?_
          refine Go.callV Xi5 hx hZ hown (hw _ (List.mem_of_getElem? (i := 18) rfl)) (hw _ (List.mem_of_getElem? (i := 19) rfl)) (hw _ (List.mem_of_getElem? (i := 21) rfl)) (hw _ (List.mem_of_getElem? (i := 20) rfl)) (hw _ (List.mem_of_getElem? (i := 2) rfl)) (hw _ (List.mem_of_getElem? (i := 22) rfl)) (by decide) (rm_cnr l Z a0 hw [] bi4 (FP.l2d xv) (FP.i2d p0) (FP.i2d p1) Ti5.heap n0 Zi5 Fi5_bi4_low Fi5_bi4_high (((own_cl q_lo B_x).2 h146)) (((own_cr q_hi B_x).1 h154))) (rfl : Ti5.heap = Ti5.heap) bi4 Ei5_bi4 0 (by decide) (by decide) (g := (mkF m 181 #[.val (.int p0), .val (.int p1), .val (.int p2), .val (.int p3), .val (.long lo), .second, .val (.long hi), .second, .val (.int kd), .val (.long xv), .second, .val (.int (0 : Int32)), .val (.double (FP.l2d xv)), .second, .val (.int (0 : Int32)), .val (.ref bi4)] [(.double (FP.l2d xv)), (.ref bi4)])) rfl (by rw [hml]; rfl) [(.double (FP.l2d xv))] [] rfl (lenOf pd2 rfl) rfl (by show 2 * 0 + _ ≤ _; exact Nat.le_of_eq rfl) (hb hby at_181) (by decide) (by decide) ?_
          intro vi6 Ti6 Li6 hQi6 Xi6
          obtain ⟨rfl, Ni6, ei6⟩ := hQi6
          have Ni6 := Fr.app Ni5 Ni6
          show Go p e below s _ _ (Ti6.setTop (mkF m 184 #[.val (.int p0), .val (.int p1), .val (.int p2), .val (.int p3), .val (.long lo), .second, .val (.long hi), .second, .val (.int kd), .val (.long xv), .second, .val (.int (0 : Int32)), .val (.double (FP.l2d xv)), .second, .val (.int (0 : Int32)), .val (.ref bi4)] [(.int (0 : Int32))]))
          refine Go.st (U := (Ti6.setTop (mkF m 186 #[.val (.int p0), .val (.int p1), .val (.int p2), .val (.int p3), .val (.long lo), .second, .val (.long hi), .second, .val (.int kd), .val (.long xv), .second, .val (.int (0 : Int32)), .val (.double (FP.l2d xv)), .second, .val (.int (0 : Int32)), .val (.ref bi4)] [(.int (0 : Int32)), (.int (0 : Int32))]))) (fun t_ k_ => XS.iload Xi6.here hx rfl (hb hby at_184) rfl k_) ?_
          refine Go.st (U := (Ti6.setTop (mkF m 189 #[.val (.int p0), .val (.int p1), .val (.int p2), .val (.int p3), .val (.long lo), .second, .val (.long hi), .second, .val (.int kd), .val (.long xv), .second, .val (.int (0 : Int32)), .val (.double (FP.l2d xv)), .second, .val (.int (0 : Int32)), .val (.ref bi4)] []))) (fun t_ k_ => XS.icmpNo Xi6.here hx rfl (hb hby at_186) rfl (teq (rfl : _ = _)).2 k_) ?_
          refine Go.st (U := (Ti6.setTop (mkF m 190 #[.val (.int p0), .val (.int p1), .val (.int p2), .val (.int p3), .val (.long lo), .second, .val (.long hi), .second, .val (.int kd), .val (.long xv), .second, .val (.int (0 : Int32)), .val (.double (FP.l2d xv)), .second, .val (.int (0 : Int32)), .val (.ref bi4)] [(.int (1 : Int32))]))) (fun t_ k_ => XS.iconst Xi6.here hx rfl (hb hby at_189) k_) ?_
          refine Go.st (U := (Ti6.setTop (mkF m 194 #[.val (.int p0), .val (.int p1), .val (.int p2), .val (.int p3), .val (.long lo), .second, .val (.long hi), .second, .val (.int kd), .val (.long xv), .second, .val (.int (0 : Int32)), .val (.double (FP.l2d xv)), .second, .val (.int (0 : Int32)), .val (.ref bi4)] [(.int (1 : Int32))]))) (fun t_ k_ => XS.goto Xi6.here hx rfl (pc0 := 190) (pc' := 194) rfl (hb hby at_190) (by decide) (by decide) k_) ?_
          refine Go.retZ Xi6 hx hlk hret (hb hby at_194) (by decide) (by decide) ?_
          exact ⟨rfl, Ni6⟩
        · refine Go.st (U := (s₁.setTop (mkF m 157 #[.val (.int p0), .val (.int p1), .val (.int p2), .val (.int p3), .val (.long lo), .second, .val (.long hi), .second, .val (.int kd), .val (.long xv), .second, .val (.int (0 : Int32)), .val (.double (FP.l2d xv)), .second, .unset, .unset] []))) (fun t_ k_ => XS.ifNo X0.here hx rfl (hb hby at_154) rfl ((if0 _ _).trans (flt h154).2.2.1) k_) ?_
          refine Go.st (U := (s₁.setTop (mkF m 158 #[.val (.int p0), .val (.int p1), .val (.int p2), .val (.int p3), .val (.long lo), .second, .val (.long hi), .second, .val (.int kd), .val (.long xv), .second, .val (.int (0 : Int32)), .val (.double (FP.l2d xv)), .second, .unset, .unset] [(.int (1 : Int32))]))) (fun t_ k_ => XS.iconst X0.here hx rfl (hb hby at_157) k_) ?_
          refine Go.st (U := (s₁.setTop (mkF m 162 #[.val (.int p0), .val (.int p1), .val (.int p2), .val (.int p3), .val (.long lo), .second, .val (.long hi), .second, .val (.int kd), .val (.long xv), .second, .val (.int (0 : Int32)), .val (.double (FP.l2d xv)), .second, .unset, .unset] [(.int (1 : Int32))]))) (fun t_ k_ => XS.goto X0.here hx rfl (pc0 := 158) (pc' := 162) rfl (hb hby at_158) (by decide) (by decide) k_) ?_
          refine Go.st (U := (s₁.setTop (mkF m 164 #[.val (.int p0), .val (.int p1), .val (.int p2), .val (.int p3), .val (.long lo), .second, .val (.long hi), .second, .val (.int kd), .val (.long xv), .second, .val (.int (0 : Int32)), .val (.double (FP.l2d xv)), .second, .val (.int (1 : Int32)), .unset] []))) (fun t_ k_ => XS.istore X0.here hx rfl (hb hby at_162) rfl (l' := #[.val (.int p0), .val (.int p1), .val (.int p2), .val (.int p3), .val (.long lo), .second, .val (.long hi), .second, .val (.int kd), .val (.long xv), .second, .val (.int (0 : Int32)), .val (.double (FP.l2d xv)), .second, .val (.int (1 : Int32)), .unset]) rfl k_) ?_
          obtain ⟨Ti7, hi7, Xi7, ei7, Gi7, Ai7, Di7, -, sti7⟩ := newO X0 hx hZ hown (hw _ (List.mem_of_getElem? (i := 0) rfl)) (hw _ (List.mem_of_getElem? (i := 1) rfl)) (hw _ (List.mem_of_getElem? (i := 2) rfl)) e0 (g := (mkF m 164 #[.val (.int p0), .val (.int p1), .val (.int p2), .val (.int p3), .val (.long lo), .second, .val (.long hi), .second, .val (.int kd), .val (.long xv), .second, .val (.int (0 : Int32)), .val (.double (FP.l2d xv)), .second, .val (.int (1 : Int32)), .unset] [])) rfl (hb hby at_164) (by decide) (by decide)
          obtain ⟨bi7, gi7⟩ : ∃ z, z = h0.size := ⟨_, rfl⟩
          rw [← gi7] at Ai7 Di7 sti7
          have ge_bi7 : n0 ≤ bi7 := Nat.le_trans Z0 (Nat.le_of_eq gi7.symm)
          have sz_bi7 : h0.size ≤ bi7 := Nat.le_of_eq gi7.symm
          have sz0_bi7 : h0.size ≤ bi7 := Nat.le_trans (Keep.size_le (Keep.refl h0 [])) sz_bi7
          have Fi7_bi7_low : Fld Z hi7 bi7 "com/example/lethe/lethe/Range" "low" "D" (.double 0) := Di7 (Or.inr (hw _ (List.mem_of_getElem? (i := 15) rfl))) (ty := .double) (by decide)
          have Fi7_bi7_high : Fld Z hi7 bi7 "com/example/lethe/lethe/Range" "high" "D" (.double 0) := Di7 (Or.inr (hw _ (List.mem_of_getElem? (i := 17) rfl))) (ty := .double) (by decide)
          have Zi7 : n0 ≤ hi7.size := Nat.le_trans Z0 Gi7.1
          have Ki7 := Keep.ext (Keep.refl h0 []) Gi7
          refine Go.st (U := (Ti7.setTop (mkF m 167 #[.val (.int p0), .val (.int p1), .val (.int p2), .val (.int p3), .val (.long lo), .second, .val (.long hi), .second, .val (.int kd), .val (.long xv), .second, .val (.int (0 : Int32)), .val (.double (FP.l2d xv)), .second, .val (.int (1 : Int32)), .unset] [(.ref bi7)]))) sti7 ?_
          refine Go.st (U := (Ti7.setTop (mkF m 168 #[.val (.int p0), .val (.int p1), .val (.int p2), .val (.int p3), .val (.long lo), .second, .val (.long hi), .second, .val (.int kd), .val (.long xv), .second, .val (.int (0 : Int32)), .val (.double (FP.l2d xv)), .second, .val (.int (1 : Int32)), .unset] [(.ref bi7), (.ref bi7)]))) (fun t_ k_ => XS.dup Xi7.here hx rfl (hb hby at_167) rfl rfl k_) ?_
          refine Go.st (U := (Ti7.setTop (mkF m 169 #[.val (.int p0), .val (.int p1), .val (.int p2), .val (.int p3), .val (.long lo), .second, .val (.long hi), .second, .val (.int kd), .val (.long xv), .second, .val (.int (0 : Int32)), .val (.double (FP.l2d xv)), .second, .val (.int (1 : Int32)), .unset] [(.int p0), (.ref bi7), (.ref bi7)]))) (fun t_ k_ => XS.iloadN Xi7.here hx rfl (hb hby at_168) rfl k_) ?_
          refine Go.st (U := (Ti7.setTop (mkF m 170 #[.val (.int p0), .val (.int p1), .val (.int p2), .val (.int p3), .val (.long lo), .second, .val (.long hi), .second, .val (.int kd), .val (.long xv), .second, .val (.int (0 : Int32)), .val (.double (FP.l2d xv)), .second, .val (.int (1 : Int32)), .unset] [(.double (FP.i2d p0)), (.ref bi7), (.ref bi7)]))) (fun t_ k_ => XS.i2dS Xi7.here hx rfl (hb hby at_169) rfl rfl k_) ?_
          refine Go.st (U := (Ti7.setTop (mkF m 171 #[.val (.int p0), .val (.int p1), .val (.int p2), .val (.int p3), .val (.long lo), .second, .val (.long hi), .second, .val (.int kd), .val (.long xv), .second, .val (.int (0 : Int32)), .val (.double (FP.l2d xv)), .second, .val (.int (1 : Int32)), .unset] [(.int p1), (.double (FP.i2d p0)), (.ref bi7), (.ref bi7)]))) (fun t_ k_ => XS.iloadN Xi7.here hx rfl (hb hby at_170) rfl k_) ?_
          refine Go.st (U := (Ti7.setTop (mkF m 172 #[.val (.int p0), .val (.int p1), .val (.int p2), .val (.int p3), .val (.long lo), .second, .val (.long hi), .second, .val (.int kd), .val (.long xv), .second, .val (.int (0 : Int32)), .val (.double (FP.l2d xv)), .second, .val (.int (1 : Int32)), .unset] [(.double (FP.i2d p1)), (.double (FP.i2d p0)), (.ref bi7), (.ref bi7)]))) (fun t_ k_ => XS.i2dS Xi7.here hx rfl (hb hby at_171) rfl rfl k_) ?_
          refine Go.callI Xi7 hx hZ hown rfl (hw _ (List.mem_of_getElem? (i := 3) rfl)) (hw _ (List.mem_of_getElem? (i := 4) rfl)) (hw _ (List.mem_of_getElem? (i := 2) rfl)) (hw _ (List.mem_of_getElem? (i := 5) rfl)) (by decide) (rm_rng l Z a0 hw [] bi7 (FP.i2d p0) (FP.i2d p1) (.double 0) (.double 0) hi7 n0 Zi7 Ai7 ge_bi7 Fi7_bi7_low Fi7_bi7_high) ei7 1 (by decide) (by decide) (g := (mkF m 172 #[.val (.int p0), .val (.int p1), .val (.int p2), .val (.int p3), .val (.long lo), .second, .val (.long hi), .second, .val (.int kd), .val (.long xv), .second, .val (.int (0 : Int32)), .val (.double (FP.l2d xv)), .second, .val (.int (1 : Int32)), .unset] [(.double (FP.i2d p1)), (.double (FP.i2d p0)), (.ref bi7), (.ref bi7)])) rfl (by rw [hml]; rfl) bi7 [(.double (FP.i2d p0)), (.double (FP.i2d p1))] [(.ref bi7)] rfl (lenOf pd1 rfl) rfl (by show 2 * 0 + _ ≤ _; exact Nat.le_of_eq rfl) (hb hby at_172) (by decide) (by decide) ?_
          intro vi8 Ti8 Li8 hQi8 Xi8
          obtain ⟨rfl, Ni8, Ki8, Ei8_bi7, Fi8_bi7_low, Fi8_bi7_high⟩ := hQi8
          have Ni8 := Fr.app N0 Ni8
          have Zi8 : n0 ≤ Ti8.heap.size := Nat.le_trans Zi7 Ki8.1
          have Ki8 := Keep.trans Ki7 Ki8 (allS (Or.inr sz0_bi7) all0)
          show Go p e below s _ _ (Ti8.setTop (mkF m 175 #[.val (.int p0), .val (.int p1), .val (.int p2), .val (.int p3), .val (.long lo), .second, .val (.long hi), .second, .val (.int kd), .val (.long xv), .second, .val (.int (0 : Int32)), .val (.double (FP.l2d xv)), .second, .val (.int (1 : Int32)), .unset] [(.ref bi7)]))
          refine Go.st (U := (Ti8.setTop (mkF m 177 #[.val (.int p0), .val (.int p1), .val (.int p2), .val (.int p3), .val (.long lo), .second, .val (.long hi), .second, .val (.int kd), .val (.long xv), .second, .val (.int (0 : Int32)), .val (.double (FP.l2d xv)), .second, .val (.int (1 : Int32)), .val (.ref bi7)] []))) (fun t_ k_ => XS.astore Xi8.here hx rfl (hb hby at_175) rfl rfl (l' := #[.val (.int p0), .val (.int p1), .val (.int p2), .val (.int p3), .val (.long lo), .second, .val (.long hi), .second, .val (.int kd), .val (.long xv), .second, .val (.int (0 : Int32)), .val (.double (FP.l2d xv)), .second, .val (.int (1 : Int32)), .val (.ref bi7)]) rfl k_) ?_
          refine Go.st (U := (Ti8.setTop (mkF m 179 #[.val (.int p0), .val (.int p1), .val (.int p2), .val (.int p3), .val (.long lo), .second, .val (.long hi), .second, .val (.int kd), .val (.long xv), .second, .val (.int (0 : Int32)), .val (.double (FP.l2d xv)), .second, .val (.int (1 : Int32)), .val (.ref bi7)] [(.ref bi7)]))) (fun t_ k_ => XS.aload Xi8.here hx rfl (hb hby at_177) rfl rfl k_) ?_
          refine Go.st (U := (Ti8.setTop (mkF m 181 #[.val (.int p0), .val (.int p1), .val (.int p2), .val (.int p3), .val (.long lo), .second, .val (.long hi), .second, .val (.int kd), .val (.long xv), .second, .val (.int (0 : Int32)), .val (.double (FP.l2d xv)), .second, .val (.int (1 : Int32)), .val (.ref bi7)] [(.double (FP.l2d xv)), (.ref bi7)]))) (fun t_ k_ => XS.dload Xi8.here hx rfl (hb hby at_179) rfl k_) ?_
          refine Go.callV Xi8 hx hZ hown (hw _ (List.mem_of_getElem? (i := 18) rfl)) (hw _ (List.mem_of_getElem? (i := 19) rfl)) (hw _ (List.mem_of_getElem? (i := 21) rfl)) (hw _ (List.mem_of_getElem? (i := 20) rfl)) (hw _ (List.mem_of_getElem? (i := 2) rfl)) (hw _ (List.mem_of_getElem? (i := 22) rfl)) (by decide) (rm_cny l Z a0 hw [] bi7 (FP.l2d xv) (FP.i2d p0) (FP.i2d p1) Ti8.heap n0 Zi8 Fi8_bi7_low Fi8_bi7_high (((own_cl q_lo B_x).2 h146)) (((own_cr q_hi B_x).2 h154))) (rfl : Ti8.heap = Ti8.heap) bi7 Ei8_bi7 0 (by decide) (by decide) (g := (mkF m 181 #[.val (.int p0), .val (.int p1), .val (.int p2), .val (.int p3), .val (.long lo), .second, .val (.long hi), .second, .val (.int kd), .val (.long xv), .second, .val (.int (0 : Int32)), .val (.double (FP.l2d xv)), .second, .val (.int (1 : Int32)), .val (.ref bi7)] [(.double (FP.l2d xv)), (.ref bi7)])) rfl (by rw [hml]; rfl) [(.double (FP.l2d xv))] [] rfl (lenOf pd2 rfl) rfl (by show 2 * 0 + _ ≤ _; exact Nat.le_of_eq rfl) (hb hby at_181) (by decide) (by decide) ?_
          intro vi9 Ti9 Li9 hQi9 Xi9
          obtain ⟨rfl, Ni9, ei9⟩ := hQi9
          have Ni9 := Fr.app Ni8 Ni9
          show Go p e below s _ _ (Ti9.setTop (mkF m 184 #[.val (.int p0), .val (.int p1), .val (.int p2), .val (.int p3), .val (.long lo), .second, .val (.long hi), .second, .val (.int kd), .val (.long xv), .second, .val (.int (0 : Int32)), .val (.double (FP.l2d xv)), .second, .val (.int (1 : Int32)), .val (.ref bi7)] [(.int (1 : Int32))]))
          refine Go.st (U := (Ti9.setTop (mkF m 186 #[.val (.int p0), .val (.int p1), .val (.int p2), .val (.int p3), .val (.long lo), .second, .val (.long hi), .second, .val (.int kd), .val (.long xv), .second, .val (.int (0 : Int32)), .val (.double (FP.l2d xv)), .second, .val (.int (1 : Int32)), .val (.ref bi7)] [(.int (1 : Int32)), (.int (1 : Int32))]))) (fun t_ k_ => XS.iload Xi9.here hx rfl (hb hby at_184) rfl k_) ?_
          refine Go.st (U := (Ti9.setTop (mkF m 189 #[.val (.int p0), .val (.int p1), .val (.int p2), .val (.int p3), .val (.long lo), .second, .val (.long hi), .second, .val (.int kd), .val (.long xv), .second, .val (.int (0 : Int32)), .val (.double (FP.l2d xv)), .second, .val (.int (1 : Int32)), .val (.ref bi7)] []))) (fun t_ k_ => XS.icmpNo Xi9.here hx rfl (hb hby at_186) rfl (teq (rfl : _ = _)).2 k_) ?_
          refine Go.st (U := (Ti9.setTop (mkF m 190 #[.val (.int p0), .val (.int p1), .val (.int p2), .val (.int p3), .val (.long lo), .second, .val (.long hi), .second, .val (.int kd), .val (.long xv), .second, .val (.int (0 : Int32)), .val (.double (FP.l2d xv)), .second, .val (.int (1 : Int32)), .val (.ref bi7)] [(.int (1 : Int32))]))) (fun t_ k_ => XS.iconst Xi9.here hx rfl (hb hby at_189) k_) ?_
          refine Go.st (U := (Ti9.setTop (mkF m 194 #[.val (.int p0), .val (.int p1), .val (.int p2), .val (.int p3), .val (.long lo), .second, .val (.long hi), .second, .val (.int kd), .val (.long xv), .second, .val (.int (0 : Int32)), .val (.double (FP.l2d xv)), .second, .val (.int (1 : Int32)), .val (.ref bi7)] [(.int (1 : Int32))]))) (fun t_ k_ => XS.goto Xi9.here hx rfl (pc0 := 190) (pc' := 194) rfl (hb hby at_190) (by decide) (by decide) k_) ?_
          refine Go.retZ Xi9 hx hlk hret (hb hby at_194) (by decide) (by decide) ?_
          exact ⟨rfl, Ni9⟩
    · refine Go.st (U := (s₁.setTop (mkF m 81 #[.val (.int p0), .val (.int p1), .val (.int p2), .val (.int p3), .val (.long lo), .second, .val (.long hi), .second, .val (.int kd), .val (.long xv), .second, .unset, .unset, .unset, .unset, .unset] []))) (fun t_ k_ => XS.ifNo X0.here hx rfl (hb hby at_78) rfl ((if0 _ _).trans (feq h78).1) k_) ?_
      refine Go.st (U := (s₁.setTop (mkF m 82 #[.val (.int p0), .val (.int p1), .val (.int p2), .val (.int p3), .val (.long lo), .second, .val (.long hi), .second, .val (.int kd), .val (.long xv), .second, .unset, .unset, .unset, .unset, .unset] [(.int (1 : Int32))]))) (fun t_ k_ => XS.iconst X0.here hx rfl (hb hby at_81) k_) ?_
      refine Go.st (U := (s₁.setTop (mkF m 86 #[.val (.int p0), .val (.int p1), .val (.int p2), .val (.int p3), .val (.long lo), .second, .val (.long hi), .second, .val (.int kd), .val (.long xv), .second, .unset, .unset, .unset, .unset, .unset] [(.int (1 : Int32))]))) (fun t_ k_ => XS.goto X0.here hx rfl (pc0 := 82) (pc' := 86) rfl (hb hby at_82) (by decide) (by decide) k_) ?_
      refine Go.st (U := (s₁.setTop (mkF m 88 #[.val (.int p0), .val (.int p1), .val (.int p2), .val (.int p3), .val (.long lo), .second, .val (.long hi), .second, .val (.int kd), .val (.long xv), .second, .val (.int (1 : Int32)), .unset, .unset, .unset, .unset] []))) (fun t_ k_ => XS.istore X0.here hx rfl (hb hby at_86) rfl (l' := #[.val (.int p0), .val (.int p1), .val (.int p2), .val (.int p3), .val (.long lo), .second, .val (.long hi), .second, .val (.int kd), .val (.long xv), .second, .val (.int (1 : Int32)), .unset, .unset, .unset, .unset]) rfl k_) ?_
      refine Go.st (U := (s₁.setTop (mkF m 90 #[.val (.int p0), .val (.int p1), .val (.int p2), .val (.int p3), .val (.long lo), .second, .val (.long hi), .second, .val (.int kd), .val (.long xv), .second, .val (.int (1 : Int32)), .unset, .unset, .unset, .unset] [(.int (1 : Int32))]))) (fun t_ k_ => XS.iload X0.here hx rfl (hb hby at_88) rfl k_) ?_
      refine Go.st (U := (s₁.setTop (mkF m 93 #[.val (.int p0), .val (.int p1), .val (.int p2), .val (.int p3), .val (.long lo), .second, .val (.long hi), .second, .val (.int kd), .val (.long xv), .second, .val (.int (1 : Int32)), .unset, .unset, .unset, .unset] []))) (fun t_ k_ => XS.ifNo X0.here hx rfl (hb hby at_90) rfl ((if0 _ _).trans (feq (by decide)).1) k_) ?_
      refine Go.st (U := (s₁.setTop (mkF m 95 #[.val (.int p0), .val (.int p1), .val (.int p2), .val (.int p3), .val (.long lo), .second, .val (.long hi), .second, .val (.int kd), .val (.long xv), .second, .val (.int (1 : Int32)), .unset, .unset, .unset, .unset] [(.long xv)]))) (fun t_ k_ => XS.lload X0.here hx rfl (hb hby at_93) rfl k_) ?_
      refine Go.st (U := (s₁.setTop (mkF m 96 #[.val (.int p0), .val (.int p1), .val (.int p2), .val (.int p3), .val (.long lo), .second, .val (.long hi), .second, .val (.int kd), .val (.long xv), .second, .val (.int (1 : Int32)), .unset, .unset, .unset, .unset] [(.double (FP.l2d xv))]))) (fun t_ k_ => XS.l2dS X0.here hx rfl (hb hby at_95) rfl rfl k_) ?_
      refine Go.st (U := (s₁.setTop (mkF m 99 #[.val (.int p0), .val (.int p1), .val (.int p2), .val (.int p3), .val (.long lo), .second, .val (.long hi), .second, .val (.int kd), .val (.long xv), .second, .val (.int (1 : Int32)), .unset, .unset, .unset, .unset] [(.double (4602678819172646912 : UInt64)), (.double (FP.l2d xv))]))) (X0.ldc2DoubleC hx hown (mvT hZ (hw _ (List.mem_of_getElem? (i := 23) rfl))) (g := (mkF m 96 #[.val (.int p0), .val (.int p1), .val (.int p2), .val (.int p3), .val (.long lo), .second, .val (.long hi), .second, .val (.int kd), .val (.long xv), .second, .val (.int (1 : Int32)), .unset, .unset, .unset, .unset] [(.double (FP.l2d xv))])) rfl (hb hby at_96)) ?_
      refine Go.st (U := (s₁.setTop (mkF m 100 #[.val (.int p0), .val (.int p1), .val (.int p2), .val (.int p3), .val (.long lo), .second, .val (.long hi), .second, .val (.int kd), .val (.long xv), .second, .val (.int (1 : Int32)), .unset, .unset, .unset, .unset] [(.double (FP.dadd (FP.l2d xv) (4602678819172646912 : UInt64)))]))) (fun t_ k_ => XS.daddS X0.here hx rfl (hb hby at_99) rfl (own_w B_x).1 rfl k_) ?_
      refine Go.st (U := (s₁.setTop (mkF m 106 #[.val (.int p0), .val (.int p1), .val (.int p2), .val (.int p3), .val (.long lo), .second, .val (.long hi), .second, .val (.int kd), .val (.long xv), .second, .val (.int (1 : Int32)), .unset, .unset, .unset, .unset] [(.double (FP.dadd (FP.l2d xv) (4602678819172646912 : UInt64)))]))) (fun t_ k_ => XS.goto X0.here hx rfl (pc0 := 100) (pc' := 106) rfl (hb hby at_100) (by decide) (by decide) k_) ?_
      refine Go.st (U := (s₁.setTop (mkF m 108 #[.val (.int p0), .val (.int p1), .val (.int p2), .val (.int p3), .val (.long lo), .second, .val (.long hi), .second, .val (.int kd), .val (.long xv), .second, .val (.int (1 : Int32)), .val (.double (FP.dadd (FP.l2d xv) (4602678819172646912 : UInt64))), .second, .unset, .unset] []))) (fun t_ k_ => XS.dstore X0.here hx rfl (hb hby at_106) rfl (l' := #[.val (.int p0), .val (.int p1), .val (.int p2), .val (.int p3), .val (.long lo), .second, .val (.long hi), .second, .val (.int kd), .val (.long xv), .second, .val (.int (1 : Int32)), .val (.double (FP.dadd (FP.l2d xv) (4602678819172646912 : UInt64))), .second, .unset, .unset]) rfl k_) ?_
      refine Go.st (U := (s₁.setTop (mkF m 110 #[.val (.int p0), .val (.int p1), .val (.int p2), .val (.int p3), .val (.long lo), .second, .val (.long hi), .second, .val (.int kd), .val (.long xv), .second, .val (.int (1 : Int32)), .val (.double (FP.dadd (FP.l2d xv) (4602678819172646912 : UInt64))), .second, .unset, .unset] [(.int (1 : Int32))]))) (fun t_ k_ => XS.iload X0.here hx rfl (hb hby at_108) rfl k_) ?_
      refine Go.st (U := (s₁.setTop (mkF m 113 #[.val (.int p0), .val (.int p1), .val (.int p2), .val (.int p3), .val (.long lo), .second, .val (.long hi), .second, .val (.int kd), .val (.long xv), .second, .val (.int (1 : Int32)), .val (.double (FP.dadd (FP.l2d xv) (4602678819172646912 : UInt64))), .second, .unset, .unset] []))) (fun t_ k_ => XS.ifNo X0.here hx rfl (hb hby at_110) rfl ((if0 _ _).trans (feq (by decide)).1) k_) ?_
      refine Go.st (U := (s₁.setTop (mkF m 115 #[.val (.int p0), .val (.int p1), .val (.int p2), .val (.int p3), .val (.long lo), .second, .val (.long hi), .second, .val (.int kd), .val (.long xv), .second, .val (.int (1 : Int32)), .val (.double (FP.dadd (FP.l2d xv) (4602678819172646912 : UInt64))), .second, .unset, .unset] [(.long lo)]))) (fun t_ k_ => XS.lload X0.here hx rfl (hb hby at_113) rfl k_) ?_
      refine Go.st (U := (s₁.setTop (mkF m 117 #[.val (.int p0), .val (.int p1), .val (.int p2), .val (.int p3), .val (.long lo), .second, .val (.long hi), .second, .val (.int kd), .val (.long xv), .second, .val (.int (1 : Int32)), .val (.double (FP.dadd (FP.l2d xv) (4602678819172646912 : UInt64))), .second, .unset, .unset] [(.long xv), (.long lo)]))) (fun t_ k_ => XS.lload X0.here hx rfl (hb hby at_115) rfl k_) ?_
      refine Go.st (U := (s₁.setTop (mkF m 118 #[.val (.int p0), .val (.int p1), .val (.int p2), .val (.int p3), .val (.long lo), .second, .val (.long hi), .second, .val (.int kd), .val (.long xv), .second, .val (.int (1 : Int32)), .val (.double (FP.dadd (FP.l2d xv) (4602678819172646912 : UInt64))), .second, .unset, .unset] [(.int (lcmpW lo xv))]))) (fun t_ k_ => XS.lcmp X0.here hx rfl (hb hby at_117) rfl k_) ?_
      by_cases h118 : (0 : Int32) < (lcmpW lo xv)
      · refine Go.st (U := (s₁.setTop (mkF m 135 #[.val (.int p0), .val (.int p1), .val (.int p2), .val (.int p3), .val (.long lo), .second, .val (.long hi), .second, .val (.int kd), .val (.long xv), .second, .val (.int (1 : Int32)), .val (.double (FP.dadd (FP.l2d xv) (4602678819172646912 : UInt64))), .second, .unset, .unset] []))) (fun t_ k_ => XS.ifYes X0.here hx rfl (pc0 := 118) (pc' := 135) rfl (hb hby at_118) rfl ((if0 _ _).trans (tlt h118).2.2.1) (by decide) (by decide) k_) ?_
        refine Go.st (U := (s₁.setTop (mkF m 136 #[.val (.int p0), .val (.int p1), .val (.int p2), .val (.int p3), .val (.long lo), .second, .val (.long hi), .second, .val (.int kd), .val (.long xv), .second, .val (.int (1 : Int32)), .val (.double (FP.dadd (FP.l2d xv) (4602678819172646912 : UInt64))), .second, .unset, .unset] [(.int (0 : Int32))]))) (fun t_ k_ => XS.iconst X0.here hx rfl (hb hby at_135) k_) ?_
        refine Go.st (U := (s₁.setTop (mkF m 138 #[.val (.int p0), .val (.int p1), .val (.int p2), .val (.int p3), .val (.long lo), .second, .val (.long hi), .second, .val (.int kd), .val (.long xv), .second, .val (.int (1 : Int32)), .val (.double (FP.dadd (FP.l2d xv) (4602678819172646912 : UInt64))), .second, .val (.int (0 : Int32)), .unset] []))) (fun t_ k_ => XS.istore X0.here hx rfl (hb hby at_136) rfl (l' := #[.val (.int p0), .val (.int p1), .val (.int p2), .val (.int p3), .val (.long lo), .second, .val (.long hi), .second, .val (.int kd), .val (.long xv), .second, .val (.int (1 : Int32)), .val (.double (FP.dadd (FP.l2d xv) (4602678819172646912 : UInt64))), .second, .val (.int (0 : Int32)), .unset]) rfl k_) ?_
        refine Go.st (U := (s₁.setTop (mkF m 164 #[.val (.int p0), .val (.int p1), .val (.int p2), .val (.int p3), .val (.long lo), .second, .val (.long hi), .second, .val (.int kd), .val (.long xv), .second, .val (.int (1 : Int32)), .val (.double (FP.dadd (FP.l2d xv) (4602678819172646912 : UInt64))), .second, .val (.int (0 : Int32)), .unset] []))) (fun t_ k_ => XS.goto X0.here hx rfl (pc0 := 138) (pc' := 164) rfl (hb hby at_138) (by decide) (by decide) k_) ?_
        obtain ⟨Ti10, hi10, Xi10, ei10, Gi10, Ai10, Di10, -, sti10⟩ := newO X0 hx hZ hown (hw _ (List.mem_of_getElem? (i := 0) rfl)) (hw _ (List.mem_of_getElem? (i := 1) rfl)) (hw _ (List.mem_of_getElem? (i := 2) rfl)) e0 (g := (mkF m 164 #[.val (.int p0), .val (.int p1), .val (.int p2), .val (.int p3), .val (.long lo), .second, .val (.long hi), .second, .val (.int kd), .val (.long xv), .second, .val (.int (1 : Int32)), .val (.double (FP.dadd (FP.l2d xv) (4602678819172646912 : UInt64))), .second, .val (.int (0 : Int32)), .unset] [])) rfl (hb hby at_164) (by decide) (by decide)
        obtain ⟨bi10, gi10⟩ : ∃ z, z = h0.size := ⟨_, rfl⟩
        rw [← gi10] at Ai10 Di10 sti10
        have ge_bi10 : n0 ≤ bi10 := Nat.le_trans Z0 (Nat.le_of_eq gi10.symm)
        have sz_bi10 : h0.size ≤ bi10 := Nat.le_of_eq gi10.symm
        have sz0_bi10 : h0.size ≤ bi10 := Nat.le_trans (Keep.size_le (Keep.refl h0 [])) sz_bi10
        have Fi10_bi10_low : Fld Z hi10 bi10 "com/example/lethe/lethe/Range" "low" "D" (.double 0) := Di10 (Or.inr (hw _ (List.mem_of_getElem? (i := 15) rfl))) (ty := .double) (by decide)
        have Fi10_bi10_high : Fld Z hi10 bi10 "com/example/lethe/lethe/Range" "high" "D" (.double 0) := Di10 (Or.inr (hw _ (List.mem_of_getElem? (i := 17) rfl))) (ty := .double) (by decide)
        have Zi10 : n0 ≤ hi10.size := Nat.le_trans Z0 Gi10.1
        have Ki10 := Keep.ext (Keep.refl h0 []) Gi10
        refine Go.st (U := (Ti10.setTop (mkF m 167 #[.val (.int p0), .val (.int p1), .val (.int p2), .val (.int p3), .val (.long lo), .second, .val (.long hi), .second, .val (.int kd), .val (.long xv), .second, .val (.int (1 : Int32)), .val (.double (FP.dadd (FP.l2d xv) (4602678819172646912 : UInt64))), .second, .val (.int (0 : Int32)), .unset] [(.ref bi10)]))) sti10 ?_
        refine Go.st (U := (Ti10.setTop (mkF m 168 #[.val (.int p0), .val (.int p1), .val (.int p2), .val (.int p3), .val (.long lo), .second, .val (.long hi), .second, .val (.int kd), .val (.long xv), .second, .val (.int (1 : Int32)), .val (.double (FP.dadd (FP.l2d xv) (4602678819172646912 : UInt64))), .second, .val (.int (0 : Int32)), .unset] [(.ref bi10), (.ref bi10)]))) (fun t_ k_ => XS.dup Xi10.here hx rfl (hb hby at_167) rfl rfl k_) ?_
        refine Go.st (U := (Ti10.setTop (mkF m 169 #[.val (.int p0), .val (.int p1), .val (.int p2), .val (.int p3), .val (.long lo), .second, .val (.long hi), .second, .val (.int kd), .val (.long xv), .second, .val (.int (1 : Int32)), .val (.double (FP.dadd (FP.l2d xv) (4602678819172646912 : UInt64))), .second, .val (.int (0 : Int32)), .unset] [(.int p0), (.ref bi10), (.ref bi10)]))) (fun t_ k_ => XS.iloadN Xi10.here hx rfl (hb hby at_168) rfl k_) ?_
        refine Go.st (U := (Ti10.setTop (mkF m 170 #[.val (.int p0), .val (.int p1), .val (.int p2), .val (.int p3), .val (.long lo), .second, .val (.long hi), .second, .val (.int kd), .val (.long xv), .second, .val (.int (1 : Int32)), .val (.double (FP.dadd (FP.l2d xv) (4602678819172646912 : UInt64))), .second, .val (.int (0 : Int32)), .unset] [(.double (FP.i2d p0)), (.ref bi10), (.ref bi10)]))) (fun t_ k_ => XS.i2dS Xi10.here hx rfl (hb hby at_169) rfl rfl k_) ?_
        refine Go.st (U := (Ti10.setTop (mkF m 171 #[.val (.int p0), .val (.int p1), .val (.int p2), .val (.int p3), .val (.long lo), .second, .val (.long hi), .second, .val (.int kd), .val (.long xv), .second, .val (.int (1 : Int32)), .val (.double (FP.dadd (FP.l2d xv) (4602678819172646912 : UInt64))), .second, .val (.int (0 : Int32)), .unset] [(.int p1), (.double (FP.i2d p0)), (.ref bi10), (.ref bi10)]))) (fun t_ k_ => XS.iloadN Xi10.here hx rfl (hb hby at_170) rfl k_) ?_
        refine Go.st (U := (Ti10.setTop (mkF m 172 #[.val (.int p0), .val (.int p1), .val (.int p2), .val (.int p3), .val (.long lo), .second, .val (.long hi), .second, .val (.int kd), .val (.long xv), .second, .val (.int (1 : Int32)), .val (.double (FP.dadd (FP.l2d xv) (4602678819172646912 : UInt64))), .second, .val (.int (0 : Int32)), .unset] [(.double (FP.i2d p1)), (.double (FP.i2d p0)), (.ref bi10), (.ref bi10)]))) (fun t_ k_ => XS.i2dS Xi10.here hx rfl (hb hby at_171) rfl rfl k_) ?_
        refine Go.callI Xi10 hx hZ hown rfl (hw _ (List.mem_of_getElem? (i := 3) rfl)) (hw _ (List.mem_of_getElem? (i := 4) rfl)) (hw _ (List.mem_of_getElem? (i := 2) rfl)) (hw _ (List.mem_of_getElem? (i := 5) rfl)) (by decide) (rm_rng l Z a0 hw [] bi10 (FP.i2d p0) (FP.i2d p1) (.double 0) (.double 0) hi10 n0 Zi10 Ai10 ge_bi10 Fi10_bi10_low Fi10_bi10_high) ei10 1 (by decide) (by decide) (g := (mkF m 172 #[.val (.int p0), .val (.int p1), .val (.int p2), .val (.int p3), .val (.long lo), .second, .val (.long hi), .second, .val (.int kd), .val (.long xv), .second, .val (.int (1 : Int32)), .val (.double (FP.dadd (FP.l2d xv) (4602678819172646912 : UInt64))), .second, .val (.int (0 : Int32)), .unset] [(.double (FP.i2d p1)), (.double (FP.i2d p0)), (.ref bi10), (.ref bi10)])) rfl (by rw [hml]; rfl) bi10 [(.double (FP.i2d p0)), (.double (FP.i2d p1))] [(.ref bi10)] rfl (lenOf pd1 rfl) rfl (by show 2 * 0 + _ ≤ _; exact Nat.le_of_eq rfl) (hb hby at_172) (by decide) (by decide) ?_
        intro vi11 Ti11 Li11 hQi11 Xi11
        obtain ⟨rfl, Ni11, Ki11, Ei11_bi10, Fi11_bi10_low, Fi11_bi10_high⟩ := hQi11
        have Ni11 := Fr.app N0 Ni11
        have Zi11 : n0 ≤ Ti11.heap.size := Nat.le_trans Zi10 Ki11.1
        have Ki11 := Keep.trans Ki10 Ki11 (allS (Or.inr sz0_bi10) all0)
        show Go p e below s _ _ (Ti11.setTop (mkF m 175 #[.val (.int p0), .val (.int p1), .val (.int p2), .val (.int p3), .val (.long lo), .second, .val (.long hi), .second, .val (.int kd), .val (.long xv), .second, .val (.int (1 : Int32)), .val (.double (FP.dadd (FP.l2d xv) (4602678819172646912 : UInt64))), .second, .val (.int (0 : Int32)), .unset] [(.ref bi10)]))
        refine Go.st (U := (Ti11.setTop (mkF m 177 #[.val (.int p0), .val (.int p1), .val (.int p2), .val (.int p3), .val (.long lo), .second, .val (.long hi), .second, .val (.int kd), .val (.long xv), .second, .val (.int (1 : Int32)), .val (.double (FP.dadd (FP.l2d xv) (4602678819172646912 : UInt64))), .second, .val (.int (0 : Int32)), .val (.ref bi10)] []))) (fun t_ k_ => XS.astore Xi11.here hx rfl (hb hby at_175) rfl rfl (l' := #[.val (.int p0), .val (.int p1), .val (.int p2), .val (.int p3), .val (.long lo), .second, .val (.long hi), .second, .val (.int kd), .val (.long xv), .second, .val (.int (1 : Int32)), .val (.double (FP.dadd (FP.l2d xv) (4602678819172646912 : UInt64))), .second, .val (.int (0 : Int32)), .val (.ref bi10)]) rfl k_) ?_
        refine Go.st (U := (Ti11.setTop (mkF m 179 #[.val (.int p0), .val (.int p1), .val (.int p2), .val (.int p3), .val (.long lo), .second, .val (.long hi), .second, .val (.int kd), .val (.long xv), .second, .val (.int (1 : Int32)), .val (.double (FP.dadd (FP.l2d xv) (4602678819172646912 : UInt64))), .second, .val (.int (0 : Int32)), .val (.ref bi10)] [(.ref bi10)]))) (fun t_ k_ => XS.aload Xi11.here hx rfl (hb hby at_177) rfl rfl k_) ?_
        refine Go.st (U := (Ti11.setTop (mkF m 181 #[.val (.int p0), .val (.int p1), .val (.int p2), .val (.int p3), .val (.long lo), .second, .val (.long hi), .second, .val (.int kd), .val (.long xv), .second, .val (.int (1 : Int32)), .val (.double (FP.dadd (FP.l2d xv) (4602678819172646912 : UInt64))), .second, .val (.int (0 : Int32)), .val (.ref bi10)] [(.double (FP.dadd (FP.l2d xv) (4602678819172646912 : UInt64))), (.ref bi10)]))) (fun t_ k_ => XS.dload Xi11.here hx rfl (hb hby at_179) rfl k_) ?_
        refine Go.callV Xi11 hx hZ hown (hw _ (List.mem_of_getElem? (i := 18) rfl)) (hw _ (List.mem_of_getElem? (i := 19) rfl)) (hw _ (List.mem_of_getElem? (i := 21) rfl)) (hw _ (List.mem_of_getElem? (i := 20) rfl)) (hw _ (List.mem_of_getElem? (i := 2) rfl)) (hw _ (List.mem_of_getElem? (i := 22) rfl)) (by decide) (rm_cnl l Z a0 hw [] bi10 (FP.dadd (FP.l2d xv) (4602678819172646912 : UInt64)) (FP.i2d p0) (FP.i2d p1) Ti11.heap n0 Zi11 Fi11_bi10_low Fi11_bi10_high (((own_hl q_lo B_x).1 h118))) (rfl : Ti11.heap = Ti11.heap) bi10 Ei11_bi10 0 (by decide) (by decide) (g := (mkF m 181 #[.val (.int p0), .val (.int p1), .val (.int p2), .val (.int p3), .val (.long lo), .second, .val (.long hi), .second, .val (.int kd), .val (.long xv), .second, .val (.int (1 : Int32)), .val (.double (FP.dadd (FP.l2d xv) (4602678819172646912 : UInt64))), .second, .val (.int (0 : Int32)), .val (.ref bi10)] [(.double (FP.dadd (FP.l2d xv) (4602678819172646912 : UInt64))), (.ref bi10)])) rfl (by rw [hml]; rfl) [(.double (FP.dadd (FP.l2d xv) (4602678819172646912 : UInt64)))] [] rfl (lenOf pd2 rfl) rfl (by show 2 * 0 + _ ≤ _; exact Nat.le_of_eq rfl) (hb hby at_181) (by decide) (by decide) ?_
        intro vi12 Ti12 Li12 hQi12 Xi12
        obtain ⟨rfl, Ni12, ei12⟩ := hQi12
        have Ni12 := Fr.app Ni11 Ni12
        show Go p e below s _ _ (Ti12.setTop (mkF m 184 #[.val (.int p0), .val (.int p1), .val (.int p2), .val (.int p3), .val (.long lo), .second, .val (.long hi), .second, .val (.int kd), .val (.long xv), .second, .val (.int (1 : Int32)), .val (.double (FP.dadd (FP.l2d xv) (4602678819172646912 : UInt64))), .second, .val (.int (0 : Int32)), .val (.ref bi10)] [(.int (0 : Int32))]))
        refine Go.st (U := (Ti12.setTop (mkF m 186 #[.val (.int p0), .val (.int p1), .val (.int p2), .val (.int p3), .val (.long lo), .second, .val (.long hi), .second, .val (.int kd), .val (.long xv), .second, .val (.int (1 : Int32)), .val (.double (FP.dadd (FP.l2d xv) (4602678819172646912 : UInt64))), .second, .val (.int (0 : Int32)), .val (.ref bi10)] [(.int (0 : Int32)), (.int (0 : Int32))]))) (fun t_ k_ => XS.iload Xi12.here hx rfl (hb hby at_184) rfl k_) ?_
        refine Go.st (U := (Ti12.setTop (mkF m 189 #[.val (.int p0), .val (.int p1), .val (.int p2), .val (.int p3), .val (.long lo), .second, .val (.long hi), .second, .val (.int kd), .val (.long xv), .second, .val (.int (1 : Int32)), .val (.double (FP.dadd (FP.l2d xv) (4602678819172646912 : UInt64))), .second, .val (.int (0 : Int32)), .val (.ref bi10)] []))) (fun t_ k_ => XS.icmpNo Xi12.here hx rfl (hb hby at_186) rfl (teq (rfl : _ = _)).2 k_) ?_
        refine Go.st (U := (Ti12.setTop (mkF m 190 #[.val (.int p0), .val (.int p1), .val (.int p2), .val (.int p3), .val (.long lo), .second, .val (.long hi), .second, .val (.int kd), .val (.long xv), .second, .val (.int (1 : Int32)), .val (.double (FP.dadd (FP.l2d xv) (4602678819172646912 : UInt64))), .second, .val (.int (0 : Int32)), .val (.ref bi10)] [(.int (1 : Int32))]))) (fun t_ k_ => XS.iconst Xi12.here hx rfl (hb hby at_189) k_) ?_
        refine Go.st (U := (Ti12.setTop (mkF m 194 #[.val (.int p0), .val (.int p1), .val (.int p2), .val (.int p3), .val (.long lo), .second, .val (.long hi), .second, .val (.int kd), .val (.long xv), .second, .val (.int (1 : Int32)), .val (.double (FP.dadd (FP.l2d xv) (4602678819172646912 : UInt64))), .second, .val (.int (0 : Int32)), .val (.ref bi10)] [(.int (1 : Int32))]))) (fun t_ k_ => XS.goto Xi12.here hx rfl (pc0 := 190) (pc' := 194) rfl (hb hby at_190) (by decide) (by decide) k_) ?_
        refine Go.retZ Xi12 hx hlk hret (hb hby at_194) (by decide) (by decide) ?_
        exact ⟨rfl, Ni12⟩
      · refine Go.st (U := (s₁.setTop (mkF m 121 #[.val (.int p0), .val (.int p1), .val (.int p2), .val (.int p3), .val (.long lo), .second, .val (.long hi), .second, .val (.int kd), .val (.long xv), .second, .val (.int (1 : Int32)), .val (.double (FP.dadd (FP.l2d xv) (4602678819172646912 : UInt64))), .second, .unset, .unset] []))) (fun t_ k_ => XS.ifNo X0.here hx rfl (hb hby at_118) rfl ((if0 _ _).trans (flt h118).2.2.1) k_) ?_
        refine Go.st (U := (s₁.setTop (mkF m 123 #[.val (.int p0), .val (.int p1), .val (.int p2), .val (.int p3), .val (.long lo), .second, .val (.long hi), .second, .val (.int kd), .val (.long xv), .second, .val (.int (1 : Int32)), .val (.double (FP.dadd (FP.l2d xv) (4602678819172646912 : UInt64))), .second, .unset, .unset] [(.long xv)]))) (fun t_ k_ => XS.lload X0.here hx rfl (hb hby at_121) rfl k_) ?_
        refine Go.st (U := (s₁.setTop (mkF m 124 #[.val (.int p0), .val (.int p1), .val (.int p2), .val (.int p3), .val (.long lo), .second, .val (.long hi), .second, .val (.int kd), .val (.long xv), .second, .val (.int (1 : Int32)), .val (.double (FP.dadd (FP.l2d xv) (4602678819172646912 : UInt64))), .second, .unset, .unset] [(.long (1 : Int64)), (.long xv)]))) (fun t_ k_ => XS.lconst X0.here hx rfl (hb hby at_123) k_) ?_
        refine Go.st (U := (s₁.setTop (mkF m 125 #[.val (.int p0), .val (.int p1), .val (.int p2), .val (.int p3), .val (.long lo), .second, .val (.long hi), .second, .val (.int kd), .val (.long xv), .second, .val (.int (1 : Int32)), .val (.double (FP.dadd (FP.l2d xv) (4602678819172646912 : UInt64))), .second, .unset, .unset] [(.long (xv + (1 : Int64)))]))) (fun t_ k_ => XS.ladd X0.here hx rfl (hb hby at_124) rfl k_) ?_
        refine Go.st (U := (s₁.setTop (mkF m 127 #[.val (.int p0), .val (.int p1), .val (.int p2), .val (.int p3), .val (.long lo), .second, .val (.long hi), .second, .val (.int kd), .val (.long xv), .second, .val (.int (1 : Int32)), .val (.double (FP.dadd (FP.l2d xv) (4602678819172646912 : UInt64))), .second, .unset, .unset] [(.long hi), (.long (xv + (1 : Int64)))]))) (fun t_ k_ => XS.lload X0.here hx rfl (hb hby at_125) rfl k_) ?_
        refine Go.st (U := (s₁.setTop (mkF m 128 #[.val (.int p0), .val (.int p1), .val (.int p2), .val (.int p3), .val (.long lo), .second, .val (.long hi), .second, .val (.int kd), .val (.long xv), .second, .val (.int (1 : Int32)), .val (.double (FP.dadd (FP.l2d xv) (4602678819172646912 : UInt64))), .second, .unset, .unset] [(.int (lcmpW (xv + (1 : Int64)) hi))]))) (fun t_ k_ => XS.lcmp X0.here hx rfl (hb hby at_127) rfl k_) ?_
        by_cases h128 : (0 : Int32) < (lcmpW (xv + (1 : Int64)) hi)
        · refine Go.st (U := (s₁.setTop (mkF m 135 #[.val (.int p0), .val (.int p1), .val (.int p2), .val (.int p3), .val (.long lo), .second, .val (.long hi), .second, .val (.int kd), .val (.long xv), .second, .val (.int (1 : Int32)), .val (.double (FP.dadd (FP.l2d xv) (4602678819172646912 : UInt64))), .second, .unset, .unset] []))) (fun t_ k_ => XS.ifYes X0.here hx rfl (pc0 := 128) (pc' := 135) rfl (hb hby at_128) rfl ((if0 _ _).trans (tlt h128).2.2.1) (by decide) (by decide) k_) ?_
          refine Go.st (U := (s₁.setTop (mkF m 136 #[.val (.int p0), .val (.int p1), .val (.int p2), .val (.int p3), .val (.long lo), .second, .val (.long hi), .second, .val (.int kd), .val (.long xv), .second, .val (.int (1 : Int32)), .val (.double (FP.dadd (FP.l2d xv) (4602678819172646912 : UInt64))), .second, .unset, .unset] [(.int (0 : Int32))]))) (fun t_ k_ => XS.iconst X0.here hx rfl (hb hby at_135) k_) ?_
          refine Go.st (U := (s₁.setTop (mkF m 138 #[.val (.int p0), .val (.int p1), .val (.int p2), .val (.int p3), .val (.long lo), .second, .val (.long hi), .second, .val (.int kd), .val (.long xv), .second, .val (.int (1 : Int32)), .val (.double (FP.dadd (FP.l2d xv) (4602678819172646912 : UInt64))), .second, .val (.int (0 : Int32)), .unset] []))) (fun t_ k_ => XS.istore X0.here hx rfl (hb hby at_136) rfl (l' := #[.val (.int p0), .val (.int p1), .val (.int p2), .val (.int p3), .val (.long lo), .second, .val (.long hi), .second, .val (.int kd), .val (.long xv), .second, .val (.int (1 : Int32)), .val (.double (FP.dadd (FP.l2d xv) (4602678819172646912 : UInt64))), .second, .val (.int (0 : Int32)), .unset]) rfl k_) ?_
          refine Go.st (U := (s₁.setTop (mkF m 164 #[.val (.int p0), .val (.int p1), .val (.int p2), .val (.int p3), .val (.long lo), .second, .val (.long hi), .second, .val (.int kd), .val (.long xv), .second, .val (.int (1 : Int32)), .val (.double (FP.dadd (FP.l2d xv) (4602678819172646912 : UInt64))), .second, .val (.int (0 : Int32)), .unset] []))) (fun t_ k_ => XS.goto X0.here hx rfl (pc0 := 138) (pc' := 164) rfl (hb hby at_138) (by decide) (by decide) k_) ?_
          obtain ⟨Ti13, hi13, Xi13, ei13, Gi13, Ai13, Di13, -, sti13⟩ := newO X0 hx hZ hown (hw _ (List.mem_of_getElem? (i := 0) rfl)) (hw _ (List.mem_of_getElem? (i := 1) rfl)) (hw _ (List.mem_of_getElem? (i := 2) rfl)) e0 (g := (mkF m 164 #[.val (.int p0), .val (.int p1), .val (.int p2), .val (.int p3), .val (.long lo), .second, .val (.long hi), .second, .val (.int kd), .val (.long xv), .second, .val (.int (1 : Int32)), .val (.double (FP.dadd (FP.l2d xv) (4602678819172646912 : UInt64))), .second, .val (.int (0 : Int32)), .unset] [])) rfl (hb hby at_164) (by decide) (by decide)
          obtain ⟨bi13, gi13⟩ : ∃ z, z = h0.size := ⟨_, rfl⟩
          rw [← gi13] at Ai13 Di13 sti13
          have ge_bi13 : n0 ≤ bi13 := Nat.le_trans Z0 (Nat.le_of_eq gi13.symm)
          have sz_bi13 : h0.size ≤ bi13 := Nat.le_of_eq gi13.symm
          have sz0_bi13 : h0.size ≤ bi13 := Nat.le_trans (Keep.size_le (Keep.refl h0 [])) sz_bi13
          have Fi13_bi13_low : Fld Z hi13 bi13 "com/example/lethe/lethe/Range" "low" "D" (.double 0) := Di13 (Or.inr (hw _ (List.mem_of_getElem? (i := 15) rfl))) (ty := .double) (by decide)
          have Fi13_bi13_high : Fld Z hi13 bi13 "com/example/lethe/lethe/Range" "high" "D" (.double 0) := Di13 (Or.inr (hw _ (List.mem_of_getElem? (i := 17) rfl))) (ty := .double) (by decide)
          have Zi13 : n0 ≤ hi13.size := Nat.le_trans Z0 Gi13.1
          have Ki13 := Keep.ext (Keep.refl h0 []) Gi13
          refine Go.st (U := (Ti13.setTop (mkF m 167 #[.val (.int p0), .val (.int p1), .val (.int p2), .val (.int p3), .val (.long lo), .second, .val (.long hi), .second, .val (.int kd), .val (.long xv), .second, .val (.int (1 : Int32)), .val (.double (FP.dadd (FP.l2d xv) (4602678819172646912 : UInt64))), .second, .val (.int (0 : Int32)), .unset] [(.ref bi13)]))) sti13 ?_
          refine Go.st (U := (Ti13.setTop (mkF m 168 #[.val (.int p0), .val (.int p1), .val (.int p2), .val (.int p3), .val (.long lo), .second, .val (.long hi), .second, .val (.int kd), .val (.long xv), .second, .val (.int (1 : Int32)), .val (.double (FP.dadd (FP.l2d xv) (4602678819172646912 : UInt64))), .second, .val (.int (0 : Int32)), .unset] [(.ref bi13), (.ref bi13)]))) (fun t_ k_ => XS.dup Xi13.here hx rfl (hb hby at_167) rfl rfl k_) ?_
          refine Go.st (U := (Ti13.setTop (mkF m 169 #[.val (.int p0), .val (.int p1), .val (.int p2), .val (.int p3), .val (.long lo), .second, .val (.long hi), .second, .val (.int kd), .val (.long xv), .second, .val (.int (1 : Int32)), .val (.double (FP.dadd (FP.l2d xv) (4602678819172646912 : UInt64))), .second, .val (.int (0 : Int32)), .unset] [(.int p0), (.ref bi13), (.ref bi13)]))) (fun t_ k_ => XS.iloadN Xi13.here hx rfl (hb hby at_168) rfl k_) ?_
          refine Go.st (U := (Ti13.setTop (mkF m 170 #[.val (.int p0), .val (.int p1), .val (.int p2), .val (.int p3), .val (.long lo), .second, .val (.long hi), .second, .val (.int kd), .val (.long xv), .second, .val (.int (1 : Int32)), .val (.double (FP.dadd (FP.l2d xv) (4602678819172646912 : UInt64))), .second, .val (.int (0 : Int32)), .unset] [(.double (FP.i2d p0)), (.ref bi13), (.ref bi13)]))) (fun t_ k_ => XS.i2dS Xi13.here hx rfl (hb hby at_169) rfl rfl k_) ?_
          refine Go.st (U := (Ti13.setTop (mkF m 171 #[.val (.int p0), .val (.int p1), .val (.int p2), .val (.int p3), .val (.long lo), .second, .val (.long hi), .second, .val (.int kd), .val (.long xv), .second, .val (.int (1 : Int32)), .val (.double (FP.dadd (FP.l2d xv) (4602678819172646912 : UInt64))), .second, .val (.int (0 : Int32)), .unset] [(.int p1), (.double (FP.i2d p0)), (.ref bi13), (.ref bi13)]))) (fun t_ k_ => XS.iloadN Xi13.here hx rfl (hb hby at_170) rfl k_) ?_
          refine Go.st (U := (Ti13.setTop (mkF m 172 #[.val (.int p0), .val (.int p1), .val (.int p2), .val (.int p3), .val (.long lo), .second, .val (.long hi), .second, .val (.int kd), .val (.long xv), .second, .val (.int (1 : Int32)), .val (.double (FP.dadd (FP.l2d xv) (4602678819172646912 : UInt64))), .second, .val (.int (0 : Int32)), .unset] [(.double (FP.i2d p1)), (.double (FP.i2d p0)), (.ref bi13), (.ref bi13)]))) (fun t_ k_ => XS.i2dS Xi13.here hx rfl (hb hby at_171) rfl rfl k_) ?_
          refine Go.callI Xi13 hx hZ hown rfl (hw _ (List.mem_of_getElem? (i := 3) rfl)) (hw _ (List.mem_of_getElem? (i := 4) rfl)) (hw _ (List.mem_of_getElem? (i := 2) rfl)) (hw _ (List.mem_of_getElem? (i := 5) rfl)) (by decide) (rm_rng l Z a0 hw [] bi13 (FP.i2d p0) (FP.i2d p1) (.double 0) (.double 0) hi13 n0 Zi13 Ai13 ge_bi13 Fi13_bi13_low Fi13_bi13_high) ei13 1 (by decide) (by decide) (g := (mkF m 172 #[.val (.int p0), .val (.int p1), .val (.int p2), .val (.int p3), .val (.long lo), .second, .val (.long hi), .second, .val (.int kd), .val (.long xv), .second, .val (.int (1 : Int32)), .val (.double (FP.dadd (FP.l2d xv) (4602678819172646912 : UInt64))), .second, .val (.int (0 : Int32)), .unset] [(.double (FP.i2d p1)), (.double (FP.i2d p0)), (.ref bi13), (.ref bi13)])) rfl (by rw [hml]; rfl) bi13 [(.double (FP.i2d p0)), (.double (FP.i2d p1))] [(.ref bi13)] rfl (lenOf pd1 rfl) rfl (by show 2 * 0 + _ ≤ _; exact Nat.le_of_eq rfl) (hb hby at_172) (by decide) (by decide) ?_
          intro vi14 Ti14 Li14 hQi14 Xi14
          obtain ⟨rfl, Ni14, Ki14, Ei14_bi13, Fi14_bi13_low, Fi14_bi13_high⟩ := hQi14
          have Ni14 := Fr.app N0 Ni14
          have Zi14 : n0 ≤ Ti14.heap.size := Nat.le_trans Zi13 Ki14.1
          have Ki14 := Keep.trans Ki13 Ki14 (allS (Or.inr sz0_bi13) all0)
          show Go p e below s _ _ (Ti14.setTop (mkF m 175 #[.val (.int p0), .val (.int p1), .val (.int p2), .val (.int p3), .val (.long lo), .second, .val (.long hi), .second, .val (.int kd), .val (.long xv), .second, .val (.int (1 : Int32)), .val (.double (FP.dadd (FP.l2d xv) (4602678819172646912 : UInt64))), .second, .val (.int (0 : Int32)), .unset] [(.ref bi13)]))
          refine Go.st (U := (Ti14.setTop (mkF m 177 #[.val (.int p0), .val (.int p1), .val (.int p2), .val (.int p3), .val (.long lo), .second, .val (.long hi), .second, .val (.int kd), .val (.long xv), .second, .val (.int (1 : Int32)), .val (.double (FP.dadd (FP.l2d xv) (4602678819172646912 : UInt64))), .second, .val (.int (0 : Int32)), .val (.ref bi13)] []))) (fun t_ k_ => XS.astore Xi14.here hx rfl (hb hby at_175) rfl rfl (l' := #[.val (.int p0), .val (.int p1), .val (.int p2), .val (.int p3), .val (.long lo), .second, .val (.long hi), .second, .val (.int kd), .val (.long xv), .second, .val (.int (1 : Int32)), .val (.double (FP.dadd (FP.l2d xv) (4602678819172646912 : UInt64))), .second, .val (.int (0 : Int32)), .val (.ref bi13)]) rfl k_) ?_
          refine Go.st (U := (Ti14.setTop (mkF m 179 #[.val (.int p0), .val (.int p1), .val (.int p2), .val (.int p3), .val (.long lo), .second, .val (.long hi), .second, .val (.int kd), .val (.long xv), .second, .val (.int (1 : Int32)), .val (.double (FP.dadd (FP.l2d xv) (4602678819172646912 : UInt64))), .second, .val (.int (0 : Int32)), .val (.ref bi13)] [(.ref bi13)]))) (fun t_ k_ => XS.aload Xi14.here hx rfl (hb hby at_177) rfl rfl k_) ?_
          refine Go.st (U := (Ti14.setTop (mkF m 181 #[.val (.int p0), .val (.int p1), .val (.int p2), .val (.int p3), .val (.long lo), .second, .val (.long hi), .second, .val (.int kd), .val (.long xv), .second, .val (.int (1 : Int32)), .val (.double (FP.dadd (FP.l2d xv) (4602678819172646912 : UInt64))), .second, .val (.int (0 : Int32)), .val (.ref bi13)] [(.double (FP.dadd (FP.l2d xv) (4602678819172646912 : UInt64))), (.ref bi13)]))) (fun t_ k_ => XS.dload Xi14.here hx rfl (hb hby at_179) rfl k_) ?_
          refine Go.callV Xi14 hx hZ hown (hw _ (List.mem_of_getElem? (i := 18) rfl)) (hw _ (List.mem_of_getElem? (i := 19) rfl)) (hw _ (List.mem_of_getElem? (i := 21) rfl)) (hw _ (List.mem_of_getElem? (i := 20) rfl)) (hw _ (List.mem_of_getElem? (i := 2) rfl)) (hw _ (List.mem_of_getElem? (i := 22) rfl)) (by decide) (rm_cnr l Z a0 hw [] bi13 (FP.dadd (FP.l2d xv) (4602678819172646912 : UInt64)) (FP.i2d p0) (FP.i2d p1) Ti14.heap n0 Zi14 Fi14_bi13_low Fi14_bi13_high (((own_hl q_lo B_x).2 h118)) (((own_hr q_hi B_x).1 h128))) (rfl : Ti14.heap = Ti14.heap) bi13 Ei14_bi13 0 (by decide) (by decide) (g := (mkF m 181 #[.val (.int p0), .val (.int p1), .val (.int p2), .val (.int p3), .val (.long lo), .second, .val (.long hi), .second, .val (.int kd), .val (.long xv), .second, .val (.int (1 : Int32)), .val (.double (FP.dadd (FP.l2d xv) (4602678819172646912 : UInt64))), .second, .val (.int (0 : Int32)), .val (.ref bi13)] [(.double (FP.dadd (FP.l2d xv) (4602678819172646912 : UInt64))), (.ref bi13)])) rfl (by rw [hml]; rfl) [(.double (FP.dadd (FP.l2d xv) (4602678819172646912 : UInt64)))] [] rfl (lenOf pd2 rfl) rfl (by show 2 * 0 + _ ≤ _; exact Nat.le_of_eq rfl) (hb hby at_181) (by decide) (by decide) ?_
          intro vi15 Ti15 Li15 hQi15 Xi15
          obtain ⟨rfl, Ni15, ei15⟩ := hQi15
          have Ni15 := Fr.app Ni14 Ni15
          show Go p e below s _ _ (Ti15.setTop (mkF m 184 #[.val (.int p0), .val (.int p1), .val (.int p2), .val (.int p3), .val (.long lo), .second, .val (.long hi), .second, .val (.int kd), .val (.long xv), .second, .val (.int (1 : Int32)), .val (.double (FP.dadd (FP.l2d xv) (4602678819172646912 : UInt64))), .second, .val (.int (0 : Int32)), .val (.ref bi13)] [(.int (0 : Int32))]))
          refine Go.st (U := (Ti15.setTop (mkF m 186 #[.val (.int p0), .val (.int p1), .val (.int p2), .val (.int p3), .val (.long lo), .second, .val (.long hi), .second, .val (.int kd), .val (.long xv), .second, .val (.int (1 : Int32)), .val (.double (FP.dadd (FP.l2d xv) (4602678819172646912 : UInt64))), .second, .val (.int (0 : Int32)), .val (.ref bi13)] [(.int (0 : Int32)), (.int (0 : Int32))]))) (fun t_ k_ => XS.iload Xi15.here hx rfl (hb hby at_184) rfl k_) ?_
          refine Go.st (U := (Ti15.setTop (mkF m 189 #[.val (.int p0), .val (.int p1), .val (.int p2), .val (.int p3), .val (.long lo), .second, .val (.long hi), .second, .val (.int kd), .val (.long xv), .second, .val (.int (1 : Int32)), .val (.double (FP.dadd (FP.l2d xv) (4602678819172646912 : UInt64))), .second, .val (.int (0 : Int32)), .val (.ref bi13)] []))) (fun t_ k_ => XS.icmpNo Xi15.here hx rfl (hb hby at_186) rfl (teq (rfl : _ = _)).2 k_) ?_
          refine Go.st (U := (Ti15.setTop (mkF m 190 #[.val (.int p0), .val (.int p1), .val (.int p2), .val (.int p3), .val (.long lo), .second, .val (.long hi), .second, .val (.int kd), .val (.long xv), .second, .val (.int (1 : Int32)), .val (.double (FP.dadd (FP.l2d xv) (4602678819172646912 : UInt64))), .second, .val (.int (0 : Int32)), .val (.ref bi13)] [(.int (1 : Int32))]))) (fun t_ k_ => XS.iconst Xi15.here hx rfl (hb hby at_189) k_) ?_
          refine Go.st (U := (Ti15.setTop (mkF m 194 #[.val (.int p0), .val (.int p1), .val (.int p2), .val (.int p3), .val (.long lo), .second, .val (.long hi), .second, .val (.int kd), .val (.long xv), .second, .val (.int (1 : Int32)), .val (.double (FP.dadd (FP.l2d xv) (4602678819172646912 : UInt64))), .second, .val (.int (0 : Int32)), .val (.ref bi13)] [(.int (1 : Int32))]))) (fun t_ k_ => XS.goto Xi15.here hx rfl (pc0 := 190) (pc' := 194) rfl (hb hby at_190) (by decide) (by decide) k_) ?_
          refine Go.retZ Xi15 hx hlk hret (hb hby at_194) (by decide) (by decide) ?_
          exact ⟨rfl, Ni15⟩
        · refine Go.st (U := (s₁.setTop (mkF m 131 #[.val (.int p0), .val (.int p1), .val (.int p2), .val (.int p3), .val (.long lo), .second, .val (.long hi), .second, .val (.int kd), .val (.long xv), .second, .val (.int (1 : Int32)), .val (.double (FP.dadd (FP.l2d xv) (4602678819172646912 : UInt64))), .second, .unset, .unset] []))) (fun t_ k_ => XS.ifNo X0.here hx rfl (hb hby at_128) rfl ((if0 _ _).trans (flt h128).2.2.1) k_) ?_
          refine Go.st (U := (s₁.setTop (mkF m 132 #[.val (.int p0), .val (.int p1), .val (.int p2), .val (.int p3), .val (.long lo), .second, .val (.long hi), .second, .val (.int kd), .val (.long xv), .second, .val (.int (1 : Int32)), .val (.double (FP.dadd (FP.l2d xv) (4602678819172646912 : UInt64))), .second, .unset, .unset] [(.int (1 : Int32))]))) (fun t_ k_ => XS.iconst X0.here hx rfl (hb hby at_131) k_) ?_
          refine Go.st (U := (s₁.setTop (mkF m 136 #[.val (.int p0), .val (.int p1), .val (.int p2), .val (.int p3), .val (.long lo), .second, .val (.long hi), .second, .val (.int kd), .val (.long xv), .second, .val (.int (1 : Int32)), .val (.double (FP.dadd (FP.l2d xv) (4602678819172646912 : UInt64))), .second, .unset, .unset] [(.int (1 : Int32))]))) (fun t_ k_ => XS.goto X0.here hx rfl (pc0 := 132) (pc' := 136) rfl (hb hby at_132) (by decide) (by decide) k_) ?_
          refine Go.st (U := (s₁.setTop (mkF m 138 #[.val (.int p0), .val (.int p1), .val (.int p2), .val (.int p3), .val (.long lo), .second, .val (.long hi), .second, .val (.int kd), .val (.long xv), .second, .val (.int (1 : Int32)), .val (.double (FP.dadd (FP.l2d xv) (4602678819172646912 : UInt64))), .second, .val (.int (1 : Int32)), .unset] []))) (fun t_ k_ => XS.istore X0.here hx rfl (hb hby at_136) rfl (l' := #[.val (.int p0), .val (.int p1), .val (.int p2), .val (.int p3), .val (.long lo), .second, .val (.long hi), .second, .val (.int kd), .val (.long xv), .second, .val (.int (1 : Int32)), .val (.double (FP.dadd (FP.l2d xv) (4602678819172646912 : UInt64))), .second, .val (.int (1 : Int32)), .unset]) rfl k_) ?_
          refine Go.st (U := (s₁.setTop (mkF m 164 #[.val (.int p0), .val (.int p1), .val (.int p2), .val (.int p3), .val (.long lo), .second, .val (.long hi), .second, .val (.int kd), .val (.long xv), .second, .val (.int (1 : Int32)), .val (.double (FP.dadd (FP.l2d xv) (4602678819172646912 : UInt64))), .second, .val (.int (1 : Int32)), .unset] []))) (fun t_ k_ => XS.goto X0.here hx rfl (pc0 := 138) (pc' := 164) rfl (hb hby at_138) (by decide) (by decide) k_) ?_
          obtain ⟨Ti16, hi16, Xi16, ei16, Gi16, Ai16, Di16, -, sti16⟩ := newO X0 hx hZ hown (hw _ (List.mem_of_getElem? (i := 0) rfl)) (hw _ (List.mem_of_getElem? (i := 1) rfl)) (hw _ (List.mem_of_getElem? (i := 2) rfl)) e0 (g := (mkF m 164 #[.val (.int p0), .val (.int p1), .val (.int p2), .val (.int p3), .val (.long lo), .second, .val (.long hi), .second, .val (.int kd), .val (.long xv), .second, .val (.int (1 : Int32)), .val (.double (FP.dadd (FP.l2d xv) (4602678819172646912 : UInt64))), .second, .val (.int (1 : Int32)), .unset] [])) rfl (hb hby at_164) (by decide) (by decide)
          obtain ⟨bi16, gi16⟩ : ∃ z, z = h0.size := ⟨_, rfl⟩
          rw [← gi16] at Ai16 Di16 sti16
          have ge_bi16 : n0 ≤ bi16 := Nat.le_trans Z0 (Nat.le_of_eq gi16.symm)
          have sz_bi16 : h0.size ≤ bi16 := Nat.le_of_eq gi16.symm
          have sz0_bi16 : h0.size ≤ bi16 := Nat.le_trans (Keep.size_le (Keep.refl h0 [])) sz_bi16
          have Fi16_bi16_low : Fld Z hi16 bi16 "com/example/lethe/lethe/Range" "low" "D" (.double 0) := Di16 (Or.inr (hw _ (List.mem_of_getElem? (i := 15) rfl))) (ty := .double) (by decide)
          have Fi16_bi16_high : Fld Z hi16 bi16 "com/example/lethe/lethe/Range" "high" "D" (.double 0) := Di16 (Or.inr (hw _ (List.mem_of_getElem? (i := 17) rfl))) (ty := .double) (by decide)
          have Zi16 : n0 ≤ hi16.size := Nat.le_trans Z0 Gi16.1
          have Ki16 := Keep.ext (Keep.refl h0 []) Gi16
          refine Go.st (U := (Ti16.setTop (mkF m 167 #[.val (.int p0), .val (.int p1), .val (.int p2), .val (.int p3), .val (.long lo), .second, .val (.long hi), .second, .val (.int kd), .val (.long xv), .second, .val (.int (1 : Int32)), .val (.double (FP.dadd (FP.l2d xv) (4602678819172646912 : UInt64))), .second, .val (.int (1 : Int32)), .unset] [(.ref bi16)]))) sti16 ?_
          refine Go.st (U := (Ti16.setTop (mkF m 168 #[.val (.int p0), .val (.int p1), .val (.int p2), .val (.int p3), .val (.long lo), .second, .val (.long hi), .second, .val (.int kd), .val (.long xv), .second, .val (.int (1 : Int32)), .val (.double (FP.dadd (FP.l2d xv) (4602678819172646912 : UInt64))), .second, .val (.int (1 : Int32)), .unset] [(.ref bi16), (.ref bi16)]))) (fun t_ k_ => XS.dup Xi16.here hx rfl (hb hby at_167) rfl rfl k_) ?_
          refine Go.st (U := (Ti16.setTop (mkF m 169 #[.val (.int p0), .val (.int p1), .val (.int p2), .val (.int p3), .val (.long lo), .second, .val (.long hi), .second, .val (.int kd), .val (.long xv), .second, .val (.int (1 : Int32)), .val (.double (FP.dadd (FP.l2d xv) (4602678819172646912 : UInt64))), .second, .val (.int (1 : Int32)), .unset] [(.int p0), (.ref bi16), (.ref bi16)]))) (fun t_ k_ => XS.iloadN Xi16.here hx rfl (hb hby at_168) rfl k_) ?_
          refine Go.st (U := (Ti16.setTop (mkF m 170 #[.val (.int p0), .val (.int p1), .val (.int p2), .val (.int p3), .val (.long lo), .second, .val (.long hi), .second, .val (.int kd), .val (.long xv), .second, .val (.int (1 : Int32)), .val (.double (FP.dadd (FP.l2d xv) (4602678819172646912 : UInt64))), .second, .val (.int (1 : Int32)), .unset] [(.double (FP.i2d p0)), (.ref bi16), (.ref bi16)]))) (fun t_ k_ => XS.i2dS Xi16.here hx rfl (hb hby at_169) rfl rfl k_) ?_
          refine Go.st (U := (Ti16.setTop (mkF m 171 #[.val (.int p0), .val (.int p1), .val (.int p2), .val (.int p3), .val (.long lo), .second, .val (.long hi), .second, .val (.int kd), .val (.long xv), .second, .val (.int (1 : Int32)), .val (.double (FP.dadd (FP.l2d xv) (4602678819172646912 : UInt64))), .second, .val (.int (1 : Int32)), .unset] [(.int p1), (.double (FP.i2d p0)), (.ref bi16), (.ref bi16)]))) (fun t_ k_ => XS.iloadN Xi16.here hx rfl (hb hby at_170) rfl k_) ?_
          refine Go.st (U := (Ti16.setTop (mkF m 172 #[.val (.int p0), .val (.int p1), .val (.int p2), .val (.int p3), .val (.long lo), .second, .val (.long hi), .second, .val (.int kd), .val (.long xv), .second, .val (.int (1 : Int32)), .val (.double (FP.dadd (FP.l2d xv) (4602678819172646912 : UInt64))), .second, .val (.int (1 : Int32)), .unset] [(.double (FP.i2d p1)), (.double (FP.i2d p0)), (.ref bi16), (.ref bi16)]))) (fun t_ k_ => XS.i2dS Xi16.here hx rfl (hb hby at_171) rfl rfl k_) ?_
          refine Go.callI Xi16 hx hZ hown rfl (hw _ (List.mem_of_getElem? (i := 3) rfl)) (hw _ (List.mem_of_getElem? (i := 4) rfl)) (hw _ (List.mem_of_getElem? (i := 2) rfl)) (hw _ (List.mem_of_getElem? (i := 5) rfl)) (by decide) (rm_rng l Z a0 hw [] bi16 (FP.i2d p0) (FP.i2d p1) (.double 0) (.double 0) hi16 n0 Zi16 Ai16 ge_bi16 Fi16_bi16_low Fi16_bi16_high) ei16 1 (by decide) (by decide) (g := (mkF m 172 #[.val (.int p0), .val (.int p1), .val (.int p2), .val (.int p3), .val (.long lo), .second, .val (.long hi), .second, .val (.int kd), .val (.long xv), .second, .val (.int (1 : Int32)), .val (.double (FP.dadd (FP.l2d xv) (4602678819172646912 : UInt64))), .second, .val (.int (1 : Int32)), .unset] [(.double (FP.i2d p1)), (.double (FP.i2d p0)), (.ref bi16), (.ref bi16)])) rfl (by rw [hml]; rfl) bi16 [(.double (FP.i2d p0)), (.double (FP.i2d p1))] [(.ref bi16)] rfl (lenOf pd1 rfl) rfl (by show 2 * 0 + _ ≤ _; exact Nat.le_of_eq rfl) (hb hby at_172) (by decide) (by decide) ?_
          intro vi17 Ti17 Li17 hQi17 Xi17
          obtain ⟨rfl, Ni17, Ki17, Ei17_bi16, Fi17_bi16_low, Fi17_bi16_high⟩ := hQi17
          have Ni17 := Fr.app N0 Ni17
          have Zi17 : n0 ≤ Ti17.heap.size := Nat.le_trans Zi16 Ki17.1
          have Ki17 := Keep.trans Ki16 Ki17 (allS (Or.inr sz0_bi16) all0)
          show Go p e below s _ _ (Ti17.setTop (mkF m 175 #[.val (.int p0), .val (.int p1), .val (.int p2), .val (.int p3), .val (.long lo), .second, .val (.long hi), .second, .val (.int kd), .val (.long xv), .second, .val (.int (1 : Int32)), .val (.double (FP.dadd (FP.l2d xv) (4602678819172646912 : UInt64))), .second, .val (.int (1 : Int32)), .unset] [(.ref bi16)]))
          refine Go.st (U := (Ti17.setTop (mkF m 177 #[.val (.int p0), .val (.int p1), .val (.int p2), .val (.int p3), .val (.long lo), .second, .val (.long hi), .second, .val (.int kd), .val (.long xv), .second, .val (.int (1 : Int32)), .val (.double (FP.dadd (FP.l2d xv) (4602678819172646912 : UInt64))), .second, .val (.int (1 : Int32)), .val (.ref bi16)] []))) (fun t_ k_ => XS.astore Xi17.here hx rfl (hb hby at_175) rfl rfl (l' := #[.val (.int p0), .val (.int p1), .val (.int p2), .val (.int p3), .val (.long lo), .second, .val (.long hi), .second, .val (.int kd), .val (.long xv), .second, .val (.int (1 : Int32)), .val (.double (FP.dadd (FP.l2d xv) (4602678819172646912 : UInt64))), .second, .val (.int (1 : Int32)), .val (.ref bi16)]) rfl k_) ?_
          refine Go.st (U := (Ti17.setTop (mkF m 179 #[.val (.int p0), .val (.int p1), .val (.int p2), .val (.int p3), .val (.long lo), .second, .val (.long hi), .second, .val (.int kd), .val (.long xv), .second, .val (.int (1 : Int32)), .val (.double (FP.dadd (FP.l2d xv) (4602678819172646912 : UInt64))), .second, .val (.int (1 : Int32)), .val (.ref bi16)] [(.ref bi16)]))) (fun t_ k_ => XS.aload Xi17.here hx rfl (hb hby at_177) rfl rfl k_) ?_
          refine Go.st (U := (Ti17.setTop (mkF m 181 #[.val (.int p0), .val (.int p1), .val (.int p2), .val (.int p3), .val (.long lo), .second, .val (.long hi), .second, .val (.int kd), .val (.long xv), .second, .val (.int (1 : Int32)), .val (.double (FP.dadd (FP.l2d xv) (4602678819172646912 : UInt64))), .second, .val (.int (1 : Int32)), .val (.ref bi16)] [(.double (FP.dadd (FP.l2d xv) (4602678819172646912 : UInt64))), (.ref bi16)]))) (fun t_ k_ => XS.dload Xi17.here hx rfl (hb hby at_179) rfl k_) ?_
          refine Go.callV Xi17 hx hZ hown (hw _ (List.mem_of_getElem? (i := 18) rfl)) (hw _ (List.mem_of_getElem? (i := 19) rfl)) (hw _ (List.mem_of_getElem? (i := 21) rfl)) (hw _ (List.mem_of_getElem? (i := 20) rfl)) (hw _ (List.mem_of_getElem? (i := 2) rfl)) (hw _ (List.mem_of_getElem? (i := 22) rfl)) (by decide) (rm_cny l Z a0 hw [] bi16 (FP.dadd (FP.l2d xv) (4602678819172646912 : UInt64)) (FP.i2d p0) (FP.i2d p1) Ti17.heap n0 Zi17 Fi17_bi16_low Fi17_bi16_high (((own_hl q_lo B_x).2 h118)) (((own_hr q_hi B_x).2 h128))) (rfl : Ti17.heap = Ti17.heap) bi16 Ei17_bi16 0 (by decide) (by decide) (g := (mkF m 181 #[.val (.int p0), .val (.int p1), .val (.int p2), .val (.int p3), .val (.long lo), .second, .val (.long hi), .second, .val (.int kd), .val (.long xv), .second, .val (.int (1 : Int32)), .val (.double (FP.dadd (FP.l2d xv) (4602678819172646912 : UInt64))), .second, .val (.int (1 : Int32)), .val (.ref bi16)] [(.double (FP.dadd (FP.l2d xv) (4602678819172646912 : UInt64))), (.ref bi16)])) rfl (by rw [hml]; rfl) [(.double (FP.dadd (FP.l2d xv) (4602678819172646912 : UInt64)))] [] rfl (lenOf pd2 rfl) rfl (by show 2 * 0 + _ ≤ _; exact Nat.le_of_eq rfl) (hb hby at_181) (by decide) (by decide) ?_
          intro vi18 Ti18 Li18 hQi18 Xi18
          obtain ⟨rfl, Ni18, ei18⟩ := hQi18
          have Ni18 := Fr.app Ni17 Ni18
          show Go p e below s _ _ (Ti18.setTop (mkF m 184 #[.val (.int p0), .val (.int p1), .val (.int p2), .val (.int p3), .val (.long lo), .second, .val (.long hi), .second, .val (.int kd), .val (.long xv), .second, .val (.int (1 : Int32)), .val (.double (FP.dadd (FP.l2d xv) (4602678819172646912 : UInt64))), .second, .val (.int (1 : Int32)), .val (.ref bi16)] [(.int (1 : Int32))]))
          refine Go.st (U := (Ti18.setTop (mkF m 186 #[.val (.int p0), .val (.int p1), .val (.int p2), .val (.int p3), .val (.long lo), .second, .val (.long hi), .second, .val (.int kd), .val (.long xv), .second, .val (.int (1 : Int32)), .val (.double (FP.dadd (FP.l2d xv) (4602678819172646912 : UInt64))), .second, .val (.int (1 : Int32)), .val (.ref bi16)] [(.int (1 : Int32)), (.int (1 : Int32))]))) (fun t_ k_ => XS.iload Xi18.here hx rfl (hb hby at_184) rfl k_) ?_
          refine Go.st (U := (Ti18.setTop (mkF m 189 #[.val (.int p0), .val (.int p1), .val (.int p2), .val (.int p3), .val (.long lo), .second, .val (.long hi), .second, .val (.int kd), .val (.long xv), .second, .val (.int (1 : Int32)), .val (.double (FP.dadd (FP.l2d xv) (4602678819172646912 : UInt64))), .second, .val (.int (1 : Int32)), .val (.ref bi16)] []))) (fun t_ k_ => XS.icmpNo Xi18.here hx rfl (hb hby at_186) rfl (teq (rfl : _ = _)).2 k_) ?_
          refine Go.st (U := (Ti18.setTop (mkF m 190 #[.val (.int p0), .val (.int p1), .val (.int p2), .val (.int p3), .val (.long lo), .second, .val (.long hi), .second, .val (.int kd), .val (.long xv), .second, .val (.int (1 : Int32)), .val (.double (FP.dadd (FP.l2d xv) (4602678819172646912 : UInt64))), .second, .val (.int (1 : Int32)), .val (.ref bi16)] [(.int (1 : Int32))]))) (fun t_ k_ => XS.iconst Xi18.here hx rfl (hb hby at_189) k_) ?_
          refine Go.st (U := (Ti18.setTop (mkF m 194 #[.val (.int p0), .val (.int p1), .val (.int p2), .val (.int p3), .val (.long lo), .second, .val (.long hi), .second, .val (.int kd), .val (.long xv), .second, .val (.int (1 : Int32)), .val (.double (FP.dadd (FP.l2d xv) (4602678819172646912 : UInt64))), .second, .val (.int (1 : Int32)), .val (.ref bi16)] [(.int (1 : Int32))]))) (fun t_ k_ => XS.goto Xi18.here hx rfl (pc0 := 190) (pc' := 194) rfl (hb hby at_190) (by decide) (by decide) k_) ?_
          refine Go.retZ Xi18 hx hlk hret (hb hby at_194) (by decide) (by decide) ?_
          exact ⟨rfl, Ni18⟩
  refine Go.st (U := (s₁.setTop (mkF m 16 #[.val (.int p0), .val (.int p1), .val (.int p2), .val (.int p3), .val (.long lo), .second, .val (.long hi), .second, .val (.int kd), .unset, .unset, .unset, .unset, .unset, .unset, .unset] [(.int kd)]))) (fun t_ k_ => XS.iload X0.here hx rfl (hb hby at_14) rfl k_) ?_
  refine Go.st (U := (s₁.setTop (mkF m 17 #[.val (.int p0), .val (.int p1), .val (.int p2), .val (.int p3), .val (.long lo), .second, .val (.long hi), .second, .val (.int kd), .unset, .unset, .unset, .unset, .unset, .unset, .unset] [(.int (1 : Int32)), (.int kd)]))) (fun t_ k_ => XS.iconst X0.here hx rfl (hb hby at_16) k_) ?_
  by_cases h17 : kd = (1 : Int32)
  · refine Go.st (U := (s₁.setTop (mkF m 20 #[.val (.int p0), .val (.int p1), .val (.int p2), .val (.int p3), .val (.long lo), .second, .val (.long hi), .second, .val (.int kd), .unset, .unset, .unset, .unset, .unset, .unset, .unset] []))) (fun t_ k_ => XS.icmpNo X0.here hx rfl (hb hby at_17) rfl (teq h17).2 k_) ?_
    refine Go.st (U := (s₁.setTop (mkF m 22 #[.val (.int p0), .val (.int p1), .val (.int p2), .val (.int p3), .val (.long lo), .second, .val (.long hi), .second, .val (.int kd), .unset, .unset, .unset, .unset, .unset, .unset, .unset] [(.long lo)]))) (fun t_ k_ => XS.lload X0.here hx rfl (hb hby at_20) rfl k_) ?_
    refine Go.st (U := (s₁.setTop (mkF m 24 #[.val (.int p0), .val (.int p1), .val (.int p2), .val (.int p3), .val (.long lo), .second, .val (.long hi), .second, .val (.int kd), .val (.long lo), .second, .unset, .unset, .unset, .unset, .unset] []))) (fun t_ k_ => XS.lstore X0.here hx rfl (hb hby at_22) rfl (l' := #[.val (.int p0), .val (.int p1), .val (.int p2), .val (.int p3), .val (.long lo), .second, .val (.long hi), .second, .val (.int kd), .val (.long lo), .second, .unset, .unset, .unset, .unset, .unset]) rfl k_) ?_
    refine Go.st (U := (s₁.setTop (mkF m 74 #[.val (.int p0), .val (.int p1), .val (.int p2), .val (.int p3), .val (.long lo), .second, .val (.long hi), .second, .val (.int kd), .val (.long lo), .second, .unset, .unset, .unset, .unset, .unset] []))) (fun t_ k_ => XS.goto X0.here hx rfl (pc0 := 24) (pc' := 74) rfl (hb hby at_24) (by decide) (by decide) k_) ?_
    exact J74 lo (own_x q_lo)
  · refine Go.st (U := (s₁.setTop (mkF m 27 #[.val (.int p0), .val (.int p1), .val (.int p2), .val (.int p3), .val (.long lo), .second, .val (.long hi), .second, .val (.int kd), .unset, .unset, .unset, .unset, .unset, .unset, .unset] []))) (fun t_ k_ => XS.icmpYes X0.here hx rfl (pc0 := 17) (pc' := 27) rfl (hb hby at_17) rfl (feq h17).2 (by decide) (by decide) k_) ?_
    refine Go.st (U := (s₁.setTop (mkF m 29 #[.val (.int p0), .val (.int p1), .val (.int p2), .val (.int p3), .val (.long lo), .second, .val (.long hi), .second, .val (.int kd), .unset, .unset, .unset, .unset, .unset, .unset, .unset] [(.int kd)]))) (fun t_ k_ => XS.iload X0.here hx rfl (hb hby at_27) rfl k_) ?_
    refine Go.st (U := (s₁.setTop (mkF m 30 #[.val (.int p0), .val (.int p1), .val (.int p2), .val (.int p3), .val (.long lo), .second, .val (.long hi), .second, .val (.int kd), .unset, .unset, .unset, .unset, .unset, .unset, .unset] [(.int (2 : Int32)), (.int kd)]))) (fun t_ k_ => XS.iconst X0.here hx rfl (hb hby at_29) k_) ?_
    by_cases h30 : kd = (2 : Int32)
    · refine Go.st (U := (s₁.setTop (mkF m 33 #[.val (.int p0), .val (.int p1), .val (.int p2), .val (.int p3), .val (.long lo), .second, .val (.long hi), .second, .val (.int kd), .unset, .unset, .unset, .unset, .unset, .unset, .unset] []))) (fun t_ k_ => XS.icmpNo X0.here hx rfl (hb hby at_30) rfl (teq h30).2 k_) ?_
      refine Go.st (U := (s₁.setTop (mkF m 35 #[.val (.int p0), .val (.int p1), .val (.int p2), .val (.int p3), .val (.long lo), .second, .val (.long hi), .second, .val (.int kd), .unset, .unset, .unset, .unset, .unset, .unset, .unset] [(.long hi)]))) (fun t_ k_ => XS.lload X0.here hx rfl (hb hby at_33) rfl k_) ?_
      refine Go.st (U := (s₁.setTop (mkF m 37 #[.val (.int p0), .val (.int p1), .val (.int p2), .val (.int p3), .val (.long lo), .second, .val (.long hi), .second, .val (.int kd), .val (.long hi), .second, .unset, .unset, .unset, .unset, .unset] []))) (fun t_ k_ => XS.lstore X0.here hx rfl (hb hby at_35) rfl (l' := #[.val (.int p0), .val (.int p1), .val (.int p2), .val (.int p3), .val (.long lo), .second, .val (.long hi), .second, .val (.int kd), .val (.long hi), .second, .unset, .unset, .unset, .unset, .unset]) rfl k_) ?_
      refine Go.st (U := (s₁.setTop (mkF m 74 #[.val (.int p0), .val (.int p1), .val (.int p2), .val (.int p3), .val (.long lo), .second, .val (.long hi), .second, .val (.int kd), .val (.long hi), .second, .unset, .unset, .unset, .unset, .unset] []))) (fun t_ k_ => XS.goto X0.here hx rfl (pc0 := 37) (pc' := 74) rfl (hb hby at_37) (by decide) (by decide) k_) ?_
      exact J74 hi (own_x q_hi)
    · refine Go.st (U := (s₁.setTop (mkF m 40 #[.val (.int p0), .val (.int p1), .val (.int p2), .val (.int p3), .val (.long lo), .second, .val (.long hi), .second, .val (.int kd), .unset, .unset, .unset, .unset, .unset, .unset, .unset] []))) (fun t_ k_ => XS.icmpYes X0.here hx rfl (pc0 := 30) (pc' := 40) rfl (hb hby at_30) rfl (feq h30).2 (by decide) (by decide) k_) ?_
      refine Go.st (U := (s₁.setTop (mkF m 42 #[.val (.int p0), .val (.int p1), .val (.int p2), .val (.int p3), .val (.long lo), .second, .val (.long hi), .second, .val (.int kd), .unset, .unset, .unset, .unset, .unset, .unset, .unset] [(.int kd)]))) (fun t_ k_ => XS.iload X0.here hx rfl (hb hby at_40) rfl k_) ?_
      refine Go.st (U := (s₁.setTop (mkF m 43 #[.val (.int p0), .val (.int p1), .val (.int p2), .val (.int p3), .val (.long lo), .second, .val (.long hi), .second, .val (.int kd), .unset, .unset, .unset, .unset, .unset, .unset, .unset] [(.int (3 : Int32)), (.int kd)]))) (fun t_ k_ => XS.iconst X0.here hx rfl (hb hby at_42) k_) ?_
      by_cases h43 : kd = (3 : Int32)
      · refine Go.st (U := (s₁.setTop (mkF m 46 #[.val (.int p0), .val (.int p1), .val (.int p2), .val (.int p3), .val (.long lo), .second, .val (.long hi), .second, .val (.int kd), .unset, .unset, .unset, .unset, .unset, .unset, .unset] []))) (fun t_ k_ => XS.icmpNo X0.here hx rfl (hb hby at_43) rfl (teq h43).2 k_) ?_
        refine Go.st (U := (s₁.setTop (mkF m 48 #[.val (.int p0), .val (.int p1), .val (.int p2), .val (.int p3), .val (.long lo), .second, .val (.long hi), .second, .val (.int kd), .unset, .unset, .unset, .unset, .unset, .unset, .unset] [(.long lo)]))) (fun t_ k_ => XS.lload X0.here hx rfl (hb hby at_46) rfl k_) ?_
        refine Go.st (U := (s₁.setTop (mkF m 49 #[.val (.int p0), .val (.int p1), .val (.int p2), .val (.int p3), .val (.long lo), .second, .val (.long hi), .second, .val (.int kd), .unset, .unset, .unset, .unset, .unset, .unset, .unset] [(.long (1 : Int64)), (.long lo)]))) (fun t_ k_ => XS.lconst X0.here hx rfl (hb hby at_48) k_) ?_
        refine Go.st (U := (s₁.setTop (mkF m 50 #[.val (.int p0), .val (.int p1), .val (.int p2), .val (.int p3), .val (.long lo), .second, .val (.long hi), .second, .val (.int kd), .unset, .unset, .unset, .unset, .unset, .unset, .unset] [(.long (lo - (1 : Int64)))]))) (fun t_ k_ => XS.lsub X0.here hx rfl (hb hby at_49) rfl k_) ?_
        refine Go.st (U := (s₁.setTop (mkF m 52 #[.val (.int p0), .val (.int p1), .val (.int p2), .val (.int p3), .val (.long lo), .second, .val (.long hi), .second, .val (.int kd), .val (.long (lo - (1 : Int64))), .second, .unset, .unset, .unset, .unset, .unset] []))) (fun t_ k_ => XS.lstore X0.here hx rfl (hb hby at_50) rfl (l' := #[.val (.int p0), .val (.int p1), .val (.int p2), .val (.int p3), .val (.long lo), .second, .val (.long hi), .second, .val (.int kd), .val (.long (lo - (1 : Int64))), .second, .unset, .unset, .unset, .unset, .unset]) rfl k_) ?_
        refine Go.st (U := (s₁.setTop (mkF m 74 #[.val (.int p0), .val (.int p1), .val (.int p2), .val (.int p3), .val (.long lo), .second, .val (.long hi), .second, .val (.int kd), .val (.long (lo - (1 : Int64))), .second, .unset, .unset, .unset, .unset, .unset] []))) (fun t_ k_ => XS.goto X0.here hx rfl (pc0 := 52) (pc' := 74) rfl (hb hby at_52) (by decide) (by decide) k_) ?_
        exact J74 (lo - (1 : Int64)) (own_lo q_lo)
      · refine Go.st (U := (s₁.setTop (mkF m 55 #[.val (.int p0), .val (.int p1), .val (.int p2), .val (.int p3), .val (.long lo), .second, .val (.long hi), .second, .val (.int kd), .unset, .unset, .unset, .unset, .unset, .unset, .unset] []))) (fun t_ k_ => XS.icmpYes X0.here hx rfl (pc0 := 43) (pc' := 55) rfl (hb hby at_43) rfl (feq h43).2 (by decide) (by decide) k_) ?_
        refine Go.st (U := (s₁.setTop (mkF m 57 #[.val (.int p0), .val (.int p1), .val (.int p2), .val (.int p3), .val (.long lo), .second, .val (.long hi), .second, .val (.int kd), .unset, .unset, .unset, .unset, .unset, .unset, .unset] [(.int kd)]))) (fun t_ k_ => XS.iload X0.here hx rfl (hb hby at_55) rfl k_) ?_
        refine Go.st (U := (s₁.setTop (mkF m 58 #[.val (.int p0), .val (.int p1), .val (.int p2), .val (.int p3), .val (.long lo), .second, .val (.long hi), .second, .val (.int kd), .unset, .unset, .unset, .unset, .unset, .unset, .unset] [(.int (4 : Int32)), (.int kd)]))) (fun t_ k_ => XS.iconst X0.here hx rfl (hb hby at_57) k_) ?_
        by_cases h58 : kd = (4 : Int32)
        · refine Go.st (U := (s₁.setTop (mkF m 61 #[.val (.int p0), .val (.int p1), .val (.int p2), .val (.int p3), .val (.long lo), .second, .val (.long hi), .second, .val (.int kd), .unset, .unset, .unset, .unset, .unset, .unset, .unset] []))) (fun t_ k_ => XS.icmpNo X0.here hx rfl (hb hby at_58) rfl (teq h58).2 k_) ?_
          refine Go.st (U := (s₁.setTop (mkF m 63 #[.val (.int p0), .val (.int p1), .val (.int p2), .val (.int p3), .val (.long lo), .second, .val (.long hi), .second, .val (.int kd), .unset, .unset, .unset, .unset, .unset, .unset, .unset] [(.long hi)]))) (fun t_ k_ => XS.lload X0.here hx rfl (hb hby at_61) rfl k_) ?_
          refine Go.st (U := (s₁.setTop (mkF m 64 #[.val (.int p0), .val (.int p1), .val (.int p2), .val (.int p3), .val (.long lo), .second, .val (.long hi), .second, .val (.int kd), .unset, .unset, .unset, .unset, .unset, .unset, .unset] [(.long (1 : Int64)), (.long hi)]))) (fun t_ k_ => XS.lconst X0.here hx rfl (hb hby at_63) k_) ?_
          refine Go.st (U := (s₁.setTop (mkF m 65 #[.val (.int p0), .val (.int p1), .val (.int p2), .val (.int p3), .val (.long lo), .second, .val (.long hi), .second, .val (.int kd), .unset, .unset, .unset, .unset, .unset, .unset, .unset] [(.long (hi + (1 : Int64)))]))) (fun t_ k_ => XS.ladd X0.here hx rfl (hb hby at_64) rfl k_) ?_
          refine Go.st (U := (s₁.setTop (mkF m 67 #[.val (.int p0), .val (.int p1), .val (.int p2), .val (.int p3), .val (.long lo), .second, .val (.long hi), .second, .val (.int kd), .val (.long (hi + (1 : Int64))), .second, .unset, .unset, .unset, .unset, .unset] []))) (fun t_ k_ => XS.lstore X0.here hx rfl (hb hby at_65) rfl (l' := #[.val (.int p0), .val (.int p1), .val (.int p2), .val (.int p3), .val (.long lo), .second, .val (.long hi), .second, .val (.int kd), .val (.long (hi + (1 : Int64))), .second, .unset, .unset, .unset, .unset, .unset]) rfl k_) ?_
          refine Go.st (U := (s₁.setTop (mkF m 74 #[.val (.int p0), .val (.int p1), .val (.int p2), .val (.int p3), .val (.long lo), .second, .val (.long hi), .second, .val (.int kd), .val (.long (hi + (1 : Int64))), .second, .unset, .unset, .unset, .unset, .unset] []))) (fun t_ k_ => XS.goto X0.here hx rfl (pc0 := 67) (pc' := 74) rfl (hb hby at_67) (by decide) (by decide) k_) ?_
          exact J74 (hi + (1 : Int64)) (own_hi q_hi)
        · refine Go.st (U := (s₁.setTop (mkF m 70 #[.val (.int p0), .val (.int p1), .val (.int p2), .val (.int p3), .val (.long lo), .second, .val (.long hi), .second, .val (.int kd), .unset, .unset, .unset, .unset, .unset, .unset, .unset] []))) (fun t_ k_ => XS.icmpYes X0.here hx rfl (pc0 := 58) (pc' := 70) rfl (hb hby at_58) rfl (feq h58).2 (by decide) (by decide) k_) ?_
          refine Go.st (U := (s₁.setTop (mkF m 71 #[.val (.int p0), .val (.int p1), .val (.int p2), .val (.int p3), .val (.long lo), .second, .val (.long hi), .second, .val (.int kd), .unset, .unset, .unset, .unset, .unset, .unset, .unset] [(.int p2)]))) (fun t_ k_ => XS.iloadN X0.here hx rfl (hb hby at_70) rfl k_) ?_
          refine Go.st (U := (s₁.setTop (mkF m 72 #[.val (.int p0), .val (.int p1), .val (.int p2), .val (.int p3), .val (.long lo), .second, .val (.long hi), .second, .val (.int kd), .unset, .unset, .unset, .unset, .unset, .unset, .unset] [(.long (p2.toInt64))]))) (fun t_ k_ => XS.i2l X0.here hx rfl (hb hby at_71) rfl k_) ?_
          refine Go.st (U := (s₁.setTop (mkF m 74 #[.val (.int p0), .val (.int p1), .val (.int p2), .val (.int p3), .val (.long lo), .second, .val (.long hi), .second, .val (.int kd), .val (.long (p2.toInt64)), .second, .unset, .unset, .unset, .unset, .unset] []))) (fun t_ k_ => XS.lstore X0.here hx rfl (hb hby at_72) rfl (l' := #[.val (.int p0), .val (.int p1), .val (.int p2), .val (.int p3), .val (.long lo), .second, .val (.long hi), .second, .val (.int kd), .val (.long (p2.toInt64)), .second, .unset, .unset, .unset, .unset, .unset]) rfl k_) ?_
          exact J74 (p2.toInt64) (own_i p2)
set_option maxRecDepth 65536 in
set_option maxHeartbeats 40000000 in
theorem comes_1 {Post : Tables → Env → Array Value → State → Outcome → State → Prop} (hpost : ∀ tb e args s v u, (limb_1_1.after args s (.returned v) u = true ∧ limb_1_2.after args s (.returned v) u = true ∧ True) → FrameEnd s (.returned v) u (Jvm.fieldLocs frame_1_writes args s ++ Jvm.arrayLocs frame_1_arrays args s ++ Jvm.staticLocs frame_1_statics s) 16 128 → Post tb e args s (.returned v) u) :
    ArmFor flags0 classFile x code maxLocals ret World_1 tables_1 room_1 Calls_1 rest_1 Pre_1 Post := by
  intro l hfl _ _ p e ha hc hk s m args below hf hA hF happ hP
  obtain ⟨hcalls, hrest, hpre⟩ := hP
  obtain ⟨-, -, -, hnamed, -, -, -, hat⟩ := (Spec.applies_iff hf).mp happ
  obtain ⟨hg, hn⟩ := and_e (Cond.before_iff.mp (show (Jvm.Cond.and given_1 narrow_1).before args s = true from hpre))
  obtain ⟨hcnt, k0⟩ := and_e hg
  obtain ⟨j0, k1⟩ := and_e k0
  obtain ⟨j1, k2⟩ := and_e k1
  obtain ⟨j2, k3⟩ := and_e k2
  have j3 := k3
  obtain ⟨w0, w1, w2, w3, rfl⟩ : ∃ w0 w1 w2 w3 : Value, args = #[w0, w1, w2, w3] := by
    have hs : args.size = 4 := by simpa [Cond.value, given_1] using hcnt
    obtain ⟨L⟩ := args
    match L, hs with
    | [w0, w1, w2, w3], _ => exact ⟨w0, w1, w2, w3, rfl⟩
  have hw := fun d (hd : d ∈ tables_1) => atoms_spec (ws := Jvm.Cond.code x code maxLocals ret :: tables_1) hat d (List.mem_cons_of_mem _ hd)
  have hfit : Fit s := fun {y c} hc i hi => by
    obtain ⟨ha, rfl⟩ := Array.getElem?_eq_some_iff.mp hc
    have q := List.all_eq_true.mp ((Array.all_eq_true_iff_forall_mem.mp hF) _ (Array.getElem_mem ha)) i (List.mem_range.mpr hi)
    simpa [Array.getElem?_eq_getElem hi] using q
  obtain ⟨i0, e0⟩ := is_v j0
  obtain rfl : w0 = (.int i0) := Option.some.inj e0
  obtain ⟨i1, e1⟩ := is_v j1
  obtain rfl : w1 = (.int i1) := Option.some.inj e1
  obtain ⟨i2, e2⟩ := is_v j2
  obtain rfl : w2 = (.int i2) := Option.some.inj e2
  obtain ⟨i3, e3⟩ := is_v j3
  obtain rfl : w3 = (.int i3) := Option.some.inj e3
  obtain ⟨n, o, h1, h2, h3, _, L, rfl, ⟨rfl, N⟩, hq⟩ := rm_law l s _ hw tables_1 i0 i1 i2 i3  s.heap s.heap.size (Nat.le_refl _)  p e ha hc hk s m _ below hf ((Spec.applies_iff_loose hf).mp happ).1 ⟨rfl, State.Warmed39.refl s, rfl⟩ trivial
  refine ⟨n, _, h1, h2, h3, hpost _ _ _ _ _ _ ⟨Cond.after_iff.mpr rfl, Cond.after_iff.mpr (eq_i res_at (Term.int_eval (1)) rfl), trivial⟩ ⟨hq.1, hq.2.1, (hq.2.2.sift fun y hy => Or.inr (N y hy)).mono (by decide) (by decide)⟩⟩
theorem main_1_1 : Claimed_1_1 := comes_1 fun _ _ _ _ _ _ h hF => ⟨h.1, hF⟩
theorem main_1_2 : Claimed_1_2 := comes_1 fun _ _ _ _ _ _ h hF => ⟨h.2.1, hF⟩
end Jvm.Pilot.@@N@@
namespace Jvm.Pilot.@@N@@
open Jvm Jvm.ClassFile Sem Op Lib Jvm.Free Jvm.Stand Jvm.Pilot.@@N@@.Jvm.D
/-! MADE BY PROGRAM (witnessworld.py) out of the Statement's table words and the real class files: 10 classes; the members and pool entries that the words name. The judged class is class 1, her method 1. -/
namespace start1
open Jvm.ClassFile
def u (s : String) : CpInfo := .utf8 (stringToUtf16 s)
/-- a pool by its gaps: so many unusable entries, then the entry; so many at the end -/
def gap : Nat → List CpInfo → List CpInfo
  | 0, r => r
  | n + 1, r => .unusable :: gap n r
def poolList (es : List (Nat × CpInfo)) (last : Nat) : List CpInfo := es.foldr (fun e r => gap e.1 (e.2 :: r)) (gap last [])
def pool (es : List (Nat × CpInfo)) (last : Nat) : Array CpInfo := ⟨poolList es last⟩
def fileOf (pool : Array CpInfo) (this : Nat) (attrs : Array Attribute := #[]) (ms : Array MethodInfo := #[]) (fl : Nat := 33) (sup : Nat := 0) (ifs : Array Nat := #[]) (fds : Array FieldInfo := #[]) : ClassFile where
  minorVersion := 0
  majorVersion := 65
  constantPool := pool
  accessFlags := fl
  thisClass := this
  superClass := sup
  interfaces := ifs
  fields := fds
  methods := ms
  attributes := attrs
def plain (name : String) (sup : Option ClassId) : Class where
  name := name
  kind := .ordinary
  loader := none
  accessFlags := 33
  super := sup
  interfaces := #[]
  cf := none
  fields := #[]
  methods := #[]
  instanceTypes := #[]
  staticTypes := #[]
  resolved := #[]
  callSites := []
  init := .initialized
  statics := none
  mirror := none

def pool0 : Array CpInfo := pool [(5, u "<init>"), (0, u "()V"), (1, .class_ 10), (1, u "java/lang/Object")] 113

def k0c0 : Code := { maxStack := 0, maxLocals := 1, code := object_method_1_code, exceptionTable := #[], attributes := #[] }
def k0m0 : Method := { name := "<init>", desc := "()V", sig := { parameters := [], returnType := none }, accessFlags := 1, code := some k0c0 }
/-- java/lang/Object -/
def k0 : Class := { plain "java/lang/Object" none with
  accessFlags := 33
  interfaces := #[]
  cf := some (fileOf pool0 8 #[] #[{ accessFlags := 1, nameIndex := 5, descriptorIndex := 6, attributes := #[] }] 33 0 #[] #[])
  fields := #[]
  methods := #[k0m0]
  instanceTypes := #[]
  staticTypes := #[]
  resolved := Array.replicate 124 none
  statics := none }

def pool1 : Array CpInfo := pool [(2, .class_ 4), (1, u "java/lang/Object"), (0, u "<init>"), (0, u "()V"), (0, .double 4602678819172646912), (1, .class_ 10), (0, u "com/example/lethe/lethe/Range"), (0, .methodref 9 12), (0, .nameAndType 5 13), (0, u "(DD)V"), (0, .methodref 9 15), (0, .nameAndType 16 17), (0, u "contains"), (0, u "(D)Z"), (0, .class_ 19), (0, u "com/example/lethe/lethe/RangeContainsPinLaw"), (2, u "law"), (0, u "(IIII)Z")] 3

def k1m0 : Method := { name := "<init>", desc := "()V", sig := { parameters := [], returnType := none }, accessFlags := 1, code := none }
def k1c1 : Code := { maxStack := 6, maxLocals := 16, code := code, exceptionTable := #[], attributes := #[] }
def k1m1 : Method := { name := "law", desc := "(IIII)Z", sig := { parameters := [.int, .int, .int, .int], returnType := some .boolean }, accessFlags := 9, code := some k1c1 }
/-- com/example/lethe/lethe/RangeContainsPinLaw -/
def k1 : Class := { plain "com/example/lethe/lethe/RangeContainsPinLaw" (some 0) with
  accessFlags := 49
  interfaces := #[]
  cf := some (fileOf pool1 18 #[] #[{ accessFlags := 1, nameIndex := 5, descriptorIndex := 6, attributes := #[] }, { accessFlags := 9, nameIndex := 22, descriptorIndex := 23, attributes := #[] }] 49 2 #[] #[])
  fields := #[]
  methods := #[k1m0, k1m1]
  instanceTypes := #[]
  staticTypes := #[]
  resolved := Array.replicate 27 none
  statics := none }

def pool2 : Array CpInfo := pool [(1, .methodref 2 3), (0, .class_ 4), (0, .nameAndType 5 6), (0, u "java/lang/Object"), (0, u "<init>"), (0, u "()V"), (0, .class_ 8), (0, u "java/lang/Record")] 13

def k2c0 : Code := { maxStack := 1, maxLocals := 1, code := jdk_30_method_1_code, exceptionTable := #[], attributes := #[] }
def k2m0 : Method := { name := "<init>", desc := "()V", sig := { parameters := [], returnType := none }, accessFlags := 4, code := some k2c0 }
/-- java/lang/Record -/
def k2 : Class := { plain "java/lang/Record" (some 0) with
  accessFlags := 1057
  interfaces := #[]
  cf := some (fileOf pool2 7 #[] #[{ accessFlags := 4, nameIndex := 5, descriptorIndex := 6, attributes := #[] }] 1057 2 #[] #[])
  fields := #[]
  methods := #[k2m0]
  instanceTypes := #[]
  staticTypes := #[]
  resolved := Array.replicate 22 none
  statics := none }

def pool3 : Array CpInfo := pool [(1, .methodref 2 3), (0, .class_ 4), (0, .nameAndType 5 6), (0, u "java/lang/Record"), (0, u "<init>"), (0, u "()V"), (0, .fieldref 8 9), (0, .class_ 10), (0, .nameAndType 11 12), (0, u "com/example/lethe/lethe/Range"), (0, u "low"), (0, u "D"), (0, .fieldref 8 14), (0, .nameAndType 15 12), (0, u "high"), (2, u "NUMBER"), (0, u "Ljava/util/regex/Pattern;"), (23, u "(D)Z"), (11, u "RANGE"), (14, u "(DD)V"), (32, u "contains")] 35

def k3c0 : Code := { maxStack := 3, maxLocals := 5, code := prog_10_method_1_code, exceptionTable := #[], attributes := #[] }
def k3m0 : Method := { name := "<init>", desc := "(DD)V", sig := { parameters := [.double, .double], returnType := none }, accessFlags := 0, code := some k3c0 }
def k3c1 : Code := { maxStack := 4, maxLocals := 3, code := prog_10_method_6_code, exceptionTable := #[], attributes := #[] }
def k3m1 : Method := { name := "contains", desc := "(D)Z", sig := { parameters := [.double], returnType := some .boolean }, accessFlags := 0, code := some k3c1 }
/-- com/example/lethe/lethe/Range -/
def k3 : Class := { plain "com/example/lethe/lethe/Range" (some 2) with
  accessFlags := 48
  interfaces := #[]
  cf := some (fileOf pool3 8 #[] #[{ accessFlags := 0, nameIndex := 5, descriptorIndex := 70, attributes := #[] }, { accessFlags := 0, nameIndex := 103, descriptorIndex := 43, attributes := #[] }] 48 2 #[] #[{ accessFlags := 18, nameIndex := 11, descriptorIndex := 12, attributes := #[] }, { accessFlags := 18, nameIndex := 15, descriptorIndex := 12, attributes := #[] }, { accessFlags := 26, nameIndex := 18, descriptorIndex := 19, attributes := #[] }, { accessFlags := 26, nameIndex := 55, descriptorIndex := 19, attributes := #[] }])
  fields := #[{ name := "low", type := .double, accessFlags := 18, slot := 0, constantValue := 0 }, { name := "high", type := .double, accessFlags := 18, slot := 1, constantValue := 0 }, { name := "NUMBER", type := (.object "java/util/regex/Pattern"), accessFlags := 26, slot := 0, constantValue := 0 }, { name := "RANGE", type := (.object "java/util/regex/Pattern"), accessFlags := 26, slot := 1, constantValue := 0 }]
  methods := #[k3m0, k3m1]
  instanceTypes := #[.double, .double]
  staticTypes := #[(.object "java/util/regex/Pattern"), (.object "java/util/regex/Pattern")]
  resolved := Array.replicate 139 none
  statics := none }

def pool4 : Array CpInfo := pool [(1, u "java/lang/Cloneable"), (0, .class_ 1), (0, u "java/lang/Object"), (0, .class_ 3)] 3

/-- java/lang/Cloneable -/
def k4 : Class := { plain "java/lang/Cloneable" (some 0) with
  accessFlags := 1537
  interfaces := #[]
  cf := some (fileOf pool4 2 #[] #[] 1537 4 #[] #[])
  fields := #[]
  methods := #[]
  instanceTypes := #[]
  staticTypes := #[]
  resolved := Array.replicate 8 none
  statics := none }

def pool5 : Array CpInfo := pool [(1, u "java/io/Serializable"), (0, .class_ 1), (0, u "java/lang/Object"), (0, .class_ 3)] 3

/-- java/io/Serializable -/
def k5 : Class := { plain "java/io/Serializable" (some 0) with
  accessFlags := 1537
  interfaces := #[]
  cf := some (fileOf pool5 2 #[] #[] 1537 4 #[] #[])
  fields := #[]
  methods := #[]
  instanceTypes := #[]
  staticTypes := #[]
  resolved := Array.replicate 8 none
  statics := none }

/-- the primitive byte -/
def k6 : Class := { plain "byte" none with kind := .primitive 'B', accessFlags := 0x411 }
/-- [B -/
def k7 : Class := { plain "[B" (some 0) with kind := .array 6 .byte, interfaces := #[4, 5], accessFlags := 1041 }

/-- the primitive int -/
def k8 : Class := { plain "int" none with kind := .primitive 'I', accessFlags := 0x411 }
/-- [I -/
def k9 : Class := { plain "[I" (some 0) with kind := .array 8 .int, interfaces := #[4, 5], accessFlags := 1041 }

def heap : Heap := #[]
def classes : Array Class := #[k0, k1, k2, k3, k4, k5, k6, k7, k8, k9]
def interned : List (Array UInt16 × Addr) := []
def slotsUsed : Nat := 0
def theMethod : MethodId := ⟨1, 1⟩
def args0 : Array Value := #[.int 5, .int 7, .int 9, .int 11]
def aboutOver (below : List Frame) : State where
  vm := { classes := classes, interned := interned.toArray }
  heap := heap
  slotsUsed := slotsUsed
  threads := #[{ frames := .invoking theMethod args0 :: below }]
def below0 : List Frame := [.native { method := ⟨0, 0⟩, args := #[] }]
def about1 : State := aboutOver below0
def p0 : Program := .bare "" "" ""
def e0 : Env := launch0.env 0 0 0
theorem w_frames : about1.frames = Frame.invoking theMethod args0 :: below0 := rfl
set_option maxRecDepth 65536 in
theorem w_args : argsFit about1.vm theMethod args0 = true := by decide +kernel
set_option maxRecDepth 65536 in
theorem w_heap : heapFits about1 = true := by decide +kernel
set_option maxRecDepth 65536 in
theorem w_runnable : about1.curStatus? = some .runnable := by decide +kernel
set_option maxRecDepth 65536 in
theorem w_alone : about1.alone = true := by decide +kernel
set_option maxRecDepth 65536 in
theorem w_named : about1.methodNamed? x = some theMethod := by decide +kernel
set_option maxRecDepth 65536 in
theorem w_hears : about1.hears theMethod below0 = true := by decide +kernel
set_option maxRecDepth 65536 in
theorem w_ripe : about1.ripe theMethod args0 below0 = true := by decide +kernel
theorem w_running : about1.status = .running := rfl
set_option maxRecDepth 65536 in
theorem w_room : about1.hasRoom e0.platform room_1 = true :=
  launch0.hasRoom_least _ room_1 (by decide +kernel) (by decide +kernel) (by decide +kernel) (by decide +kernel) (by decide +kernel) (by decide +kernel)
theorem allAtoms_all (ts : List Jvm.Cond) (a : Array Jvm.Value) (st : Jvm.State) : (allAtoms ts).before a st = ts.all (fun c => c.before a st) := by
  induction ts with
  | nil => rfl
  | cons c t ih =>
    show (Jvm.Cond.and c (allAtoms t)).before a st = _
    rw [Jvm.Cond.before_and, ih, List.all_cons]
def words1 : List Jvm.Cond := Jvm.Cond.code x code maxLocals ret :: tables_1
/-- a 'code' word, met by the world's own term for the bytes: nothing is compared byte by byte -/
theorem code_word {y : MethodName} {bytes : ByteArray} {mx : Nat} {rt : Option FieldType} {a : Array Value} {s : State} {m : MethodId} {meth : Method} {c : Code} (h1 : s.methodNamed? y = some m) (h2 : s.vm.method? m = some meth) (h3 : meth.code = some c) (h4 : c.code = bytes)
    (h5 : (c.maxLocals == mx && c.exceptionTable.isEmpty && decide (c.maxStack ≤ mostOperands) && decide (meth.sig.returnType = rt) && !meth.locks && decide (parseMethodDescriptor y.desc = some meth.sig)) = true) : (Jvm.Cond.code y bytes mx rt).before a s = true := by
  simp only [Bool.and_eq_true, beq_iff_eq, Bool.not_eq_true', decide_eq_true_eq] at h5
  obtain ⟨⟨⟨⟨⟨g1, g2⟩, g3⟩, g4⟩, g5⟩, g6⟩ := h5
  simp [Cond.before, Cond.holds, Cond.value, h1, h2, h3, h4, g1, g2, g3, g4, g5, g6]
def isCode : Jvm.Cond → Bool
  | .code _ _ _ _ => true
  | _ => false
theorem all_split {L : List Jvm.Cond} {P : Jvm.Cond → Bool} (h1 : L.all (fun c => isCode c || P c) = true) (h2 : ∀ c ∈ L.filter isCode, P c = true) : L.all P = true := by
  refine List.all_eq_true.mpr fun c hc => ?_
  have h := List.all_eq_true.mp h1 c hc
  rcases Bool.eq_false_or_eq_true (isCode c) with hi | hi
  · exact h2 c (List.mem_filter.mpr ⟨hc, hi⟩)
  · simpa [hi] using h
set_option maxRecDepth 65536 in
theorem w_c0 : (Jvm.Cond.code x code maxLocals ret).before args0 about1 = true := code_word (m := ⟨1, 1⟩) (meth := k1m1) (c := k1c1) (by decide +kernel) rfl rfl rfl (by decide +kernel)
set_option maxRecDepth 65536 in
theorem w_c1 : (Jvm.Cond.code ({ cls := "com/example/lethe/lethe/Range", name := "<init>", desc := "(DD)V" } : Jvm.MethodName) prog_10_method_1_code (5 : Nat) (Option.none : Option Jvm.ClassFile.FieldType)).before args0 about1 = true := code_word (m := ⟨3, 0⟩) (meth := k3m0) (c := k3c0) (by decide +kernel) rfl rfl rfl (by decide +kernel)
set_option maxRecDepth 65536 in
theorem w_c2 : (Jvm.Cond.code ({ cls := "java/lang/Record", name := "<init>", desc := "()V" } : Jvm.MethodName) jdk_30_method_1_code (1 : Nat) (Option.none : Option Jvm.ClassFile.FieldType)).before args0 about1 = true := code_word (m := ⟨2, 0⟩) (meth := k2m0) (c := k2c0) (by decide +kernel) rfl rfl rfl (by decide +kernel)
set_option maxRecDepth 65536 in
theorem w_c3 : (Jvm.Cond.code ({ cls := "java/lang/Object", name := "<init>", desc := "()V" } : Jvm.MethodName) object_method_1_code (1 : Nat) (Option.none : Option Jvm.ClassFile.FieldType)).before args0 about1 = true := code_word (m := ⟨0, 0⟩) (meth := k0m0) (c := k0c0) (by decide +kernel) rfl rfl rfl (by decide +kernel)
set_option maxRecDepth 65536 in
theorem w_c4 : (Jvm.Cond.code ({ cls := "com/example/lethe/lethe/Range", name := "contains", desc := "(D)Z" } : Jvm.MethodName) prog_10_method_6_code (3 : Nat) (Option.some Jvm.ClassFile.FieldType.boolean)).before args0 about1 = true := code_word (m := ⟨3, 1⟩) (meth := k3m1) (c := k3c1) (by decide +kernel) rfl rfl rfl (by decide +kernel)
def codes1 : List Jvm.Cond := [Jvm.Cond.code x code maxLocals ret, Jvm.Cond.code ({ cls := "com/example/lethe/lethe/Range", name := "<init>", desc := "(DD)V" } : Jvm.MethodName) prog_10_method_1_code (5 : Nat) (Option.none : Option Jvm.ClassFile.FieldType), Jvm.Cond.code ({ cls := "java/lang/Record", name := "<init>", desc := "()V" } : Jvm.MethodName) jdk_30_method_1_code (1 : Nat) (Option.none : Option Jvm.ClassFile.FieldType), Jvm.Cond.code ({ cls := "java/lang/Object", name := "<init>", desc := "()V" } : Jvm.MethodName) object_method_1_code (1 : Nat) (Option.none : Option Jvm.ClassFile.FieldType), Jvm.Cond.code ({ cls := "com/example/lethe/lethe/Range", name := "contains", desc := "(D)Z" } : Jvm.MethodName) prog_10_method_6_code (3 : Nat) (Option.some Jvm.ClassFile.FieldType.boolean)]
set_option maxRecDepth 65536 in
theorem codes_eq : words1.filter isCode = codes1 := rfl
theorem w_codes : ∀ c ∈ words1.filter isCode, c.before args0 about1 = true := by
  rw [codes_eq]
  intro c hc
  simp only [codes1, List.mem_cons, List.not_mem_nil, or_false] at hc
  rcases hc with rfl | rfl | rfl | rfl | rfl
  · exact w_c0
  · exact w_c1
  · exact w_c2
  · exact w_c3
  · exact w_c4
set_option maxRecDepth 65536 in
theorem w_t1 : (words1.take 24).all (fun c => isCode c || c.before args0 about1) = true := by decide +kernel
set_option maxRecDepth 65536 in
theorem w_t2 : (words1.drop 24).all (fun c => isCode c || c.before args0 about1) = true := by decide +kernel
theorem w_tables : (allAtoms (Jvm.Cond.code x code maxLocals ret :: tables_1)).before args0 about1 = true := by
  rw [allAtoms_all]
  show words1.all (fun c => c.before args0 about1) = true
  refine all_split ?_ w_codes
  rw [← List.take_append_drop 24 words1, List.all_append, w_t1, w_t2]
  rfl
set_option maxRecDepth 65536 in
theorem w_case : (Jvm.Cond.and given_1 narrow_1).before args0 about1 = true := by decide +kernel
theorem w_applies : (headSpec (Jvm.Cond.code x code maxLocals ret :: tables_1) room_1).applies x e0.platform about1 = true :=
  (Spec.applies_iff w_frames).mpr ⟨w_running, w_runnable, w_alone, w_named, w_hears, w_ripe, w_room, w_tables⟩
theorem atStart : AtStart classFile x code maxLocals ret World_1 tables_1 room_1 Calls_1 rest_1 Pre_1 launch0 p0 e0 about1 theMethod args0 below0 :=
  ⟨lists_1, trivial, launch0.admits_env _ _ _, launch0.least_env, fairChoices_fair.cas, fairChoices_fair.clock, w_frames, w_args, w_heap, w_applies, trivial, trivial, w_case⟩
end start1
theorem witness_1 : WitnessClaimed_1 := ⟨start1.p0, start1.e0, start1.about1, start1.theMethod, start1.args0, start1.below0, start1.atStart⟩
end Jvm.Pilot.@@N@@
