import JvmDerived
import JvmDerived.Pilot.@@N@@Statement
import JvmDerived.Pilot.@@N@@Code
set_option linter.unusedVariables false
set_option linter.unusedSimpArgs false
@@BLOCK:NumsL.lean.txt@@
namespace Jvm.RoadKit
open Sem ClassFile Op Lib Jvm.Stand Jvm.Free Jvm.LawKit
section Go
variable {p : Program} {l : Launch} {e : Env} {R : Room} {s : State} {m : MethodId} {args : Array Value} {below : List Frame} {meth : Method} {c : Code} {T : State} {locs : List Loc} {cells slots : Nat} {Z : State} {a0 : Array Value} {h : Heap}
/-- the run from U comes to its return, and leaves what Qv says -/
def Go (p : Program) (e : Env) (below : List Frame) (s : State) (R : Room) (Qv : Option Value → Heap → List Loc → Prop) (U : State) : Prop :=
  ∃ s₂ o, Steps p.tables e below U s₂ ∧ s₂.status = .running ∧ Ended s₂ below o ∧ ∃ v L, o = .returned v ∧ Qv v s₂.heap L ∧ FrameEnd s o s₂ L R.cells R.slots
variable {Qv : Option Value → Heap → List Loc → Prop} {U V : State}
theorem Go.st (h : ∀ t, Steps p.tables e below U t → Steps p.tables e below V t) (k : Go p e below s R Qv U) : Go p e below s R Qv V := by
  obtain ⟨t, o, h1, r⟩ := k
  exact ⟨t, o, h t h1, r⟩
theorem Go.ret (X : Stand p l e R s m args below meth c T locs cells slots) (hlk : meth.locks = false) {v : Option Value} (hv : meth.sig.returnType = none → v = none) (hc : cells ≤ R.cells) (hs : slots ≤ R.slots) (hq : Qv v T.heap locs)
    (st : ∀ fs, (∀ (f : JFrame) (acts : List Action), f.method = m → f.locked = none → f.entered = [] → (doReturn e (T.setTop f) acts v).1 = T.setFrames fs) → Steps p.tables e below V (T.setFrames fs)) : Go p e below s R Qv V := by
  obtain ⟨fs, hr, hrun, hended, hW, hsame⟩ := X.leave (v := v) hv hlk
  exact ⟨_, _, st fs hr, hrun, hended, _, _, rfl, hq, ⟨_, rfl⟩, hW, hsame.mono hc hs⟩
theorem Go.retD (X : Stand p l e R s m args below meth c T locs cells slots) (hx : p.tables.exec = Jvm.exec) (hlk : meth.locks = false) (hret : meth.sig.returnType = some .double) {pc : Nat} {Ls : Array Slot} {z : UInt64} {rest : List Value} (hd : decode c.code pc = .ok (.dreturn, 1)) (hc : cells ≤ R.cells) (hs : slots ≤ R.slots)
    (hq : Qv (some (.double z)) T.heap locs) : Go p e below s R Qv (T.setTop (mkF m pc Ls (.double z :: rest))) :=
  Go.ret X hlk (v := some (.double z)) (fun q => by rw [hret] at q; cases q) hc hs hq fun fs hr => retOut X hx hret rfl (Or.inr (Or.inr (Or.inl ⟨rfl, rfl, _, rfl⟩))) hd hr
theorem Go.retJ (X : Stand p l e R s m args below meth c T locs cells slots) (hx : p.tables.exec = Jvm.exec) (hlk : meth.locks = false) (hret : meth.sig.returnType = some .long) {pc : Nat} {Ls : Array Slot} {z : Int64} {rest : List Value} (hd : decode c.code pc = .ok (.lreturn, 1)) (hc : cells ≤ R.cells) (hs : slots ≤ R.slots)
    (hq : Qv (some (.long z)) T.heap locs) : Go p e below s R Qv (T.setTop (mkF m pc Ls (.long z :: rest))) :=
  Go.ret X hlk (v := some (.long z)) (fun q => by rw [hret] at q; cases q) hc hs hq fun fs hr => retOut X hx hret rfl (Or.inr (Or.inl ⟨rfl, rfl, _, rfl⟩)) hd hr
theorem Go.retI (X : Stand p l e R s m args below meth c T locs cells slots) (hx : p.tables.exec = Jvm.exec) (hlk : meth.locks = false) (hret : meth.sig.returnType = some .int) {pc : Nat} {Ls : Array Slot} {z : Int32} {rest : List Value} (hd : decode c.code pc = .ok (.ireturn, 1)) (hc : cells ≤ R.cells) (hs : slots ≤ R.slots)
    (hq : Qv (some (.int z)) T.heap locs) : Go p e below s R Qv (T.setTop (mkF m pc Ls (.int z :: rest))) :=
  Go.ret X hlk (v := some (.int z)) (fun q => by rw [hret] at q; cases q) hc hs hq fun fs hr => retOut X hx hret rfl (Or.inl ⟨rfl, Or.inl rfl, _, rfl⟩) hd hr
theorem Go.retZ (X : Stand p l e R s m args below meth c T locs cells slots) (hx : p.tables.exec = Jvm.exec) (hlk : meth.locks = false) (hret : meth.sig.returnType = some .boolean) {pc : Nat} {Ls : Array Slot} {z : Int32} {rest : List Value} (hd : decode c.code pc = .ok (.ireturn, 1)) (hc : cells ≤ R.cells) (hs : slots ≤ R.slots)
    (hq : Qv (some (.int (nar .boolean z))) T.heap locs) : Go p e below s R Qv (T.setTop (mkF m pc Ls (.int z :: rest))) :=
  Go.ret X hlk (v := some (.int (nar .boolean z))) (fun q => by rw [hret] at q; cases q) hc hs hq fun fs hr => retN X hx hret (Or.inl rfl) hd hr
theorem Go.retV (X : Stand p l e R s m args below meth c T locs cells slots) (hx : p.tables.exec = Jvm.exec) (hlk : meth.locks = false) (hret : meth.sig.returnType = none) {pc : Nat} {Ls : Array Slot} {st : List Value} (hd : decode c.code pc = .ok (.return_, 1)) (hc : cells ≤ R.cells) (hs : slots ≤ R.slots)
    (hq : Qv none T.heap locs) : Go p e below s R Qv (T.setTop (mkF m pc Ls [])) :=
  Go.ret X hlk (v := none) (fun _ => rfl) hc hs hq fun fs hr => X.returnOut hx hret hd hr
theorem Go.callS (X : Stand p l e R s m args below meth c T locs cells slots) (hx : p.tables.exec = Jvm.exec) (hZ : Z.Warmed39 s.vm) {own : String} {index : Nat} {y : MethodName} {bytes : ByteArray} {maxL : Nat} {ret : Option FieldType} (hown : s.vm.findClass own = some m.cls)
    (w1 : (Cond.methodLink own index y).before a0 Z = true) (w2 : (Cond.static y).before a0 Z = true) (w3 : (Cond.initialized y.cls).before a0 Z = true) (w4 : (Cond.code y bytes maxL ret).before a0 Z = true) (hy : y.cls ≠ "java/lang/invoke/MethodHandle" ∧ y.cls ≠ "java/lang/invoke/VarHandle")
    {rm : Room} {as' : Array Value} {Q : Option Value → Heap → List Loc → Prop}
    (hM : MetFree l y (head1 [Cond.code y bytes maxL ret] rm) (fun a U => a = as' ∧ Z.Warmed39 U.vm ∧ U.heap = h) (fun _ _ _ _ _ => True) (fun _ U o U' => ∃ v L, o = .returned v ∧ Q v U'.heap L ∧ FrameEnd U o U' L rm.cells rm.slots))
    (eT : T.heap = h) (W : Nat) (hf : rm.frames + 1 ≤ R.frames) (hl : W + (maxL + 11) + rm.locals ≤ R.locals) {g : JFrame} (hg : g.method = m) (hsize : g.locals.size = c.maxLocals) (argsL rest : List Value) (ha : as' = argsL.toArray)
    (hlen : ∀ sig, parseMethodDescriptor y.desc = some sig → argsL.length = sig.parameters.length) (hst : g.stack = argsL.reverse ++ rest) (hW : 2 * g.monitorRoom + (rest.map fun v => v.category).sum ≤ W) (hd : decode c.code g.pc = .ok (.invokestatic index, 3)) (hc : cells + rm.cells ≤ R.cells) (hs : slots + rm.slots ≤ R.slots)
    (k : ∀ v T' L, Q v T'.heap L → Stand p l e R s m args below meth c T' (locs ++ L) (cells + rm.cells) (slots + rm.slots) → Go p e below s R Qv (T'.setTop { g with pc := g.pc + 3, stack := v.toList ++ rest })) : Go p e below s R Qv (T.setTop g) := by
  subst ha
  obtain ⟨v, vm1, ⟨T', L', c', n'⟩, -, X', ⟨L, hQ, l1, y1, z1⟩, st⟩ := Jvm.LawKit.callS X hx hown (mvT hZ w1) (mvT hZ w2) (mvT hZ w3) (mvT hZ w4) hy (backOf (W := W) hM hZ w4 w3 hf hl) hg hsize (argsL := argsL) (rest := rest) hlen hst hW hd (fun _ _ => ⟨rfl, eT, hc, hs⟩)
  dsimp only [Pt.U, Pt.locs, Pt.cells, Pt.slots] at X' l1 y1 z1 st hQ
  subst l1 y1 z1
  exact Go.st st (k v T' L hQ X')
theorem Go.callI (X : Stand p l e R s m args below meth c T locs cells slots) (hx : p.tables.exec = Jvm.exec) (hZ : Z.Warmed39 s.vm) {own : String} {index : Nat} {y : MethodName} {bytes : ByteArray} {maxL : Nat} (hown : s.vm.findClass own = some m.cls) (hy1 : y.name = "<init>")
    (w1 : (Cond.methodLink own index y).before a0 Z = true) (w2 : (Cond.instanceMethod y).before a0 Z = true) (w3 : (Cond.initialized y.cls).before a0 Z = true) (w4 : (Cond.code y bytes maxL none).before a0 Z = true) (hy : y.cls ≠ "java/lang/invoke/MethodHandle" ∧ y.cls ≠ "java/lang/invoke/VarHandle")
    {rm : Room} {as' : Array Value} {Q : Option Value → Heap → List Loc → Prop}
    (hM : MetFree l y (head1 [Cond.code y bytes maxL none] rm) (fun a U => a = as' ∧ Z.Warmed39 U.vm ∧ U.heap = h) (fun _ _ _ _ _ => True) (fun _ U o U' => ∃ v L, o = .returned v ∧ Q v U'.heap L ∧ FrameEnd U o U' L rm.cells rm.slots))
    (eT : T.heap = h) (W : Nat) (hf : rm.frames + 1 ≤ R.frames) (hl : W + (maxL + 11) + rm.locals ≤ R.locals) {g : JFrame} (hg : g.method = m) (hsize : g.locals.size = c.maxLocals) (a : Addr) (argsL rest : List Value) (ha : as' = (.ref a :: argsL).toArray)
    (hlen : ∀ sig, parseMethodDescriptor y.desc = some sig → argsL.length = sig.parameters.length) (hst : g.stack = argsL.reverse ++ .ref a :: rest) (hW : 2 * g.monitorRoom + (rest.map fun v => v.category).sum ≤ W) (hd : decode c.code g.pc = .ok (.invokespecial index, 3)) (hc : cells + rm.cells ≤ R.cells) (hs : slots + rm.slots ≤ R.slots)
    (k : ∀ v T' L, Q v T'.heap L → Stand p l e R s m args below meth c T' (locs ++ L) (cells + rm.cells) (slots + rm.slots) → Go p e below s R Qv (T'.setTop { g with pc := g.pc + 3, stack := v.toList ++ rest })) : Go p e below s R Qv (T.setTop g) := by
  subst ha
  obtain ⟨v, vm1, ⟨T', L', c', n'⟩, -, X', ⟨L, hQ, l1, y1, z1⟩, st⟩ := X.specialBack hx hy1 hown (mvT hZ w1) (mvT hZ w2) (mvT hZ w4) hy (backOf (W := W) hM hZ w4 w3 hf hl) hg hsize (Steps.refl _) (a := a) (argsL := argsL) (rest := rest) hlen hst hW hd (fun _ _ => ⟨rfl, eT, hc, hs⟩)
  dsimp only [Pt.U, Pt.locs, Pt.cells, Pt.slots] at X' l1 y1 z1 st hQ
  subst l1 y1 z1
  exact Go.st (fun t k => st.trans k) (k v T' L hQ X')
theorem Go.callV (X : Stand p l e R s m args below meth c T locs cells slots) (hx : p.tables.exec = Jvm.exec) (hZ : Z.Warmed39 s.vm) {own C : String} {index : Nat} {y : MethodName} {bytes : ByteArray} {maxL : Nat} {ret : Option FieldType} (hown : s.vm.findClass own = some m.cls)
    (w1 : (Cond.methodLink own index y).before a0 Z = true) (w2 : (Cond.declares y).before a0 Z = true) (w5 : (Cond.selects C y y).before a0 Z = true) (w6 : (Cond.instanceMethod y).before a0 Z = true) (w3 : (Cond.initialized y.cls).before a0 Z = true) (w4 : (Cond.code y bytes maxL ret).before a0 Z = true) (hy : y.cls ≠ "java/lang/invoke/MethodHandle" ∧ y.cls ≠ "java/lang/invoke/VarHandle")
    {rm : Room} {as' : Array Value} {Q : Option Value → Heap → List Loc → Prop}
    (hM : MetFree l y (head1 [Cond.code y bytes maxL ret] rm) (fun a U => a = as' ∧ Z.Warmed39 U.vm ∧ U.heap = h) (fun _ _ _ _ _ => True) (fun _ U o U' => ∃ v L, o = .returned v ∧ Q v U'.heap L ∧ FrameEnd U o U' L rm.cells rm.slots))
    (eT : T.heap = h) (a : Addr) (E : Exa Z h a C) (W : Nat) (hf : rm.frames + 1 ≤ R.frames) (hl : W + (maxL + 11) + rm.locals ≤ R.locals) {g : JFrame} (hg : g.method = m) (hsize : g.locals.size = c.maxLocals) (argsL rest : List Value) (ha : as' = (.ref a :: argsL).toArray)
    (hlen : ∀ sig, parseMethodDescriptor y.desc = some sig → argsL.length = sig.parameters.length) (hst : g.stack = argsL.reverse ++ .ref a :: rest) (hW : 2 * g.monitorRoom + (rest.map fun v => v.category).sum ≤ W) (hd : decode c.code g.pc = .ok (.invokevirtual index, 3)) (hc : cells + rm.cells ≤ R.cells) (hs : slots + rm.slots ≤ R.slots)
    (k : ∀ v T' L, Q v T'.heap L → Stand p l e R s m args below meth c T' (locs ++ L) (cells + rm.cells) (slots + rm.slots) → Go p e below s R Qv (T'.setTop { g with pc := g.pc + 3, stack := v.toList ++ rest })) : Go p e below s R Qv (T.setTop g) := by
  subst ha
  obtain ⟨cB, kB, q1, q2, q3⟩ := isOf hZ eT E
  obtain ⟨v, vm1, ⟨T', L', c', n'⟩, -, X', ⟨L, hQ, l1, y1, z1⟩, st⟩ := X.virtualBack hx hown (mvT hZ w1) (mvT hZ w2) (notFace_of_selects (args := #[]) (mvT hZ w5)) (mvT hZ w5) (mvT hZ w6) hy (backOf (W := W) hM hZ w4 w3 hf hl) q1 q3 hg hsize (Steps.refl _) (argsL := argsL) (rest := rest) hlen hst hW hd (fun _ _ => ⟨rfl, eT, hc, hs⟩)
  dsimp only [Pt.U, Pt.locs, Pt.cells, Pt.slots] at X' l1 y1 z1 st hQ
  subst l1 y1 z1
  exact Go.st (fun t k => st.trans k) (k v T' L hQ X')
/-- a body's contract, by its walk -/
theorem Go.met {y : MethodName} {bytes : ByteArray} {maxL : Nat} {ret : Option FieldType} {ws : List Cond} {rm : Room} {as' : Array Value} {Q : Option Value → Heap → List Loc → Prop} (hn : plainFor y = true)
    (body : ∀ (p : Program) (e : Env) (s : State) (m : MethodId) (below : List Frame) (meth : Method) (c : Code) (s₁ : State), p.tables.exec = Jvm.exec → c.code = bytes → c.maxLocals = maxL → s.vm.findClass y.cls = some m.cls → meth.name = y.name → meth.sig.returnType = ret → meth.locks = false → Z.Warmed39 s.vm → s₁.heap = h →
      Stand p l e rm s m as' below meth c s₁ [] 0 0 → Go p e below s rm Q (s₁.setTop (entryFrame m as' maxL))) :
    MetFree l y (head1 (Cond.code y bytes maxL ret :: ws) rm) (fun a U => a = as' ∧ Z.Warmed39 U.vm ∧ U.heap = h) (fun _ _ _ _ _ => True) (fun _ U o U' => ∃ v L, o = .returned v ∧ Q v U'.heap L ∧ FrameEnd U o U' L rm.cells rm.slots) := by
  refine MetFree.of_bodySF hn hisR ?_
  intro p e s m args below meth c s₁ Bd hml hP hK
  obtain ⟨rfl, hZ, hh⟩ := hP
  exact body p e s m below meth c s₁ Bd.exec Bd.bytes hml (findClass_of_methodNamed Bd.named) (name_of_methodNamed Bd.named Bd.method).1 Bd.returns Bd.notSynchronized hZ (by rw [← hh, Bd.state]; rfl) (Stand.of_body Bd)
theorem Keep.size_le {h0 h : Heap} {ws : List Addr} (K : Keep h0 h ws) : h0.size ≤ h.size := K.1
theorem Go.cast {g g' : JFrame} (q : g = g') (k : Go p e below s R Qv (T.setTop g')) : Go p e below s R Qv (T.setTop g) := q ▸ k
end Go
end Jvm.RoadKit
namespace Jvm.OwnFl
open Jvm Jvm.FP Jvm.FP.Core Jvm.Free.Fl Op
/-- a double as a whole number of the least doubles -/
abbrev zv (a : UInt64) : Int := zval b64 (val64 a)
theorem zv_def (a : UInt64) : zv a = zval b64 (val64 a) := rfl
theorem nn_int {i : Int} {a : UInt64} (h : DInt i a) : NoNaN64 a := val64_no.mpr (DInt_ne_nan h)
theorem nn_fin {a : UInt64} (h : DFin a) : NoNaN64 a := val64_no.mpr h.ne_nan
theorem fin_int {i : Int} {a : UInt64} (h : DInt i a) : DFin a := by
  unfold DInt at h
  cases hv : val64 a with
  | nan => rw [hv] at h; exact h.elim
  | inf s => rw [hv] at h; exact h.elim
  | fin s c q => exact ⟨s, c, q, hv⟩
/-! what a comparison pushes -/
theorem cv_lt {a b : UInt64} (ha : NoNaN64 a) (hb : NoNaN64 b) (h : zv a < zv b) (o : ClassFile.CmpOp) : cmpValue (FP.dcmp a b) o = -1 := by
  rw [show FP.dcmp a b = some .lt by
    show Core.dcmp a b = _
    rw [dcmp_zval (val64_no.mp ha) (val64_no.mp hb)]; exact congrArg some ((compare_lt_iff _ _).mpr h)]
  cases o <;> rfl
theorem cv_eq {a b : UInt64} (ha : NoNaN64 a) (hb : NoNaN64 b) (h : zv a = zv b) (o : ClassFile.CmpOp) : cmpValue (FP.dcmp a b) o = 0 := by
  rw [show FP.dcmp a b = some .eq by
    show Core.dcmp a b = _
    rw [dcmp_zval (val64_no.mp ha) (val64_no.mp hb)]; exact congrArg some ((compare_eq_iff _ _).mpr h)]
  cases o <;> rfl
theorem cv_gt {a b : UInt64} (ha : NoNaN64 a) (hb : NoNaN64 b) (h : zv b < zv a) (o : ClassFile.CmpOp) : cmpValue (FP.dcmp a b) o = 1 := by
  rw [show FP.dcmp a b = some .gt by
    show Core.dcmp a b = _
    rw [dcmp_zval (val64_no.mp ha) (val64_no.mp hb)]; exact congrArg some ((compare_gt_iff _ _).mpr h)]
  cases o <;> rfl
theorem cv_ge {a b : UInt64} (ha : NoNaN64 a) (hb : NoNaN64 b) (h : zv b ≤ zv a) (o : ClassFile.CmpOp) : ¬ (cmpValue (FP.dcmp a b) o < 0) := by
  rcases Int.lt_or_eq_of_le h with h | h
  · rw [cv_gt ha hb h o]; decide
  · rw [cv_eq ha hb h.symm o]; decide
theorem cv_le {a b : UInt64} (ha : NoNaN64 a) (hb : NoNaN64 b) (h : zv a ≤ zv b) (o : ClassFile.CmpOp) : ¬ (0 < cmpValue (FP.dcmp a b) o) := by
  rcases Int.lt_or_eq_of_le h with h | h
  · rw [cv_lt ha hb h o]; decide
  · rw [cv_eq ha hb h o]; decide
theorem cv_lt' {a b : UInt64} (ha : NoNaN64 a) (hb : NoNaN64 b) (h : zv a < zv b) (o : ClassFile.CmpOp) : cmpValue (FP.dcmp a b) o < 0 := by rw [cv_lt ha hb h o]; decide
theorem cv_gt' {a b : UInt64} (ha : NoNaN64 a) (hb : NoNaN64 b) (h : zv b < zv a) (o : ClassFile.CmpOp) : 0 < cmpValue (FP.dcmp a b) o := by rw [cv_gt ha hb h o]; decide
theorem cv_ne {a b : UInt64} (ha : NoNaN64 a) (hb : NoNaN64 b) (h : zv a ≠ zv b) (o : ClassFile.CmpOp) : ¬ (cmpValue (FP.dcmp a b) o = 0) := by
  rcases Int.lt_or_gt_of_ne h with h | h
  · rw [cv_lt ha hb h o]; decide
  · rw [cv_gt ha hb h o]; decide
/-! what lcmp pushes -/
theorem lc_eq {x y : Int64} : Jvm.RoadKit.lcmpW x y = 0 ↔ x.toInt = y.toInt := by
  rw [Int64.toInt_inj]
  unfold Jvm.RoadKit.lcmpW
  by_cases h : x > y
  · rw [if_pos h]; constructor
    · intro h1; exact absurd h1 (by decide)
    · rintro rfl; exact absurd h (Int64.lt_irrefl)
  · rw [if_neg h]
    by_cases h2 : x = y
    · rw [if_pos h2]; simp [h2]
    · rw [if_neg h2]; constructor
      · intro h1; exact absurd h1 (by decide)
      · intro h1; exact absurd h1 h2
theorem lc_gt {x y : Int64} : 0 < Jvm.RoadKit.lcmpW x y ↔ y.toInt < x.toInt := by
  rw [← Int64.lt_iff_toInt_lt]
  unfold Jvm.RoadKit.lcmpW
  by_cases h : x > y
  · rw [if_pos h]; exact ⟨fun _ => h, fun _ => by decide⟩
  · rw [if_neg h]
    by_cases h2 : x = y
    · rw [if_pos h2]; exact ⟨fun h1 => absurd h1 (by decide), fun h1 => absurd h1 h⟩
    · rw [if_neg h2]; exact ⟨fun h1 => absurd h1 (by decide), fun h1 => absurd h1 h⟩
theorem lc_lt {x y : Int64} : Jvm.RoadKit.lcmpW x y < 0 ↔ x.toInt < y.toInt := by
  by_cases h : x > y
  · have h3 := Int64.lt_iff_toInt_lt.mp h
    unfold Jvm.RoadKit.lcmpW
    rw [if_pos h]; exact ⟨fun h1 => absurd h1 (by decide), fun h1 => by omega⟩
  · have h3 : ¬ (y.toInt < x.toInt) := fun q => h (Int64.lt_iff_toInt_lt.mpr q)
    unfold Jvm.RoadKit.lcmpW
    rw [if_neg h]
    by_cases h2 : x = y
    · rw [if_pos h2]; subst h2; exact ⟨fun h1 => absurd h1 (by decide), fun h1 => by omega⟩
    · rw [if_neg h2]
      have h4 : x.toInt ≠ y.toInt := fun q => h2 (Int64.toInt_inj.mp q)
      exact ⟨fun _ => by omega, fun _ => by decide⟩
/-! whole numbers -/
theorem zv_int {i : Int} {a : UInt64} (h : DInt i a) : zv a = i * (one64 : Int) := DInt_zval h
theorem one_pos : (0 : Int) < (one64 : Int) := Int.ofNat_lt.mpr one64_pos
theorem cvi_eq {i j : Int} {a b : UInt64} (ha : DInt i a) (hb : DInt j b) (h : i = j) (o : ClassFile.CmpOp) : cmpValue (FP.dcmp a b) o = 0 :=
  cv_eq (nn_int ha) (nn_int hb) (by rw [zv_int ha, zv_int hb, h]) o
theorem cvi_lt {i j : Int} {a b : UInt64} (ha : DInt i a) (hb : DInt j b) (h : i < j) (o : ClassFile.CmpOp) : cmpValue (FP.dcmp a b) o = -1 :=
  cv_lt (nn_int ha) (nn_int hb) (by rw [zv_int ha, zv_int hb]; exact Int.mul_lt_mul_of_pos_right h one_pos) o
theorem cvi_gt {i j : Int} {a b : UInt64} (ha : DInt i a) (hb : DInt j b) (h : j < i) (o : ClassFile.CmpOp) : cmpValue (FP.dcmp a b) o = 1 :=
  cv_gt (nn_int ha) (nn_int hb) (by rw [zv_int ha, zv_int hb]; exact Int.mul_lt_mul_of_pos_right h one_pos) o
theorem zint : DInt 0 (0 : UInt64) := by unfold DInt; rw [val64_zero]; show signed false (0 * _) = 0 * _; simp [signed]
theorem l2dI {x : Int64} (h1 : -9007199254740992 ≤ x.toInt) (h2 : x.toInt ≤ 9007199254740992) : DInt x.toInt (FP.l2d x) := l2d_int (by omega)
theorem i2dI (x : Int32) : DInt x.toInt (FP.i2d x) := i2d_int x
theorem mulI {i j : Int} {a b : UInt64} (ha : DInt i a) (hb : DInt j b) (h : (i * j).natAbs ≤ 9007199254740992) : DInt (i * j) (FP.dmul a b) := dmul_int ha hb h
theorem addI {i j : Int} {a b : UInt64} (ha : DInt i a) (hb : DInt j b) (h : (i + j).natAbs ≤ 9007199254740992) : DInt (i + j) (FP.dadd a b) := dadd_int ha hb h
theorem subI {i j : Int} {a b : UInt64} (ha : DInt i a) (hb : DInt j b) (h : (i - j).natAbs ≤ 9007199254740992) : DInt (i - j) (FP.dsub a b) := dsub_int ha hb h
theorem absMul {i j : Int} {A B : Nat} (h1 : i.natAbs ≤ A) (h2 : j.natAbs ≤ B) : (i * j).natAbs ≤ A * B := by rw [Int.natAbs_mul]; exact Nat.mul_le_mul h1 h2
end Jvm.OwnFl
namespace Jvm.Pilot.@@N@@
open Jvm Jvm.ClassFile Sem Op Lib Jvm.Free Jvm.Stand Jvm.LawKit Jvm.RoadKit Bundle Jvm.Pilot.@@N@@.Jvm.D
section Own
open Jvm.OwnFl Jvm.FP.Core Jvm.Free.Fl
abbrev own_dv (k : Int32) : UInt64 := if k = (8 : Int32) then (9218868437227405312 : UInt64) else FP.i2d k
set_option maxRecDepth 65536 in
theorem own_tab : ∀ i j : Fin 16, cmpValue (FP.dcmp (own_dv (Int32.ofNat i.val - (7 : Int32))) (own_dv (Int32.ofNat j.val - (7 : Int32)))) .g = (if i.val < j.val then -1 else if i.val = j.val then 0 else 1) ∧ cmpValue (FP.dcmp (own_dv (Int32.ofNat i.val - (7 : Int32))) (own_dv (Int32.ofNat j.val - (7 : Int32)))) .l = (if i.val < j.val then -1 else if i.val = j.val then 0 else 1) := by decide +kernel
theorem own_key {x k : Int32} (q : (x &&& (15 : Int32)) - (7 : Int32) = k) : ∃ i : Fin 16, k = Int32.ofNat i.val - (7 : Int32) ∧ k.toInt = (i.val : Int) - 7 := by
  have m1 := Jvm.Kit.i32_mask x 15 (k := 4) (by decide) (by decide)
  generalize x &&& (15 : Int32) = v at *
  have hv : v = Int32.ofNat v.toInt.toNat := by
    apply Int32.toInt_inj.mp
    rw [Int32.toInt_ofNat_of_lt (by omega)]; omega
  have e7 : (7 : Int32).toInt = 7 := by decide
  refine ⟨⟨v.toInt.toNat, by omega⟩, ?_, ?_⟩
  · show k = Int32.ofNat v.toInt.toNat - 7
    rw [← hv, q]
  · show k.toInt = (v.toInt.toNat : Int) - 7
    rw [← q, Jvm.Kit.i32_sub (by omega) (by omega), e7]; omega
/-- the order of two keys' doubles is the keys' -/
theorem own_ord {x y k j : Int32} (q : (x &&& (15 : Int32)) - (7 : Int32) = k) (r : (y &&& (15 : Int32)) - (7 : Int32) = j) (o : ClassFile.CmpOp) : cmpValue (FP.dcmp (own_dv k) (own_dv j)) o = (if k < j then -1 else if k = j then 0 else 1) := by
  obtain ⟨a, ea, ia⟩ := own_key q
  obtain ⟨b, eb, ib⟩ := own_key r
  have t := own_tab a b
  rw [← ea, ← eb] at t
  have h1 : (k < j) ↔ a.val < b.val := by rw [Int32.lt_iff_toInt_lt]; omega
  have h2 : (k = j) ↔ a.val = b.val := by rw [← Int32.toInt_inj]; omega
  have e : (if k < j then (-1 : Int32) else if k = j then 0 else 1) = (if a.val < b.val then (-1 : Int32) else if a.val = b.val then 0 else 1) := by
    by_cases c : a.val < b.val
    · rw [if_pos c, if_pos (h1.mpr c)]
    · rw [if_neg c, if_neg (mt h1.mp c)]
      by_cases d : a.val = b.val
      · rw [if_pos d, if_pos (h2.mpr d)]
      · rw [if_neg d, if_neg (mt h2.mp d)]
  rw [e]; cases o
  · exact t.1
  · exact t.2
abbrev own_bef (a b c d : UInt64) : Int32 := if cmpValue (FP.dcmp a b) .g < (0 : Int32) then 1 else if cmpValue (FP.dcmp a b) .l = (0 : Int32) then (if cmpValue (FP.dcmp c d) .g < (0 : Int32) then 1 else 0) else 0
theorem own_lt {a b : UInt64} {k j : Int32} (h : cmpValue (FP.dcmp a b) .g = (if k < j then -1 else if k = j then 0 else 1)) : cmpValue (FP.dcmp a b) .g < (0 : Int32) ↔ k < j := by
  rw [h]
  by_cases c : k < j
  · rw [if_pos c]; exact ⟨fun _ => c, fun _ => by decide⟩
  · rw [if_neg c]
    by_cases d : k = j
    · rw [if_pos d]; exact ⟨fun q => absurd q (by decide), fun q => absurd q c⟩
    · rw [if_neg d]; exact ⟨fun q => absurd q (by decide), fun q => absurd q c⟩
theorem own_eq {a b : UInt64} {k j : Int32} (h : cmpValue (FP.dcmp a b) .l = (if k < j then -1 else if k = j then 0 else 1)) : cmpValue (FP.dcmp a b) .l = (0 : Int32) ↔ k = j := by
  rw [h]
  by_cases c : k < j
  · rw [if_pos c]; exact ⟨fun q => absurd q (by decide), fun q => absurd c (by rw [q]; exact Int32.lt_irrefl)⟩
  · rw [if_neg c]
    by_cases d : k = j
    · rw [if_pos d]; exact ⟨fun _ => d, fun _ => rfl⟩
    · rw [if_neg d]; exact ⟨fun q => absurd q (by decide), fun q => absurd q d⟩
theorem own_res {x1 y1 x2 y2 k1 t1 k2 t2 : Int32} (a1 : (x1 &&& (15 : Int32)) - (7 : Int32) = k1) (b1 : (y1 &&& (15 : Int32)) - (7 : Int32) = t1) (a2 : (x2 &&& (15 : Int32)) - (7 : Int32) = k2) (b2 : (y2 &&& (15 : Int32)) - (7 : Int32) = t2) :
    (¬ k1 = k2 → k1 < k2 → own_bef (own_dv k1) (own_dv k2) (own_dv t1) (own_dv t2) = 1) ∧ (¬ k1 = k2 → ¬ k1 < k2 → own_bef (own_dv k1) (own_dv k2) (own_dv t1) (own_dv t2) = 0) ∧ (k1 = k2 → t1 < t2 → own_bef (own_dv k1) (own_dv k2) (own_dv t1) (own_dv t2) = 1) ∧ (k1 = k2 → ¬ t1 < t2 → own_bef (own_dv k1) (own_dv k2) (own_dv t1) (own_dv t2) = 0) := by
  have l1 := own_lt (own_ord a1 a2 .g)
  have l2 := own_eq (own_ord a1 a2 .l)
  have l3 := own_lt (own_ord b1 b2 .g)
  unfold own_bef
  refine ⟨fun h h' => ?_, fun h h' => ?_, fun h h' => ?_, fun h h' => ?_⟩
  · rw [if_pos (l1.mpr h')]
  · rw [if_neg (mt l1.mp h'), if_neg (mt l2.mp h)]
  · rw [if_neg (mt l1.mp (by rw [h]; exact Int32.lt_irrefl)), if_pos (l2.mpr h), if_pos (l3.mpr h')]
  · rw [if_neg (mt l1.mp (by rw [h]; exact Int32.lt_irrefl)), if_pos (l2.mpr h), if_neg (mt l3.mp h')]
end Own
theorem d0_0 : decode method_3_code 0 = .ok (.iload_n 0, 1) := by decide +kernel
theorem d0_1 : decode method_3_code 1 = .ok (.bipush 15, 2) := by decide +kernel
theorem d0_3 : decode method_3_code 3 = .ok (.iand, 1) := by decide +kernel
theorem d0_4 : decode method_3_code 4 = .ok (.bipush 7, 2) := by decide +kernel
theorem d0_6 : decode method_3_code 6 = .ok (.isub, 1) := by decide +kernel
theorem d0_7 : decode method_3_code 7 = .ok (.ireturn, 1) := by decide +kernel
theorem pn0 : plainName "com/example/lumenwatt/lumenwatt/routing/RankIsBeforePinLaw" = true := by first | (simp [plainName, overriddenIn]; done) | decide +kernel
def Q_key (Z : State) (k : Int32) (h0 : Heap) (n0 : Nat) (v : Option Value) (h : Heap) (L : List Loc) : Prop := v = some (.int ((k &&& (15 : Int32)) - (7 : Int32))) ∧ Fr n0 L ∧ h = h0
theorem ef_key (m : MethodId) (y0 : Int32) : entryFrame m #[(.int y0)] 1 = mkF m 0 #[.val (.int y0)] [] := by first | (simp [entryFrame, mkF, argsToLocals, Value.category, maxLocals]; done) | rfl
set_option maxRecDepth 65536 in
set_option maxHeartbeats 40000000 in
theorem rm_key (l : Launch) (Z : State) (a0 : Array Value) (hw : ∀ d ∈ tables_1, d.before a0 Z = true) (ws : List Jvm.Cond) (k : Int32) (h0 : Heap) (n0 : Nat) (Z0 : n0 ≤ h0.size)  :
    MetFree l (⟨"com/example/lumenwatt/lumenwatt/routing/RankIsBeforePinLaw", "key", "(I)I"⟩ : MethodName) (head1 (Jvm.Cond.code (⟨"com/example/lumenwatt/lumenwatt/routing/RankIsBeforePinLaw", "key", "(I)I"⟩ : MethodName) method_3_code 1 (some .int) :: ws) ({ frames := 0, cells := 0, slots := 0, locals := 0 } : Room)) (fun aa_ U => aa_ = #[(.int k)] ∧ Z.Warmed39 U.vm ∧ U.heap = h0) (fun _ _ _ _ _ => True) (fun _ U o U' => ∃ v L, o = .returned v ∧ Q_key Z k h0 n0 v U'.heap L ∧ FrameEnd U o U' L (({ frames := 0, cells := 0, slots := 0, locals := 0 } : Room)).cells (({ frames := 0, cells := 0, slots := 0, locals := 0 } : Room)).slots) := by
  refine Go.met (plainFor_of_name pn0) ?_
  intro p e s m below meth c s₁ hx hby hml hown hnm hret hlk hZ e0 X0
  have N0 := Fr.nil n0
  refine Go.cast (ef_key m k) ?_
  refine Go.st (U := (s₁.setTop (mkF m 1 #[.val (.int k)] [(.int k)]))) (fun t_ k_ => XS.iloadN X0.here hx rfl (hb hby d0_0) rfl k_) ?_
  refine Go.st (U := (s₁.setTop (mkF m 3 #[.val (.int k)] [(.int (15 : Int32)), (.int k)]))) (fun t_ k_ => XS.bipush X0.here hx rfl (hb hby d0_1) k_) ?_
  refine Go.st (U := (s₁.setTop (mkF m 4 #[.val (.int k)] [(.int (k &&& (15 : Int32)))]))) (fun t_ k_ => XS.iand X0.here hx rfl (hb hby d0_3) rfl k_) ?_
  refine Go.st (U := (s₁.setTop (mkF m 6 #[.val (.int k)] [(.int (7 : Int32)), (.int (k &&& (15 : Int32)))]))) (fun t_ k_ => XS.bipush X0.here hx rfl (hb hby d0_4) k_) ?_
  refine Go.st (U := (s₁.setTop (mkF m 7 #[.val (.int k)] [(.int ((k &&& (15 : Int32)) - (7 : Int32)))]))) (fun t_ k_ => XS.isub X0.here hx rfl (hb hby d0_6) rfl k_) ?_
  refine Go.retI X0 hx hlk hret (hb hby d0_7) (by decide) (by decide) ?_
  show Q_key Z k h0 n0 _ s₁.heap _
  rw [e0]
  exact ⟨rfl, N0, rfl⟩
theorem d6_0 : decode prog_32_method_6_code 0 = .ok (.aload_n 0, 1) := by decide +kernel
theorem d6_1 : decode prog_32_method_6_code 1 = .ok (.getfield 7, 3) := by decide +kernel
theorem d6_4 : decode prog_32_method_6_code 4 = .ok (.dreturn, 1) := by decide +kernel
theorem pn1 : plainName "com/example/lumenwatt/lumenwatt/routing/FirstFitRouting$Rank" = true := by first | (simp [plainName, overriddenIn]; done) | decide +kernel
def Q_cost (Z : State) (a : Addr) (u : UInt64) (h0 : Heap) (n0 : Nat) (v : Option Value) (h : Heap) (L : List Loc) : Prop := v = some (.double u) ∧ Fr n0 L ∧ h = h0
theorem ef_cost (m : MethodId) (y0 : Addr) : entryFrame m #[(.ref y0)] 1 = mkF m 0 #[.val (.ref y0)] [] := by first | (simp [entryFrame, mkF, argsToLocals, Value.category, maxLocals]; done) | rfl
set_option maxRecDepth 65536 in
set_option maxHeartbeats 40000000 in
theorem rm_cost (l : Launch) (Z : State) (a0 : Array Value) (hw : ∀ d ∈ tables_1, d.before a0 Z = true) (ws : List Jvm.Cond) (a : Addr) (u : UInt64) (h0 : Heap) (n0 : Nat) (Z0 : n0 ≤ h0.size) (F0_a_cost : Fld Z h0 a "com/example/lumenwatt/lumenwatt/routing/FirstFitRouting$Rank" "cost" "D" (.double u)) :
    MetFree l (⟨"com/example/lumenwatt/lumenwatt/routing/FirstFitRouting$Rank", "cost", "()D"⟩ : MethodName) (head1 (Jvm.Cond.code (⟨"com/example/lumenwatt/lumenwatt/routing/FirstFitRouting$Rank", "cost", "()D"⟩ : MethodName) prog_32_method_6_code 1 (some .double) :: ws) ({ frames := 0, cells := 0, slots := 0, locals := 0 } : Room)) (fun aa_ U => aa_ = #[(.ref a)] ∧ Z.Warmed39 U.vm ∧ U.heap = h0) (fun _ _ _ _ _ => True) (fun _ U o U' => ∃ v L, o = .returned v ∧ Q_cost Z a u h0 n0 v U'.heap L ∧ FrameEnd U o U' L (({ frames := 0, cells := 0, slots := 0, locals := 0 } : Room)).cells (({ frames := 0, cells := 0, slots := 0, locals := 0 } : Room)).slots) := by
  refine Go.met (plainFor_of_name pn1) ?_
  intro p e s m below meth c s₁ hx hby hml hown hnm hret hlk hZ e0 X0
  have N0 := Fr.nil n0
  refine Go.cast (ef_cost m a) ?_
  refine Go.st (U := (s₁.setTop (mkF m 1 #[.val (.ref a)] [(.ref a)]))) (fun t_ k_ => XS.aloadN X0.here hx rfl (hb hby d6_0) rfl rfl k_) ?_
  obtain ⟨Ti1, Xi1, ei1, sti1⟩ := getF X0 hx hZ hown (host := "") (Or.inl (hw _ (List.mem_of_getElem? (i := 21) rfl))) Via.refl e0 F0_a_cost (g := (mkF m 1 #[.val (.ref a)] [(.ref a)])) rfl rfl (hb hby d6_1)
  refine Go.st (U := (Ti1.setTop (mkF m 4 #[.val (.ref a)] [(.double u)]))) sti1 ?_
  refine Go.retD Xi1 hx hlk hret (hb hby d6_4) (by decide) (by decide) ?_
  show Q_cost Z a u h0 n0 _ Ti1.heap _
  rw [ei1]
  exact ⟨rfl, N0, rfl⟩
theorem d1_0 : decode method_4_code 0 = .ok (.iload_n 0, 1) := by decide +kernel
theorem d1_1 : decode method_4_code 1 = .ok (.bipush 8, 2) := by decide +kernel
theorem d1_3 : decode method_4_code 3 = .ok (.if_icmp .ne 10, 3) := by decide +kernel
theorem d1_6 : decode method_4_code 6 = .ok (.getstatic 26, 3) := by decide +kernel
theorem d1_9 : decode method_4_code 9 = .ok (.invokevirtual 30, 3) := by decide +kernel
theorem d1_12 : decode method_4_code 12 = .ok (.dreturn, 1) := by decide +kernel
theorem d1_13 : decode method_4_code 13 = .ok (.iload_n 0, 1) := by decide +kernel
theorem d1_14 : decode method_4_code 14 = .ok (.i2d, 1) := by decide +kernel
theorem d1_15 : decode method_4_code 15 = .ok (.dreturn, 1) := by decide +kernel
def Q_td (Z : State) (k : Int32) (g : Addr) (h0 : Heap) (n0 : Nat) (v : Option Value) (h : Heap) (L : List Loc) : Prop := v = some (.double (own_dv k)) ∧ Fr n0 L ∧ h = h0
theorem ef_td (m : MethodId) (y0 : Int32) : entryFrame m #[(.int y0)] 1 = mkF m 0 #[.val (.int y0)] [] := by first | (simp [entryFrame, mkF, argsToLocals, Value.category, maxLocals]; done) | rfl
theorem pd0 : parseMethodDescriptor "()D" = some ⟨[], some .double⟩ := by decide +kernel
set_option maxRecDepth 65536 in
set_option maxHeartbeats 40000000 in
theorem rm_td (l : Launch) (Z : State) (a0 : Array Value) (hw : ∀ d ∈ tables_1, d.before a0 Z = true) (ws : List Jvm.Cond) (k : Int32) (g : Addr) (h0 : Heap) (n0 : Nat) (Z0 : n0 ≤ h0.size) (S0_NONE : Sta Z h0 "com/example/lumenwatt/lumenwatt/routing/FirstFitRouting$Rank" "NONE" "Lcom/example/lumenwatt/lumenwatt/routing/FirstFitRouting$Rank;" (.ref g)) (F0_g_cost : Fld Z h0 g "com/example/lumenwatt/lumenwatt/routing/FirstFitRouting$Rank" "cost" "D" (.double (9218868437227405312 : UInt64))) (E0_g : Exa Z h0 g "com/example/lumenwatt/lumenwatt/routing/FirstFitRouting$Rank") :
    MetFree l (⟨"com/example/lumenwatt/lumenwatt/routing/RankIsBeforePinLaw", "toDouble", "(I)D"⟩ : MethodName) (head1 (Jvm.Cond.code (⟨"com/example/lumenwatt/lumenwatt/routing/RankIsBeforePinLaw", "toDouble", "(I)D"⟩ : MethodName) method_4_code 1 (some .double) :: ws) ({ frames := 1, cells := 0, slots := 0, locals := 16 } : Room)) (fun aa_ U => aa_ = #[(.int k)] ∧ Z.Warmed39 U.vm ∧ U.heap = h0) (fun _ _ _ _ _ => True) (fun _ U o U' => ∃ v L, o = .returned v ∧ Q_td Z k g h0 n0 v U'.heap L ∧ FrameEnd U o U' L (({ frames := 1, cells := 0, slots := 0, locals := 16 } : Room)).cells (({ frames := 1, cells := 0, slots := 0, locals := 16 } : Room)).slots) := by
  refine Go.met (plainFor_of_name pn0) ?_
  intro p e s m below meth c s₁ hx hby hml hown hnm hret hlk hZ e0 X0
  have N0 := Fr.nil n0
  refine Go.cast (ef_td m k) ?_
  refine Go.st (U := (s₁.setTop (mkF m 1 #[.val (.int k)] [(.int k)]))) (fun t_ k_ => XS.iloadN X0.here hx rfl (hb hby d1_0) rfl k_) ?_
  refine Go.st (U := (s₁.setTop (mkF m 3 #[.val (.int k)] [(.int (8 : Int32)), (.int k)]))) (fun t_ k_ => XS.bipush X0.here hx rfl (hb hby d1_1) k_) ?_
  by_cases h3 : k = (8 : Int32)
  · refine Go.st (U := (s₁.setTop (mkF m 6 #[.val (.int k)] []))) (fun t_ k_ => XS.icmpNo X0.here hx rfl (hb hby d1_3) rfl (teq h3).2 k_) ?_
    obtain ⟨Ti1, Xi1, ei1, sti1⟩ := getS2 X0 hx hZ hown (host := "") (Or.inl (hw _ (List.mem_of_getElem? (i := 30) rfl))) Via.refl e0 S0_NONE (g := (mkF m 6 #[.val (.int k)] [])) rfl (hb hby d1_6)
    refine Go.st (U := (Ti1.setTop (mkF m 9 #[.val (.int k)] [(.ref g)]))) sti1 ?_
    refine Go.callV Xi1 hx hZ hown (hw _ (List.mem_of_getElem? (i := 32) rfl)) (hw _ (List.mem_of_getElem? (i := 33) rfl)) (hw _ (List.mem_of_getElem? (i := 35) rfl)) (hw _ (List.mem_of_getElem? (i := 34) rfl)) (hw _ (List.mem_of_getElem? (i := 6) rfl)) (hw _ (List.mem_of_getElem? (i := 36) rfl)) (by decide) (rm_cost l Z a0 hw [] g (9218868437227405312 : UInt64) h0 n0 Z0 F0_g_cost) ei1 g E0_g 0 (by decide) (by decide) (g := (mkF m 9 #[.val (.int k)] [(.ref g)])) rfl (by rw [hml]; rfl) [] [] rfl (lenOf pd0 rfl) rfl (by show 2 * 0 + _ ≤ _; exact Nat.le_of_eq rfl) (hb hby d1_9) (by decide) (by decide) ?_
    intro vi2 Ti2 Li2 hQi2 Xi2
    obtain ⟨rfl, Ni2, ei2⟩ := hQi2
    have Ni2 := Fr.app N0 Ni2
    show Go p e below s _ _ (Ti2.setTop (mkF m 12 #[.val (.int k)] [(.double (9218868437227405312 : UInt64))]))
    refine Go.retD Xi2 hx hlk hret (hb hby d1_12) (by decide) (by decide) ?_
    show Q_td Z k g h0 n0 _ Ti2.heap _
    rw [ei2]
    exact ⟨(by unfold own_dv; rw [if_pos h3]), Ni2, rfl⟩
  · refine Go.st (U := (s₁.setTop (mkF m 13 #[.val (.int k)] []))) (fun t_ k_ => XS.icmpYes X0.here hx rfl (pc0 := 3) (pc' := 13) rfl (hb hby d1_3) rfl (feq h3).2 (by decide) (by decide) k_) ?_
    refine Go.st (U := (s₁.setTop (mkF m 14 #[.val (.int k)] [(.int k)]))) (fun t_ k_ => XS.iloadN X0.here hx rfl (hb hby d1_13) rfl k_) ?_
    refine Go.st (U := (s₁.setTop (mkF m 15 #[.val (.int k)] [(.double (FP.i2d k))]))) (fun t_ k_ => XS.i2dS X0.here hx rfl (hb hby d1_14) rfl rfl k_) ?_
    refine Go.retD X0 hx hlk hret (hb hby d1_15) (by decide) (by decide) ?_
    show Q_td Z k g h0 n0 _ s₁.heap _
    rw [e0]
    exact ⟨(by unfold own_dv; rw [if_neg h3]), N0, rfl⟩
theorem d3_0 : decode jdk_30_method_1_code 0 = .ok (.aload_n 0, 1) := by decide +kernel
theorem d3_1 : decode jdk_30_method_1_code 1 = .ok (.invokespecial 1, 3) := by decide +kernel
theorem d3_4 : decode jdk_30_method_1_code 4 = .ok (.return_, 1) := by decide +kernel
theorem pn2 : plainName "java/lang/Record" = true := by first | (simp [plainName, overriddenIn]; done) | decide +kernel
def Q_rec (Z : State) (a : Addr) (h0 : Heap) (n0 : Nat) (v : Option Value) (h : Heap) (L : List Loc) : Prop := v = none ∧ Fr n0 L ∧ h = h0
theorem ef_rec (m : MethodId) (y0 : Addr) : entryFrame m #[(.ref y0)] 1 = mkF m 0 #[.val (.ref y0)] [] := by first | (simp [entryFrame, mkF, argsToLocals, Value.category, maxLocals]; done) | rfl
set_option maxRecDepth 65536 in
set_option maxHeartbeats 40000000 in
theorem rm_rec (l : Launch) (Z : State) (a0 : Array Value) (hw : ∀ d ∈ tables_1, d.before a0 Z = true) (ws : List Jvm.Cond) (a : Addr) (h0 : Heap) (n0 : Nat) (Z0 : n0 ≤ h0.size)  :
    MetFree l (⟨"java/lang/Record", "<init>", "()V"⟩ : MethodName) (head1 (Jvm.Cond.code (⟨"java/lang/Record", "<init>", "()V"⟩ : MethodName) jdk_30_method_1_code 1 none :: ws) ({ frames := 1, cells := 0, slots := 0, locals := 12 } : Room)) (fun aa_ U => aa_ = #[(.ref a)] ∧ Z.Warmed39 U.vm ∧ U.heap = h0) (fun _ _ _ _ _ => True) (fun _ U o U' => ∃ v L, o = .returned v ∧ Q_rec Z a h0 n0 v U'.heap L ∧ FrameEnd U o U' L (({ frames := 1, cells := 0, slots := 0, locals := 12 } : Room)).cells (({ frames := 1, cells := 0, slots := 0, locals := 12 } : Room)).slots) := by
  refine Go.met (plainFor_of_name pn2) ?_
  intro p e s m below meth c s₁ hx hby hml hown hnm hret hlk hZ e0 X0
  have N0 := Fr.nil n0
  refine Go.cast (ef_rec m a) ?_
  refine Go.st (U := (s₁.setTop (mkF m 1 #[.val (.ref a)] [(.ref a)]))) (fun t_ k_ => XS.aloadN X0.here hx rfl (hb hby d3_0) rfl rfl k_) ?_
  obtain ⟨Ti1, Xi1, ei1, sti1⟩ := initO X0 hx hZ hown (hw _ (List.mem_of_getElem? (i := 18) rfl)) (hw _ (List.mem_of_getElem? (i := 19) rfl)) (hw _ (List.mem_of_getElem? (i := 20) rfl)) e0 (g := (mkF m 1 #[.val (.ref a)] [(.ref a)])) rfl (by rw [hml]; rfl) rfl (hb hby d3_1) (by decide) (W := 0) (by show 2 * 0 + _ ≤ _; exact Nat.le_of_eq rfl) (by decide)
  refine Go.st (U := (Ti1.setTop (mkF m 4 #[.val (.ref a)] []))) sti1 ?_
  refine Go.retV (st := []) Xi1 hx hlk hret (hb hby d3_4) (by decide) (by decide) ?_
  show Q_rec Z a h0 n0 _ Ti1.heap _
  rw [ei1]
  exact ⟨rfl, N0, rfl⟩
theorem d2_0 : decode prog_32_method_1_code 0 = .ok (.aload_n 0, 1) := by decide +kernel
theorem d2_1 : decode prog_32_method_1_code 1 = .ok (.invokespecial 1, 3) := by decide +kernel
theorem d2_4 : decode prog_32_method_1_code 4 = .ok (.aload_n 0, 1) := by decide +kernel
theorem d2_5 : decode prog_32_method_1_code 5 = .ok (.dload_n 1, 1) := by decide +kernel
theorem d2_6 : decode prog_32_method_1_code 6 = .ok (.putfield 7, 3) := by decide +kernel
theorem d2_9 : decode prog_32_method_1_code 9 = .ok (.aload_n 0, 1) := by decide +kernel
theorem d2_10 : decode prog_32_method_1_code 10 = .ok (.dload_n 3, 1) := by decide +kernel
theorem d2_11 : decode prog_32_method_1_code 11 = .ok (.putfield 13, 3) := by decide +kernel
theorem d2_14 : decode prog_32_method_1_code 14 = .ok (.return_, 1) := by decide +kernel
def Q_rank (Z : State) (a : Addr) (x0 : UInt64) (x1 : UInt64) (o0 : Value) (o1 : Value) (h0 : Heap) (n0 : Nat) (v : Option Value) (h : Heap) (L : List Loc) : Prop := v = none ∧ Fr n0 L ∧ Keep h0 h [a] ∧ Exa Z h a "com/example/lumenwatt/lumenwatt/routing/FirstFitRouting$Rank" ∧ Fld Z h a "com/example/lumenwatt/lumenwatt/routing/FirstFitRouting$Rank" "cost" "D" (.double x0) ∧ Fld Z h a "com/example/lumenwatt/lumenwatt/routing/FirstFitRouting$Rank" "tieCost" "D" (.double x1)
theorem ef_rank (m : MethodId) (y0 : Addr) (y1 : UInt64) (y2 : UInt64) : entryFrame m #[(.ref y0), (.double y1), (.double y2)] 5 = mkF m 0 #[.val (.ref y0), .val (.double y1), .second, .val (.double y2), .second] [] := by first | (simp [entryFrame, mkF, argsToLocals, Value.category, maxLocals]; done) | rfl
theorem pd1 : parseMethodDescriptor "()V" = some ⟨[], none⟩ := by decide +kernel
set_option maxRecDepth 65536 in
set_option maxHeartbeats 40000000 in
theorem rm_rank (l : Launch) (Z : State) (a0 : Array Value) (hw : ∀ d ∈ tables_1, d.before a0 Z = true) (ws : List Jvm.Cond) (a : Addr) (x0 : UInt64) (x1 : UInt64) (o0 : Value) (o1 : Value) (h0 : Heap) (n0 : Nat) (Z0 : n0 ≤ h0.size) (E0_a : Exa Z h0 a "com/example/lumenwatt/lumenwatt/routing/FirstFitRouting$Rank") (ge_a : n0 ≤ a) (F0_a_cost : Fld Z h0 a "com/example/lumenwatt/lumenwatt/routing/FirstFitRouting$Rank" "cost" "D" o0) (F0_a_tieCost : Fld Z h0 a "com/example/lumenwatt/lumenwatt/routing/FirstFitRouting$Rank" "tieCost" "D" o1) :
    MetFree l (⟨"com/example/lumenwatt/lumenwatt/routing/FirstFitRouting$Rank", "<init>", "(DD)V"⟩ : MethodName) (head1 (Jvm.Cond.code (⟨"com/example/lumenwatt/lumenwatt/routing/FirstFitRouting$Rank", "<init>", "(DD)V"⟩ : MethodName) prog_32_method_1_code 5 none :: ws) ({ frames := 2, cells := 0, slots := 0, locals := 24 } : Room)) (fun aa_ U => aa_ = #[(.ref a), (.double x0), (.double x1)] ∧ Z.Warmed39 U.vm ∧ U.heap = h0) (fun _ _ _ _ _ => True) (fun _ U o U' => ∃ v L, o = .returned v ∧ Q_rank Z a x0 x1 o0 o1 h0 n0 v U'.heap L ∧ FrameEnd U o U' L (({ frames := 2, cells := 0, slots := 0, locals := 24 } : Room)).cells (({ frames := 2, cells := 0, slots := 0, locals := 24 } : Room)).slots) := by
  refine Go.met (plainFor_of_name pn1) ?_
  intro p e s m below meth c s₁ hx hby hml hown hnm hret hlk hZ e0 X0
  have N0 := Fr.nil n0
  refine Go.cast (ef_rank m a x0 x1) ?_
  refine Go.st (U := (s₁.setTop (mkF m 1 #[.val (.ref a), .val (.double x0), .second, .val (.double x1), .second] [(.ref a)]))) (fun t_ k_ => XS.aloadN X0.here hx rfl (hb hby d2_0) rfl rfl k_) ?_
  refine Go.callI X0 hx hZ hown rfl (hw _ (List.mem_of_getElem? (i := 13) rfl)) (hw _ (List.mem_of_getElem? (i := 14) rfl)) (hw _ (List.mem_of_getElem? (i := 16) rfl)) (hw _ (List.mem_of_getElem? (i := 17) rfl)) (by decide) (rm_rec l Z a0 hw [] a h0 n0 Z0 ) e0 0 (by decide) (by decide) (g := (mkF m 1 #[.val (.ref a), .val (.double x0), .second, .val (.double x1), .second] [(.ref a)])) rfl (by rw [hml]; rfl) a [] [] rfl (lenOf pd1 rfl) rfl (by show 2 * 0 + _ ≤ _; exact Nat.le_of_eq rfl) (hb hby d2_1) (by decide) (by decide) ?_
  intro vi1 Ti1 Li1 hQi1 Xi1
  obtain ⟨rfl, Ni1, ei1⟩ := hQi1
  have Ni1 := Fr.app N0 Ni1
  show Go p e below s _ _ (Ti1.setTop (mkF m 4 #[.val (.ref a), .val (.double x0), .second, .val (.double x1), .second] []))
  refine Go.st (U := (Ti1.setTop (mkF m 5 #[.val (.ref a), .val (.double x0), .second, .val (.double x1), .second] [(.ref a)]))) (fun t_ k_ => XS.aloadN Xi1.here hx rfl (hb hby d2_4) rfl rfl k_) ?_
  refine Go.st (U := (Ti1.setTop (mkF m 6 #[.val (.ref a), .val (.double x0), .second, .val (.double x1), .second] [(.double x0), (.ref a)]))) (fun t_ k_ => XS.dloadN Xi1.here hx rfl (hb hby d2_5) rfl k_) ?_
  obtain ⟨Ti2, hi2, Xi2, ei2, Wi2, sti2⟩ := putF Xi1 hx hZ hown (host := "") (Or.inl (hw _ (List.mem_of_getElem? (i := 21) rfl))) Via.refl ei1 F0_a_cost E0_a (Or.inr ⟨(hw _ (List.mem_of_getElem? (i := 22) rfl)), rfl, hnm⟩) (hw _ (List.mem_of_getElem? (i := 5) rfl)) (ty := .double) (by decide) rfl rfl (g := (mkF m 6 #[.val (.ref a), .val (.double x0), .second, .val (.double x1), .second] [(.double x0), (.ref a)])) rfl rfl (hb hby d2_6)
  have Ni2 := Fr.snoc Xi2 Ni1 ge_a
  have Zi2 : n0 ≤ hi2.size := by rw [Wi2.size]; exact Z0
  have Fi2_a_cost := Fld.same Wi2 F0_a_cost
  have Fi2_a_tieCost := Fld.other Wi2 F0_a_tieCost (Or.inr (slot_ne (Or.inr (hw _ (List.mem_of_getElem? (i := 24) rfl))) (Or.inr (hw _ (List.mem_of_getElem? (i := 22) rfl))) (by decide) (t := .double) (t' := .double) (by decide) (by decide)))
  have Ei2_a := Exa.wr Wi2 E0_a
  have Ki2 := Keep.wr (Keep.refl h0 [a]) Wi2 (Or.inl (List.mem_of_getElem? (i := 0) rfl))
  refine Go.st (U := (Ti2.setTop (mkF m 9 #[.val (.ref a), .val (.double x0), .second, .val (.double x1), .second] []))) sti2 ?_
  refine Go.st (U := (Ti2.setTop (mkF m 10 #[.val (.ref a), .val (.double x0), .second, .val (.double x1), .second] [(.ref a)]))) (fun t_ k_ => XS.aloadN Xi2.here hx rfl (hb hby d2_9) rfl rfl k_) ?_
  refine Go.st (U := (Ti2.setTop (mkF m 11 #[.val (.ref a), .val (.double x0), .second, .val (.double x1), .second] [(.double x1), (.ref a)]))) (fun t_ k_ => XS.dloadN Xi2.here hx rfl (hb hby d2_10) rfl k_) ?_
  obtain ⟨Ti3, hi3, Xi3, ei3, Wi3, sti3⟩ := putF Xi2 hx hZ hown (host := "") (Or.inl (hw _ (List.mem_of_getElem? (i := 23) rfl))) Via.refl ei2 Fi2_a_tieCost Ei2_a (Or.inr ⟨(hw _ (List.mem_of_getElem? (i := 24) rfl)), rfl, hnm⟩) (hw _ (List.mem_of_getElem? (i := 5) rfl)) (ty := .double) (by decide) rfl rfl (g := (mkF m 11 #[.val (.ref a), .val (.double x0), .second, .val (.double x1), .second] [(.double x1), (.ref a)])) rfl rfl (hb hby d2_11)
  have Ni3 := Fr.snoc Xi3 Ni2 ge_a
  have Zi3 : n0 ≤ hi3.size := by rw [Wi3.size]; exact Zi2
  have Fi3_a_cost := Fld.other Wi3 Fi2_a_cost (Or.inr (slot_ne (Or.inr (hw _ (List.mem_of_getElem? (i := 22) rfl))) (Or.inr (hw _ (List.mem_of_getElem? (i := 24) rfl))) (by decide) (t := .double) (t' := .double) (by decide) (by decide)))
  have Fi3_a_tieCost := Fld.same Wi3 Fi2_a_tieCost
  have Ei3_a := Exa.wr Wi3 Ei2_a
  have Ki3 := Keep.wr Ki2 Wi3 (Or.inl (List.mem_of_getElem? (i := 0) rfl))
  refine Go.st (U := (Ti3.setTop (mkF m 14 #[.val (.ref a), .val (.double x0), .second, .val (.double x1), .second] []))) sti3 ?_
  refine Go.retV (st := []) Xi3 hx hlk hret (hb hby d2_14) (by decide) (by decide) ?_
  show Q_rank Z a x0 x1 o0 o1 h0 n0 _ Ti3.heap _
  rw [ei3]
  exact ⟨rfl, Ni3, Ki3, Ei3_a, Fi3_a_cost, Fi3_a_tieCost⟩
theorem d5_0 : decode prog_32_method_2_code 0 = .ok (.aload_n 0, 1) := by decide +kernel
theorem d5_1 : decode prog_32_method_2_code 1 = .ok (.getfield 7, 3) := by decide +kernel
theorem d5_4 : decode prog_32_method_2_code 4 = .ok (.aload_n 1, 1) := by decide +kernel
theorem d5_5 : decode prog_32_method_2_code 5 = .ok (.getfield 7, 3) := by decide +kernel
theorem d5_8 : decode prog_32_method_2_code 8 = .ok (.dcmp .g, 1) := by decide +kernel
theorem d5_9 : decode prog_32_method_2_code 9 = .ok (.ifCond .lt 27, 3) := by decide +kernel
theorem d5_12 : decode prog_32_method_2_code 12 = .ok (.aload_n 0, 1) := by decide +kernel
theorem d5_13 : decode prog_32_method_2_code 13 = .ok (.getfield 7, 3) := by decide +kernel
theorem d5_16 : decode prog_32_method_2_code 16 = .ok (.aload_n 1, 1) := by decide +kernel
theorem d5_17 : decode prog_32_method_2_code 17 = .ok (.getfield 7, 3) := by decide +kernel
theorem d5_20 : decode prog_32_method_2_code 20 = .ok (.dcmp .l, 1) := by decide +kernel
theorem d5_21 : decode prog_32_method_2_code 21 = .ok (.ifCond .ne 19, 3) := by decide +kernel
theorem d5_24 : decode prog_32_method_2_code 24 = .ok (.aload_n 0, 1) := by decide +kernel
theorem d5_25 : decode prog_32_method_2_code 25 = .ok (.getfield 13, 3) := by decide +kernel
theorem d5_28 : decode prog_32_method_2_code 28 = .ok (.aload_n 1, 1) := by decide +kernel
theorem d5_29 : decode prog_32_method_2_code 29 = .ok (.getfield 13, 3) := by decide +kernel
theorem d5_32 : decode prog_32_method_2_code 32 = .ok (.dcmp .g, 1) := by decide +kernel
theorem d5_33 : decode prog_32_method_2_code 33 = .ok (.ifCond .ge 7, 3) := by decide +kernel
theorem d5_36 : decode prog_32_method_2_code 36 = .ok (.iconst 1, 1) := by decide +kernel
theorem d5_37 : decode prog_32_method_2_code 37 = .ok (.goto 4, 3) := by decide +kernel
theorem d5_40 : decode prog_32_method_2_code 40 = .ok (.iconst 0, 1) := by decide +kernel
theorem d5_41 : decode prog_32_method_2_code 41 = .ok (.ireturn, 1) := by decide +kernel
def Q_bef (Z : State) (a : Addr) (b : Addr) (ca : UInt64) (ta : UInt64) (cb : UInt64) (tb : UInt64) (h0 : Heap) (n0 : Nat) (v : Option Value) (h : Heap) (L : List Loc) : Prop := v = some (.int (own_bef ca cb ta tb)) ∧ Fr n0 L ∧ h = h0
theorem ef_bef (m : MethodId) (y0 : Addr) (y1 : Addr) : entryFrame m #[(.ref y0), (.ref y1)] 2 = mkF m 0 #[.val (.ref y0), .val (.ref y1)] [] := by first | (simp [entryFrame, mkF, argsToLocals, Value.category, maxLocals]; done) | rfl
set_option maxRecDepth 65536 in
set_option maxHeartbeats 40000000 in
theorem rm_bef (l : Launch) (Z : State) (a0 : Array Value) (hw : ∀ d ∈ tables_1, d.before a0 Z = true) (ws : List Jvm.Cond) (a : Addr) (b : Addr) (ca : UInt64) (ta : UInt64) (cb : UInt64) (tb : UInt64) (h0 : Heap) (n0 : Nat) (Z0 : n0 ≤ h0.size) (F0_a_cost : Fld Z h0 a "com/example/lumenwatt/lumenwatt/routing/FirstFitRouting$Rank" "cost" "D" (.double ca)) (F0_a_tieCost : Fld Z h0 a "com/example/lumenwatt/lumenwatt/routing/FirstFitRouting$Rank" "tieCost" "D" (.double ta)) (F0_b_cost : Fld Z h0 b "com/example/lumenwatt/lumenwatt/routing/FirstFitRouting$Rank" "cost" "D" (.double cb)) (F0_b_tieCost : Fld Z h0 b "com/example/lumenwatt/lumenwatt/routing/FirstFitRouting$Rank" "tieCost" "D" (.double tb)) :
    MetFree l (⟨"com/example/lumenwatt/lumenwatt/routing/FirstFitRouting$Rank", "isBefore", "(Lcom/example/lumenwatt/lumenwatt/routing/FirstFitRouting$Rank;)Z"⟩ : MethodName) (head1 (Jvm.Cond.code (⟨"com/example/lumenwatt/lumenwatt/routing/FirstFitRouting$Rank", "isBefore", "(Lcom/example/lumenwatt/lumenwatt/routing/FirstFitRouting$Rank;)Z"⟩ : MethodName) prog_32_method_2_code 2 (some .boolean) :: ws) ({ frames := 0, cells := 0, slots := 0, locals := 0 } : Room)) (fun aa_ U => aa_ = #[(.ref a), (.ref b)] ∧ Z.Warmed39 U.vm ∧ U.heap = h0) (fun _ _ _ _ _ => True) (fun _ U o U' => ∃ v L, o = .returned v ∧ Q_bef Z a b ca ta cb tb h0 n0 v U'.heap L ∧ FrameEnd U o U' L (({ frames := 0, cells := 0, slots := 0, locals := 0 } : Room)).cells (({ frames := 0, cells := 0, slots := 0, locals := 0 } : Room)).slots) := by
  refine Go.met (plainFor_of_name pn1) ?_
  intro p e s m below meth c s₁ hx hby hml hown hnm hret hlk hZ e0 X0
  have N0 := Fr.nil n0
  refine Go.cast (ef_bef m a b) ?_
  refine Go.st (U := (s₁.setTop (mkF m 1 #[.val (.ref a), .val (.ref b)] [(.ref a)]))) (fun t_ k_ => XS.aloadN X0.here hx rfl (hb hby d5_0) rfl rfl k_) ?_
  obtain ⟨Ti1, Xi1, ei1, sti1⟩ := getF X0 hx hZ hown (host := "") (Or.inl (hw _ (List.mem_of_getElem? (i := 21) rfl))) Via.refl e0 F0_a_cost (g := (mkF m 1 #[.val (.ref a), .val (.ref b)] [(.ref a)])) rfl rfl (hb hby d5_1)
  refine Go.st (U := (Ti1.setTop (mkF m 4 #[.val (.ref a), .val (.ref b)] [(.double ca)]))) sti1 ?_
  refine Go.st (U := (Ti1.setTop (mkF m 5 #[.val (.ref a), .val (.ref b)] [(.ref b), (.double ca)]))) (fun t_ k_ => XS.aloadN Xi1.here hx rfl (hb hby d5_4) rfl rfl k_) ?_
  obtain ⟨Ti2, Xi2, ei2, sti2⟩ := getF Xi1 hx hZ hown (host := "") (Or.inl (hw _ (List.mem_of_getElem? (i := 21) rfl))) Via.refl ei1 F0_b_cost (g := (mkF m 5 #[.val (.ref a), .val (.ref b)] [(.ref b), (.double ca)])) rfl rfl (hb hby d5_5)
  refine Go.st (U := (Ti2.setTop (mkF m 8 #[.val (.ref a), .val (.ref b)] [(.double cb), (.double ca)]))) sti2 ?_
  refine Go.st (U := (Ti2.setTop (mkF m 9 #[.val (.ref a), .val (.ref b)] [(.int (cmpValue (FP.dcmp ca cb) .g))]))) (fun t_ k_ => XS.dcmpS Xi2.here hx rfl (hb hby d5_8) rfl rfl k_) ?_
  by_cases h9 : (cmpValue (FP.dcmp ca cb) .g) < (0 : Int32)
  · refine Go.st (U := (Ti2.setTop (mkF m 36 #[.val (.ref a), .val (.ref b)] []))) (fun t_ k_ => XS.ifYes Xi2.here hx rfl (pc0 := 9) (pc' := 36) rfl (hb hby d5_9) rfl ((if0 _ _).trans (tlt h9).1) (by decide) (by decide) k_) ?_
    refine Go.st (U := (Ti2.setTop (mkF m 37 #[.val (.ref a), .val (.ref b)] [(.int (1 : Int32))]))) (fun t_ k_ => XS.iconst Xi2.here hx rfl (hb hby d5_36) k_) ?_
    refine Go.st (U := (Ti2.setTop (mkF m 41 #[.val (.ref a), .val (.ref b)] [(.int (1 : Int32))]))) (fun t_ k_ => XS.goto Xi2.here hx rfl (pc0 := 37) (pc' := 41) rfl (hb hby d5_37) (by decide) (by decide) k_) ?_
    refine Go.retZ Xi2 hx hlk hret (hb hby d5_41) (by decide) (by decide) ?_
    show Q_bef Z a b ca ta cb tb h0 n0 _ Ti2.heap _
    rw [ei2]
    exact ⟨(by unfold own_bef; rw [if_pos h9]; rfl), N0, rfl⟩
  · refine Go.st (U := (Ti2.setTop (mkF m 12 #[.val (.ref a), .val (.ref b)] []))) (fun t_ k_ => XS.ifNo Xi2.here hx rfl (hb hby d5_9) rfl ((if0 _ _).trans (flt h9).1) k_) ?_
    refine Go.st (U := (Ti2.setTop (mkF m 13 #[.val (.ref a), .val (.ref b)] [(.ref a)]))) (fun t_ k_ => XS.aloadN Xi2.here hx rfl (hb hby d5_12) rfl rfl k_) ?_
    obtain ⟨Ti3, Xi3, ei3, sti3⟩ := getF Xi2 hx hZ hown (host := "") (Or.inl (hw _ (List.mem_of_getElem? (i := 21) rfl))) Via.refl ei2 F0_a_cost (g := (mkF m 13 #[.val (.ref a), .val (.ref b)] [(.ref a)])) rfl rfl (hb hby d5_13)
    refine Go.st (U := (Ti3.setTop (mkF m 16 #[.val (.ref a), .val (.ref b)] [(.double ca)]))) sti3 ?_
    refine Go.st (U := (Ti3.setTop (mkF m 17 #[.val (.ref a), .val (.ref b)] [(.ref b), (.double ca)]))) (fun t_ k_ => XS.aloadN Xi3.here hx rfl (hb hby d5_16) rfl rfl k_) ?_
    obtain ⟨Ti4, Xi4, ei4, sti4⟩ := getF Xi3 hx hZ hown (host := "") (Or.inl (hw _ (List.mem_of_getElem? (i := 21) rfl))) Via.refl ei3 F0_b_cost (g := (mkF m 17 #[.val (.ref a), .val (.ref b)] [(.ref b), (.double ca)])) rfl rfl (hb hby d5_17)
    refine Go.st (U := (Ti4.setTop (mkF m 20 #[.val (.ref a), .val (.ref b)] [(.double cb), (.double ca)]))) sti4 ?_
    refine Go.st (U := (Ti4.setTop (mkF m 21 #[.val (.ref a), .val (.ref b)] [(.int (cmpValue (FP.dcmp ca cb) .l))]))) (fun t_ k_ => XS.dcmpS Xi4.here hx rfl (hb hby d5_20) rfl rfl k_) ?_
    by_cases h21 : (cmpValue (FP.dcmp ca cb) .l) = (0 : Int32)
    · refine Go.st (U := (Ti4.setTop (mkF m 24 #[.val (.ref a), .val (.ref b)] []))) (fun t_ k_ => XS.ifNo Xi4.here hx rfl (hb hby d5_21) rfl ((if0 _ _).trans (teq h21).2) k_) ?_
      refine Go.st (U := (Ti4.setTop (mkF m 25 #[.val (.ref a), .val (.ref b)] [(.ref a)]))) (fun t_ k_ => XS.aloadN Xi4.here hx rfl (hb hby d5_24) rfl rfl k_) ?_
      obtain ⟨Ti5, Xi5, ei5, sti5⟩ := getF Xi4 hx hZ hown (host := "") (Or.inl (hw _ (List.mem_of_getElem? (i := 23) rfl))) Via.refl ei4 F0_a_tieCost (g := (mkF m 25 #[.val (.ref a), .val (.ref b)] [(.ref a)])) rfl rfl (hb hby d5_25)
      refine Go.st (U := (Ti5.setTop (mkF m 28 #[.val (.ref a), .val (.ref b)] [(.double ta)]))) sti5 ?_
      refine Go.st (U := (Ti5.setTop (mkF m 29 #[.val (.ref a), .val (.ref b)] [(.ref b), (.double ta)]))) (fun t_ k_ => XS.aloadN Xi5.here hx rfl (hb hby d5_28) rfl rfl k_) ?_
      obtain ⟨Ti6, Xi6, ei6, sti6⟩ := getF Xi5 hx hZ hown (host := "") (Or.inl (hw _ (List.mem_of_getElem? (i := 23) rfl))) Via.refl ei5 F0_b_tieCost (g := (mkF m 29 #[.val (.ref a), .val (.ref b)] [(.ref b), (.double ta)])) rfl rfl (hb hby d5_29)
      refine Go.st (U := (Ti6.setTop (mkF m 32 #[.val (.ref a), .val (.ref b)] [(.double tb), (.double ta)]))) sti6 ?_
      refine Go.st (U := (Ti6.setTop (mkF m 33 #[.val (.ref a), .val (.ref b)] [(.int (cmpValue (FP.dcmp ta tb) .g))]))) (fun t_ k_ => XS.dcmpS Xi6.here hx rfl (hb hby d5_32) rfl rfl k_) ?_
      by_cases h33 : (cmpValue (FP.dcmp ta tb) .g) < (0 : Int32)
      · refine Go.st (U := (Ti6.setTop (mkF m 36 #[.val (.ref a), .val (.ref b)] []))) (fun t_ k_ => XS.ifNo Xi6.here hx rfl (hb hby d5_33) rfl ((if0 _ _).trans (tlt h33).2.1) k_) ?_
        refine Go.st (U := (Ti6.setTop (mkF m 37 #[.val (.ref a), .val (.ref b)] [(.int (1 : Int32))]))) (fun t_ k_ => XS.iconst Xi6.here hx rfl (hb hby d5_36) k_) ?_
        refine Go.st (U := (Ti6.setTop (mkF m 41 #[.val (.ref a), .val (.ref b)] [(.int (1 : Int32))]))) (fun t_ k_ => XS.goto Xi6.here hx rfl (pc0 := 37) (pc' := 41) rfl (hb hby d5_37) (by decide) (by decide) k_) ?_
        refine Go.retZ Xi6 hx hlk hret (hb hby d5_41) (by decide) (by decide) ?_
        show Q_bef Z a b ca ta cb tb h0 n0 _ Ti6.heap _
        rw [ei6]
        exact ⟨(by unfold own_bef; rw [if_neg h9, if_pos h21, if_pos h33]; rfl), N0, rfl⟩
      · refine Go.st (U := (Ti6.setTop (mkF m 40 #[.val (.ref a), .val (.ref b)] []))) (fun t_ k_ => XS.ifYes Xi6.here hx rfl (pc0 := 33) (pc' := 40) rfl (hb hby d5_33) rfl ((if0 _ _).trans (flt h33).2.1) (by decide) (by decide) k_) ?_
        refine Go.st (U := (Ti6.setTop (mkF m 41 #[.val (.ref a), .val (.ref b)] [(.int (0 : Int32))]))) (fun t_ k_ => XS.iconst Xi6.here hx rfl (hb hby d5_40) k_) ?_
        refine Go.retZ Xi6 hx hlk hret (hb hby d5_41) (by decide) (by decide) ?_
        show Q_bef Z a b ca ta cb tb h0 n0 _ Ti6.heap _
        rw [ei6]
        exact ⟨(by unfold own_bef; rw [if_neg h9, if_pos h21, if_neg h33]; rfl), N0, rfl⟩
    · refine Go.st (U := (Ti4.setTop (mkF m 40 #[.val (.ref a), .val (.ref b)] []))) (fun t_ k_ => XS.ifYes Xi4.here hx rfl (pc0 := 21) (pc' := 40) rfl (hb hby d5_21) rfl ((if0 _ _).trans (feq h21).2) (by decide) (by decide) k_) ?_
      refine Go.st (U := (Ti4.setTop (mkF m 41 #[.val (.ref a), .val (.ref b)] [(.int (0 : Int32))]))) (fun t_ k_ => XS.iconst Xi4.here hx rfl (hb hby d5_40) k_) ?_
      refine Go.retZ Xi4 hx hlk hret (hb hby d5_41) (by decide) (by decide) ?_
      show Q_bef Z a b ca ta cb tb h0 n0 _ Ti4.heap _
      rw [ei4]
      exact ⟨(by unfold own_bef; rw [if_neg h9, if_neg h21]; rfl), N0, rfl⟩
def Q_law (Z : State) (p0 : Int32) (p1 : Int32) (p2 : Int32) (p3 : Int32) (g : Addr) (h0 : Heap) (n0 : Nat) (v : Option Value) (h : Heap) (L : List Loc) : Prop := v = some (.int 1) ∧ Fr n0 L
theorem ef_law (m : MethodId) (y0 : Int32) (y1 : Int32) (y2 : Int32) (y3 : Int32) : entryFrame m #[(.int y0), (.int y1), (.int y2), (.int y3)] maxLocals = mkF m 0 #[.val (.int y0), .val (.int y1), .val (.int y2), .val (.int y3), .unset, .unset, .unset, .unset, .unset, .unset, .unset] [] := by first | (simp [entryFrame, mkF, argsToLocals, Value.category, maxLocals]; done) | rfl
theorem pd2 : parseMethodDescriptor "(I)I" = some ⟨[.int], some .int⟩ := by decide +kernel
theorem pd3 : parseMethodDescriptor "(I)D" = some ⟨[.int], some .double⟩ := by decide +kernel
theorem pd4 : parseMethodDescriptor "(DD)V" = some ⟨[.double, .double], none⟩ := by decide +kernel
theorem pd5 : parseMethodDescriptor "(Lcom/example/lumenwatt/lumenwatt/routing/FirstFitRouting$Rank;)Z" = some ⟨[.object "com/example/lumenwatt/lumenwatt/routing/FirstFitRouting$Rank"], some .boolean⟩ := by decide +kernel
set_option maxRecDepth 65536 in
set_option maxHeartbeats 40000000 in
theorem rm_law (l : Launch) (Z : State) (a0 : Array Value) (hw : ∀ d ∈ tables_1, d.before a0 Z = true) (ws : List Jvm.Cond) (p0 : Int32) (p1 : Int32) (p2 : Int32) (p3 : Int32) (g : Addr) (h0 : Heap) (n0 : Nat) (Z0 : n0 ≤ h0.size) (O0 : Old Z n0 h0) (S0_NONE : Sta Z Z.heap "com/example/lumenwatt/lumenwatt/routing/FirstFitRouting$Rank" "NONE" "Lcom/example/lumenwatt/lumenwatt/routing/FirstFitRouting$Rank;" (.ref g)) (F0_g_cost : Fld Z Z.heap g "com/example/lumenwatt/lumenwatt/routing/FirstFitRouting$Rank" "cost" "D" (.double (9218868437227405312 : UInt64))) (E0_g : Exa Z Z.heap g "com/example/lumenwatt/lumenwatt/routing/FirstFitRouting$Rank") :
    MetFree l x (head1 (Jvm.Cond.code x code maxLocals ret :: ws) room_1) (fun aa_ U => aa_ = #[(.int p0), (.int p1), (.int p2), (.int p3)] ∧ Z.Warmed39 U.vm ∧ U.heap = h0) (fun _ _ _ _ _ => True) (fun _ U o U' => ∃ v L, o = .returned v ∧ Q_law Z p0 p1 p2 p3 g h0 n0 v U'.heap L ∧ FrameEnd U o U' L (room_1).cells (room_1).slots) := by
  refine Go.met (plainFor_of_name pn0) ?_
  intro p e s m below meth c s₁ hx hby hml hown hnm hret hlk hZ e0 X0
  have hml : c.maxLocals = 11 := hml
  have N0 := Fr.nil n0
  refine Go.cast (ef_law m p0 p1 p2 p3) ?_
  refine Go.st (U := (s₁.setTop (mkF m 1 #[.val (.int p0), .val (.int p1), .val (.int p2), .val (.int p3), .unset, .unset, .unset, .unset, .unset, .unset, .unset] [(.int p0)]))) (fun t_ k_ => XS.iloadN X0.here hx rfl (hb hby at_0) rfl k_) ?_
  refine Go.callS X0 hx hZ hown (hw _ (List.mem_of_getElem? (i := 0) rfl)) (hw _ (List.mem_of_getElem? (i := 1) rfl)) (hw _ (List.mem_of_getElem? (i := 2) rfl)) (hw _ (List.mem_of_getElem? (i := 3) rfl)) (by decide) (rm_key l Z a0 hw [] p0 h0 n0 Z0 ) e0 0 (by decide) (by decide) (g := (mkF m 1 #[.val (.int p0), .val (.int p1), .val (.int p2), .val (.int p3), .unset, .unset, .unset, .unset, .unset, .unset, .unset] [(.int p0)])) rfl (by rw [hml]; rfl) [(.int p0)] [] rfl (lenOf pd2 rfl) rfl (by show 2 * 0 + _ ≤ _; exact Nat.le_of_eq rfl) (hb hby at_1) (by decide) (by decide) ?_
  intro vi1 Ti1 Li1 hQi1 Xi1
  obtain ⟨rfl, Ni1, ei1⟩ := hQi1
  have Ni1 := Fr.app N0 Ni1
  show Go p e below s _ _ (Ti1.setTop (mkF m 4 #[.val (.int p0), .val (.int p1), .val (.int p2), .val (.int p3), .unset, .unset, .unset, .unset, .unset, .unset, .unset] [(.int ((p0 &&& (15 : Int32)) - (7 : Int32)))]))
  generalize q_ka : ((p0 &&& (15 : Int32)) - (7 : Int32)) = ka
  refine Go.st (U := (Ti1.setTop (mkF m 6 #[.val (.int p0), .val (.int p1), .val (.int p2), .val (.int p3), .val (.int ka), .unset, .unset, .unset, .unset, .unset, .unset] []))) (fun t_ k_ => XS.istore Xi1.here hx rfl (hb hby at_4) rfl (l' := #[.val (.int p0), .val (.int p1), .val (.int p2), .val (.int p3), .val (.int ka), .unset, .unset, .unset, .unset, .unset, .unset]) rfl k_) ?_
  refine Go.st (U := (Ti1.setTop (mkF m 7 #[.val (.int p0), .val (.int p1), .val (.int p2), .val (.int p3), .val (.int ka), .unset, .unset, .unset, .unset, .unset, .unset] [(.int p1)]))) (fun t_ k_ => XS.iloadN Xi1.here hx rfl (hb hby at_6) rfl k_) ?_
  refine Go.callS Xi1 hx hZ hown (hw _ (List.mem_of_getElem? (i := 0) rfl)) (hw _ (List.mem_of_getElem? (i := 1) rfl)) (hw _ (List.mem_of_getElem? (i := 2) rfl)) (hw _ (List.mem_of_getElem? (i := 3) rfl)) (by decide) (rm_key l Z a0 hw [] p1 h0 n0 Z0 ) ei1 0 (by decide) (by decide) (g := (mkF m 7 #[.val (.int p0), .val (.int p1), .val (.int p2), .val (.int p3), .val (.int ka), .unset, .unset, .unset, .unset, .unset, .unset] [(.int p1)])) rfl (by rw [hml]; rfl) [(.int p1)] [] rfl (lenOf pd2 rfl) rfl (by show 2 * 0 + _ ≤ _; exact Nat.le_of_eq rfl) (hb hby at_7) (by decide) (by decide) ?_
  intro vi2 Ti2 Li2 hQi2 Xi2
  obtain ⟨rfl, Ni2, ei2⟩ := hQi2
  have Ni2 := Fr.app Ni1 Ni2
  show Go p e below s _ _ (Ti2.setTop (mkF m 10 #[.val (.int p0), .val (.int p1), .val (.int p2), .val (.int p3), .val (.int ka), .unset, .unset, .unset, .unset, .unset, .unset] [(.int ((p1 &&& (15 : Int32)) - (7 : Int32)))]))
  generalize q_ta : ((p1 &&& (15 : Int32)) - (7 : Int32)) = ta
  refine Go.st (U := (Ti2.setTop (mkF m 12 #[.val (.int p0), .val (.int p1), .val (.int p2), .val (.int p3), .val (.int ka), .val (.int ta), .unset, .unset, .unset, .unset, .unset] []))) (fun t_ k_ => XS.istore Xi2.here hx rfl (hb hby at_10) rfl (l' := #[.val (.int p0), .val (.int p1), .val (.int p2), .val (.int p3), .val (.int ka), .val (.int ta), .unset, .unset, .unset, .unset, .unset]) rfl k_) ?_
  refine Go.st (U := (Ti2.setTop (mkF m 13 #[.val (.int p0), .val (.int p1), .val (.int p2), .val (.int p3), .val (.int ka), .val (.int ta), .unset, .unset, .unset, .unset, .unset] [(.int p2)]))) (fun t_ k_ => XS.iloadN Xi2.here hx rfl (hb hby at_12) rfl k_) ?_
  refine Go.callS Xi2 hx hZ hown (hw _ (List.mem_of_getElem? (i := 0) rfl)) (hw _ (List.mem_of_getElem? (i := 1) rfl)) (hw _ (List.mem_of_getElem? (i := 2) rfl)) (hw _ (List.mem_of_getElem? (i := 3) rfl)) (by decide) (rm_key l Z a0 hw [] p2 h0 n0 Z0 ) ei2 0 (by decide) (by decide) (g := (mkF m 13 #[.val (.int p0), .val (.int p1), .val (.int p2), .val (.int p3), .val (.int ka), .val (.int ta), .unset, .unset, .unset, .unset, .unset] [(.int p2)])) rfl (by rw [hml]; rfl) [(.int p2)] [] rfl (lenOf pd2 rfl) rfl (by show 2 * 0 + _ ≤ _; exact Nat.le_of_eq rfl) (hb hby at_13) (by decide) (by decide) ?_
  intro vi3 Ti3 Li3 hQi3 Xi3
  obtain ⟨rfl, Ni3, ei3⟩ := hQi3
  have Ni3 := Fr.app Ni2 Ni3
  show Go p e below s _ _ (Ti3.setTop (mkF m 16 #[.val (.int p0), .val (.int p1), .val (.int p2), .val (.int p3), .val (.int ka), .val (.int ta), .unset, .unset, .unset, .unset, .unset] [(.int ((p2 &&& (15 : Int32)) - (7 : Int32)))]))
  generalize q_kb : ((p2 &&& (15 : Int32)) - (7 : Int32)) = kb
  refine Go.st (U := (Ti3.setTop (mkF m 18 #[.val (.int p0), .val (.int p1), .val (.int p2), .val (.int p3), .val (.int ka), .val (.int ta), .val (.int kb), .unset, .unset, .unset, .unset] []))) (fun t_ k_ => XS.istore Xi3.here hx rfl (hb hby at_16) rfl (l' := #[.val (.int p0), .val (.int p1), .val (.int p2), .val (.int p3), .val (.int ka), .val (.int ta), .val (.int kb), .unset, .unset, .unset, .unset]) rfl k_) ?_
  refine Go.st (U := (Ti3.setTop (mkF m 19 #[.val (.int p0), .val (.int p1), .val (.int p2), .val (.int p3), .val (.int ka), .val (.int ta), .val (.int kb), .unset, .unset, .unset, .unset] [(.int p3)]))) (fun t_ k_ => XS.iloadN Xi3.here hx rfl (hb hby at_18) rfl k_) ?_
  refine Go.callS Xi3 hx hZ hown (hw _ (List.mem_of_getElem? (i := 0) rfl)) (hw _ (List.mem_of_getElem? (i := 1) rfl)) (hw _ (List.mem_of_getElem? (i := 2) rfl)) (hw _ (List.mem_of_getElem? (i := 3) rfl)) (by decide) (rm_key l Z a0 hw [] p3 h0 n0 Z0 ) ei3 0 (by decide) (by decide) (g := (mkF m 19 #[.val (.int p0), .val (.int p1), .val (.int p2), .val (.int p3), .val (.int ka), .val (.int ta), .val (.int kb), .unset, .unset, .unset, .unset] [(.int p3)])) rfl (by rw [hml]; rfl) [(.int p3)] [] rfl (lenOf pd2 rfl) rfl (by show 2 * 0 + _ ≤ _; exact Nat.le_of_eq rfl) (hb hby at_19) (by decide) (by decide) ?_
  intro vi4 Ti4 Li4 hQi4 Xi4
  obtain ⟨rfl, Ni4, ei4⟩ := hQi4
  have Ni4 := Fr.app Ni3 Ni4
  show Go p e below s _ _ (Ti4.setTop (mkF m 22 #[.val (.int p0), .val (.int p1), .val (.int p2), .val (.int p3), .val (.int ka), .val (.int ta), .val (.int kb), .unset, .unset, .unset, .unset] [(.int ((p3 &&& (15 : Int32)) - (7 : Int32)))]))
  generalize q_tb : ((p3 &&& (15 : Int32)) - (7 : Int32)) = tb
  refine Go.st (U := (Ti4.setTop (mkF m 24 #[.val (.int p0), .val (.int p1), .val (.int p2), .val (.int p3), .val (.int ka), .val (.int ta), .val (.int kb), .val (.int tb), .unset, .unset, .unset] []))) (fun t_ k_ => XS.istore Xi4.here hx rfl (hb hby at_22) rfl (l' := #[.val (.int p0), .val (.int p1), .val (.int p2), .val (.int p3), .val (.int ka), .val (.int ta), .val (.int kb), .val (.int tb), .unset, .unset, .unset]) rfl k_) ?_
  obtain ⟨Ti5, hi5, Xi5, ei5, Gi5, Ai5, Di5, -, sti5⟩ := newO Xi4 hx hZ hown (hw _ (List.mem_of_getElem? (i := 4) rfl)) (hw _ (List.mem_of_getElem? (i := 5) rfl)) (hw _ (List.mem_of_getElem? (i := 6) rfl)) ei4 (g := (mkF m 24 #[.val (.int p0), .val (.int p1), .val (.int p2), .val (.int p3), .val (.int ka), .val (.int ta), .val (.int kb), .val (.int tb), .unset, .unset, .unset] [])) rfl (hb hby at_24) (by decide) (by decide)
  obtain ⟨bi5, gi5⟩ : ∃ z, z = h0.size := ⟨_, rfl⟩
  rw [← gi5] at Ai5 Di5 sti5
  have ge_bi5 : n0 ≤ bi5 := Nat.le_trans Z0 (Nat.le_of_eq gi5.symm)
  have sz_bi5 : h0.size ≤ bi5 := Nat.le_of_eq gi5.symm
  have sz0_bi5 : h0.size ≤ bi5 := Nat.le_trans (Keep.size_le (Keep.refl h0 [])) sz_bi5
  have Fi5_bi5_cost : Fld Z hi5 bi5 "com/example/lumenwatt/lumenwatt/routing/FirstFitRouting$Rank" "cost" "D" (.double 0) := Di5 (Or.inr (hw _ (List.mem_of_getElem? (i := 22) rfl))) (ty := .double) (by decide)
  have Fi5_bi5_tieCost : Fld Z hi5 bi5 "com/example/lumenwatt/lumenwatt/routing/FirstFitRouting$Rank" "tieCost" "D" (.double 0) := Di5 (Or.inr (hw _ (List.mem_of_getElem? (i := 24) rfl))) (ty := .double) (by decide)
  have Zi5 : n0 ≤ hi5.size := Nat.le_trans Z0 Gi5.1
  have Oi5 := Old.ext O0 Gi5
  have Ki5 := Keep.ext (Keep.refl h0 []) Gi5
  refine Go.st (U := (Ti5.setTop (mkF m 27 #[.val (.int p0), .val (.int p1), .val (.int p2), .val (.int p3), .val (.int ka), .val (.int ta), .val (.int kb), .val (.int tb), .unset, .unset, .unset] [(.ref bi5)]))) sti5 ?_
  refine Go.st (U := (Ti5.setTop (mkF m 28 #[.val (.int p0), .val (.int p1), .val (.int p2), .val (.int p3), .val (.int ka), .val (.int ta), .val (.int kb), .val (.int tb), .unset, .unset, .unset] [(.ref bi5), (.ref bi5)]))) (fun t_ k_ => XS.dup Xi5.here hx rfl (hb hby at_27) rfl rfl k_) ?_
  refine Go.st (U := (Ti5.setTop (mkF m 30 #[.val (.int p0), .val (.int p1), .val (.int p2), .val (.int p3), .val (.int ka), .val (.int ta), .val (.int kb), .val (.int tb), .unset, .unset, .unset] [(.int ka), (.ref bi5), (.ref bi5)]))) (fun t_ k_ => XS.iload Xi5.here hx rfl (hb hby at_28) rfl k_) ?_
  refine Go.callS Xi5 hx hZ hown (hw _ (List.mem_of_getElem? (i := 7) rfl)) (hw _ (List.mem_of_getElem? (i := 8) rfl)) (hw _ (List.mem_of_getElem? (i := 2) rfl)) (hw _ (List.mem_of_getElem? (i := 9) rfl)) (by decide) (rm_td l Z a0 hw [] ka g hi5 n0 Zi5 (Sta.ext Oi5.2 S0_NONE) (Fld.ext Oi5.2 F0_g_cost) (Exa.ext Oi5.2 E0_g)) ei5 2 (by decide) (by decide) (g := (mkF m 30 #[.val (.int p0), .val (.int p1), .val (.int p2), .val (.int p3), .val (.int ka), .val (.int ta), .val (.int kb), .val (.int tb), .unset, .unset, .unset] [(.int ka), (.ref bi5), (.ref bi5)])) rfl (by rw [hml]; rfl) [(.int ka)] [(.ref bi5), (.ref bi5)] rfl (lenOf pd3 rfl) rfl (by show 2 * 0 + _ ≤ _; exact Nat.le_of_eq rfl) (hb hby at_30) (by decide) (by decide) ?_
  intro vi6 Ti6 Li6 hQi6 Xi6
  obtain ⟨rfl, Ni6, ei6⟩ := hQi6
  have Ni6 := Fr.app Ni4 Ni6
  show Go p e below s _ _ (Ti6.setTop (mkF m 33 #[.val (.int p0), .val (.int p1), .val (.int p2), .val (.int p3), .val (.int ka), .val (.int ta), .val (.int kb), .val (.int tb), .unset, .unset, .unset] [(.double (own_dv ka)), (.ref bi5), (.ref bi5)]))
  refine Go.st (U := (Ti6.setTop (mkF m 35 #[.val (.int p0), .val (.int p1), .val (.int p2), .val (.int p3), .val (.int ka), .val (.int ta), .val (.int kb), .val (.int tb), .unset, .unset, .unset] [(.int ta), (.double (own_dv ka)), (.ref bi5), (.ref bi5)]))) (fun t_ k_ => XS.iload Xi6.here hx rfl (hb hby at_33) rfl k_) ?_
  refine Go.callS Xi6 hx hZ hown (hw _ (List.mem_of_getElem? (i := 7) rfl)) (hw _ (List.mem_of_getElem? (i := 8) rfl)) (hw _ (List.mem_of_getElem? (i := 2) rfl)) (hw _ (List.mem_of_getElem? (i := 9) rfl)) (by decide) (rm_td l Z a0 hw [] ta g hi5 n0 Zi5 (Sta.ext Oi5.2 S0_NONE) (Fld.ext Oi5.2 F0_g_cost) (Exa.ext Oi5.2 E0_g)) ei6 4 (by decide) (by decide) (g := (mkF m 35 #[.val (.int p0), .val (.int p1), .val (.int p2), .val (.int p3), .val (.int ka), .val (.int ta), .val (.int kb), .val (.int tb), .unset, .unset, .unset] [(.int ta), (.double (own_dv ka)), (.ref bi5), (.ref bi5)])) rfl (by rw [hml]; rfl) [(.int ta)] [(.double (own_dv ka)), (.ref bi5), (.ref bi5)] rfl (lenOf pd3 rfl) rfl (by show 2 * 0 + _ ≤ _; exact Nat.le_of_eq rfl) (hb hby at_35) (by decide) (by decide) ?_
  intro vi7 Ti7 Li7 hQi7 Xi7
  obtain ⟨rfl, Ni7, ei7⟩ := hQi7
  have Ni7 := Fr.app Ni6 Ni7
  show Go p e below s _ _ (Ti7.setTop (mkF m 38 #[.val (.int p0), .val (.int p1), .val (.int p2), .val (.int p3), .val (.int ka), .val (.int ta), .val (.int kb), .val (.int tb), .unset, .unset, .unset] [(.double (own_dv ta)), (.double (own_dv ka)), (.ref bi5), (.ref bi5)]))
  refine Go.callI Xi7 hx hZ hown rfl (hw _ (List.mem_of_getElem? (i := 10) rfl)) (hw _ (List.mem_of_getElem? (i := 11) rfl)) (hw _ (List.mem_of_getElem? (i := 6) rfl)) (hw _ (List.mem_of_getElem? (i := 12) rfl)) (by decide) (rm_rank l Z a0 hw [] bi5 (own_dv ka) (own_dv ta) (.double 0) (.double 0) hi5 n0 Zi5 Ai5 ge_bi5 Fi5_bi5_cost Fi5_bi5_tieCost) ei7 1 (by decide) (by decide) (g := (mkF m 38 #[.val (.int p0), .val (.int p1), .val (.int p2), .val (.int p3), .val (.int ka), .val (.int ta), .val (.int kb), .val (.int tb), .unset, .unset, .unset] [(.double (own_dv ta)), (.double (own_dv ka)), (.ref bi5), (.ref bi5)])) rfl (by rw [hml]; rfl) bi5 [(.double (own_dv ka)), (.double (own_dv ta))] [(.ref bi5)] rfl (lenOf pd4 rfl) rfl (by show 2 * 0 + _ ≤ _; exact Nat.le_of_eq rfl) (hb hby at_38) (by decide) (by decide) ?_
  intro vi8 Ti8 Li8 hQi8 Xi8
  obtain ⟨rfl, Ni8, Ki8, Ei8_bi5, Fi8_bi5_cost, Fi8_bi5_tieCost⟩ := hQi8
  have Ni8 := Fr.app Ni7 Ni8
  have Zi8 : n0 ≤ Ti8.heap.size := Nat.le_trans Zi5 Ki8.1
  have Oi8 := Old.keep Oi5 Ki8 (allS ge_bi5 all0)
  have Ki8 := Keep.trans Ki5 Ki8 (allS (Or.inr sz0_bi5) all0)
  show Go p e below s _ _ (Ti8.setTop (mkF m 41 #[.val (.int p0), .val (.int p1), .val (.int p2), .val (.int p3), .val (.int ka), .val (.int ta), .val (.int kb), .val (.int tb), .unset, .unset, .unset] [(.ref bi5)]))
  refine Go.st (U := (Ti8.setTop (mkF m 43 #[.val (.int p0), .val (.int p1), .val (.int p2), .val (.int p3), .val (.int ka), .val (.int ta), .val (.int kb), .val (.int tb), .val (.ref bi5), .unset, .unset] []))) (fun t_ k_ => XS.astore Xi8.here hx rfl (hb hby at_41) rfl rfl (l' := #[.val (.int p0), .val (.int p1), .val (.int p2), .val (.int p3), .val (.int ka), .val (.int ta), .val (.int kb), .val (.int tb), .val (.ref bi5), .unset, .unset]) rfl k_) ?_
  obtain ⟨Ti9, hi9, Xi9, ei9, Gi9, Ai9, Di9, -, sti9⟩ := newO Xi8 hx hZ hown (hw _ (List.mem_of_getElem? (i := 4) rfl)) (hw _ (List.mem_of_getElem? (i := 5) rfl)) (hw _ (List.mem_of_getElem? (i := 6) rfl)) (rfl : Ti8.heap = Ti8.heap) (g := (mkF m 43 #[.val (.int p0), .val (.int p1), .val (.int p2), .val (.int p3), .val (.int ka), .val (.int ta), .val (.int kb), .val (.int tb), .val (.ref bi5), .unset, .unset] [])) rfl (hb hby at_43) (by decide) (by decide)
  obtain ⟨bi9, gi9⟩ : ∃ z, z = Ti8.heap.size := ⟨_, rfl⟩
  rw [← gi9] at Ai9 Di9 sti9
  have ge_bi9 : n0 ≤ bi9 := Nat.le_trans Zi8 (Nat.le_of_eq gi9.symm)
  have sz_bi9 : Ti8.heap.size ≤ bi9 := Nat.le_of_eq gi9.symm
  have sz0_bi9 : h0.size ≤ bi9 := Nat.le_trans (Keep.size_le Ki8) sz_bi9
  have ne_bi5_bi9 : bi5 ≠ bi9 := Nat.ne_of_lt (Nat.lt_of_lt_of_le (Exa.lt Ei8_bi5) sz_bi9)
  have Fi9_bi5_cost := Fld.ext Gi9 Fi8_bi5_cost
  have Fi9_bi5_tieCost := Fld.ext Gi9 Fi8_bi5_tieCost
  have Ei9_bi5 := Exa.ext Gi9 Ei8_bi5
  have Fi9_bi9_cost : Fld Z hi9 bi9 "com/example/lumenwatt/lumenwatt/routing/FirstFitRouting$Rank" "cost" "D" (.double 0) := Di9 (Or.inr (hw _ (List.mem_of_getElem? (i := 22) rfl))) (ty := .double) (by decide)
  have Fi9_bi9_tieCost : Fld Z hi9 bi9 "com/example/lumenwatt/lumenwatt/routing/FirstFitRouting$Rank" "tieCost" "D" (.double 0) := Di9 (Or.inr (hw _ (List.mem_of_getElem? (i := 24) rfl))) (ty := .double) (by decide)
  have Zi9 : n0 ≤ hi9.size := Nat.le_trans Zi8 Gi9.1
  have Oi9 := Old.ext Oi8 Gi9
  have Ki9 := Keep.ext Ki8 Gi9
  refine Go.st (U := (Ti9.setTop (mkF m 46 #[.val (.int p0), .val (.int p1), .val (.int p2), .val (.int p3), .val (.int ka), .val (.int ta), .val (.int kb), .val (.int tb), .val (.ref bi5), .unset, .unset] [(.ref bi9)]))) sti9 ?_
  refine Go.st (U := (Ti9.setTop (mkF m 47 #[.val (.int p0), .val (.int p1), .val (.int p2), .val (.int p3), .val (.int ka), .val (.int ta), .val (.int kb), .val (.int tb), .val (.ref bi5), .unset, .unset] [(.ref bi9), (.ref bi9)]))) (fun t_ k_ => XS.dup Xi9.here hx rfl (hb hby at_46) rfl rfl k_) ?_
  refine Go.st (U := (Ti9.setTop (mkF m 49 #[.val (.int p0), .val (.int p1), .val (.int p2), .val (.int p3), .val (.int ka), .val (.int ta), .val (.int kb), .val (.int tb), .val (.ref bi5), .unset, .unset] [(.int kb), (.ref bi9), (.ref bi9)]))) (fun t_ k_ => XS.iload Xi9.here hx rfl (hb hby at_47) rfl k_) ?_
  refine Go.callS Xi9 hx hZ hown (hw _ (List.mem_of_getElem? (i := 7) rfl)) (hw _ (List.mem_of_getElem? (i := 8) rfl)) (hw _ (List.mem_of_getElem? (i := 2) rfl)) (hw _ (List.mem_of_getElem? (i := 9) rfl)) (by decide) (rm_td l Z a0 hw [] kb g hi9 n0 Zi9 (Sta.ext Oi9.2 S0_NONE) (Fld.ext Oi9.2 F0_g_cost) (Exa.ext Oi9.2 E0_g)) ei9 2 (by decide) (by decide) (g := (mkF m 49 #[.val (.int p0), .val (.int p1), .val (.int p2), .val (.int p3), .val (.int ka), .val (.int ta), .val (.int kb), .val (.int tb), .val (.ref bi5), .unset, .unset] [(.int kb), (.ref bi9), (.ref bi9)])) rfl (by rw [hml]; rfl) [(.int kb)] [(.ref bi9), (.ref bi9)] rfl (lenOf pd3 rfl) rfl (by show 2 * 0 + _ ≤ _; exact Nat.le_of_eq rfl) (hb hby at_49) (by decide) (by decide) ?_
  intro vi10 Ti10 Li10 hQi10 Xi10
  obtain ⟨rfl, Ni10, ei10⟩ := hQi10
  have Ni10 := Fr.app Ni8 Ni10
  show Go p e below s _ _ (Ti10.setTop (mkF m 52 #[.val (.int p0), .val (.int p1), .val (.int p2), .val (.int p3), .val (.int ka), .val (.int ta), .val (.int kb), .val (.int tb), .val (.ref bi5), .unset, .unset] [(.double (own_dv kb)), (.ref bi9), (.ref bi9)]))
  refine Go.st (U := (Ti10.setTop (mkF m 54 #[.val (.int p0), .val (.int p1), .val (.int p2), .val (.int p3), .val (.int ka), .val (.int ta), .val (.int kb), .val (.int tb), .val (.ref bi5), .unset, .unset] [(.int tb), (.double (own_dv kb)), (.ref bi9), (.ref bi9)]))) (fun t_ k_ => XS.iload Xi10.here hx rfl (hb hby at_52) rfl k_) ?_
  refine Go.callS Xi10 hx hZ hown (hw _ (List.mem_of_getElem? (i := 7) rfl)) (hw _ (List.mem_of_getElem? (i := 8) rfl)) (hw _ (List.mem_of_getElem? (i := 2) rfl)) (hw _ (List.mem_of_getElem? (i := 9) rfl)) (by decide) (rm_td l Z a0 hw [] tb g hi9 n0 Zi9 (Sta.ext Oi9.2 S0_NONE) (Fld.ext Oi9.2 F0_g_cost) (Exa.ext Oi9.2 E0_g)) ei10 4 (by decide) (by decide) (g := (mkF m 54 #[.val (.int p0), .val (.int p1), .val (.int p2), .val (.int p3), .val (.int ka), .val (.int ta), .val (.int kb), .val (.int tb), .val (.ref bi5), .unset, .unset] [(.int tb), (.double (own_dv kb)), (.ref bi9), (.ref bi9)])) rfl (by rw [hml]; rfl) [(.int tb)] [(.double (own_dv kb)), (.ref bi9), (.ref bi9)] rfl (lenOf pd3 rfl) rfl (by show 2 * 0 + _ ≤ _; exact Nat.le_of_eq rfl) (hb hby at_54) (by decide) (by decide) ?_
  intro vi11 Ti11 Li11 hQi11 Xi11
  obtain ⟨rfl, Ni11, ei11⟩ := hQi11
  have Ni11 := Fr.app Ni10 Ni11
  show Go p e below s _ _ (Ti11.setTop (mkF m 57 #[.val (.int p0), .val (.int p1), .val (.int p2), .val (.int p3), .val (.int ka), .val (.int ta), .val (.int kb), .val (.int tb), .val (.ref bi5), .unset, .unset] [(.double (own_dv tb)), (.double (own_dv kb)), (.ref bi9), (.ref bi9)]))
  refine Go.callI Xi11 hx hZ hown rfl (hw _ (List.mem_of_getElem? (i := 10) rfl)) (hw _ (List.mem_of_getElem? (i := 11) rfl)) (hw _ (List.mem_of_getElem? (i := 6) rfl)) (hw _ (List.mem_of_getElem? (i := 12) rfl)) (by decide) (rm_rank l Z a0 hw [] bi9 (own_dv kb) (own_dv tb) (.double 0) (.double 0) hi9 n0 Zi9 Ai9 ge_bi9 Fi9_bi9_cost Fi9_bi9_tieCost) ei11 1 (by decide) (by decide) (g := (mkF m 57 #[.val (.int p0), .val (.int p1), .val (.int p2), .val (.int p3), .val (.int ka), .val (.int ta), .val (.int kb), .val (.int tb), .val (.ref bi5), .unset, .unset] [(.double (own_dv tb)), (.double (own_dv kb)), (.ref bi9), (.ref bi9)])) rfl (by rw [hml]; rfl) bi9 [(.double (own_dv kb)), (.double (own_dv tb))] [(.ref bi9)] rfl (lenOf pd4 rfl) rfl (by show 2 * 0 + _ ≤ _; exact Nat.le_of_eq rfl) (hb hby at_57) (by decide) (by decide) ?_
  intro vi12 Ti12 Li12 hQi12 Xi12
  obtain ⟨rfl, Ni12, Ki12, Ei12_bi9, Fi12_bi9_cost, Fi12_bi9_tieCost⟩ := hQi12
  have Ni12 := Fr.app Ni11 Ni12
  have Zi12 : n0 ≤ Ti12.heap.size := Nat.le_trans Zi9 Ki12.1
  have Oi12 := Old.keep Oi9 Ki12 (allS ge_bi9 all0)
  have Fi12_bi5_cost := Fld.keep Fi9_bi5_cost Ki12 (ninS ne_bi5_bi9 nin0)
  have Fi12_bi5_tieCost := Fld.keep Fi9_bi5_tieCost Ki12 (ninS ne_bi5_bi9 nin0)
  have Ei12_bi5 := Exa.keep Ei9_bi5 Ki12
  have Ki12 := Keep.trans Ki9 Ki12 (allS (Or.inr sz0_bi9) all0)
  show Go p e below s _ _ (Ti12.setTop (mkF m 60 #[.val (.int p0), .val (.int p1), .val (.int p2), .val (.int p3), .val (.int ka), .val (.int ta), .val (.int kb), .val (.int tb), .val (.ref bi5), .unset, .unset] [(.ref bi9)]))
  refine Go.st (U := (Ti12.setTop (mkF m 62 #[.val (.int p0), .val (.int p1), .val (.int p2), .val (.int p3), .val (.int ka), .val (.int ta), .val (.int kb), .val (.int tb), .val (.ref bi5), .val (.ref bi9), .unset] []))) (fun t_ k_ => XS.astore Xi12.here hx rfl (hb hby at_60) rfl rfl (l' := #[.val (.int p0), .val (.int p1), .val (.int p2), .val (.int p3), .val (.int ka), .val (.int ta), .val (.int kb), .val (.int tb), .val (.ref bi5), .val (.ref bi9), .unset]) rfl k_) ?_
  obtain ⟨H1, H2, H3, H4⟩ := own_res q_ka q_ta q_kb q_tb
  refine Go.st (U := (Ti12.setTop (mkF m 64 #[.val (.int p0), .val (.int p1), .val (.int p2), .val (.int p3), .val (.int ka), .val (.int ta), .val (.int kb), .val (.int tb), .val (.ref bi5), .val (.ref bi9), .unset] [(.int ka)]))) (fun t_ k_ => XS.iload Xi12.here hx rfl (hb hby at_62) rfl k_) ?_
  refine Go.st (U := (Ti12.setTop (mkF m 66 #[.val (.int p0), .val (.int p1), .val (.int p2), .val (.int p3), .val (.int ka), .val (.int ta), .val (.int kb), .val (.int tb), .val (.ref bi5), .val (.ref bi9), .unset] [(.int kb), (.int ka)]))) (fun t_ k_ => XS.iload Xi12.here hx rfl (hb hby at_64) rfl k_) ?_
  by_cases h66 : ka = kb
  · refine Go.st (U := (Ti12.setTop (mkF m 86 #[.val (.int p0), .val (.int p1), .val (.int p2), .val (.int p3), .val (.int ka), .val (.int ta), .val (.int kb), .val (.int tb), .val (.ref bi5), .val (.ref bi9), .unset] []))) (fun t_ k_ => XS.icmpYes Xi12.here hx rfl (pc0 := 66) (pc' := 86) rfl (hb hby at_66) rfl (teq h66).1 (by decide) (by decide) k_) ?_
    refine Go.st (U := (Ti12.setTop (mkF m 88 #[.val (.int p0), .val (.int p1), .val (.int p2), .val (.int p3), .val (.int ka), .val (.int ta), .val (.int kb), .val (.int tb), .val (.ref bi5), .val (.ref bi9), .unset] [(.int ta)]))) (fun t_ k_ => XS.iload Xi12.here hx rfl (hb hby at_86) rfl k_) ?_
    refine Go.st (U := (Ti12.setTop (mkF m 90 #[.val (.int p0), .val (.int p1), .val (.int p2), .val (.int p3), .val (.int ka), .val (.int ta), .val (.int kb), .val (.int tb), .val (.ref bi5), .val (.ref bi9), .unset] [(.int tb), (.int ta)]))) (fun t_ k_ => XS.iload Xi12.here hx rfl (hb hby at_88) rfl k_) ?_
    by_cases h90 : ta < tb
    · refine Go.st (U := (Ti12.setTop (mkF m 93 #[.val (.int p0), .val (.int p1), .val (.int p2), .val (.int p3), .val (.int ka), .val (.int ta), .val (.int kb), .val (.int tb), .val (.ref bi5), .val (.ref bi9), .unset] []))) (fun t_ k_ => XS.icmpNo Xi12.here hx rfl (hb hby at_90) rfl (tlt h90).2.1 k_) ?_
      refine Go.st (U := (Ti12.setTop (mkF m 94 #[.val (.int p0), .val (.int p1), .val (.int p2), .val (.int p3), .val (.int ka), .val (.int ta), .val (.int kb), .val (.int tb), .val (.ref bi5), .val (.ref bi9), .unset] [(.int (1 : Int32))]))) (fun t_ k_ => XS.iconst Xi12.here hx rfl (hb hby at_93) k_) ?_
      refine Go.st (U := (Ti12.setTop (mkF m 98 #[.val (.int p0), .val (.int p1), .val (.int p2), .val (.int p3), .val (.int ka), .val (.int ta), .val (.int kb), .val (.int tb), .val (.ref bi5), .val (.ref bi9), .unset] [(.int (1 : Int32))]))) (fun t_ k_ => XS.goto Xi12.here hx rfl (pc0 := 94) (pc' := 98) rfl (hb hby at_94) (by decide) (by decide) k_) ?_
      refine Go.st (U := (Ti12.setTop (mkF m 100 #[.val (.int p0), .val (.int p1), .val (.int p2), .val (.int p3), .val (.int ka), .val (.int ta), .val (.int kb), .val (.int tb), .val (.ref bi5), .val (.ref bi9), .val (.int (1 : Int32))] []))) (fun t_ k_ => XS.istore Xi12.here hx rfl (hb hby at_98) rfl (l' := #[.val (.int p0), .val (.int p1), .val (.int p2), .val (.int p3), .val (.int ka), .val (.int ta), .val (.int kb), .val (.int tb), .val (.ref bi5), .val (.ref bi9), .val (.int (1 : Int32))]) rfl k_) ?_
      refine Go.st (U := (Ti12.setTop (mkF m 102 #[.val (.int p0), .val (.int p1), .val (.int p2), .val (.int p3), .val (.int ka), .val (.int ta), .val (.int kb), .val (.int tb), .val (.ref bi5), .val (.ref bi9), .val (.int (1 : Int32))] [(.ref bi5)]))) (fun t_ k_ => XS.aload Xi12.here hx rfl (hb hby at_100) rfl rfl k_) ?_
      refine Go.st (U := (Ti12.setTop (mkF m 104 #[.val (.int p0), .val (.int p1), .val (.int p2), .val (.int p3), .val (.int ka), .val (.int ta), .val (.int kb), .val (.int tb), .val (.ref bi5), .val (.ref bi9), .val (.int (1 : Int32))] [(.ref bi9), (.ref bi5)]))) (fun t_ k_ => XS.aload Xi12.here hx rfl (hb hby at_102) rfl rfl k_) ?_
      refine Go.callV Xi12 hx hZ hown (hw _ (List.mem_of_getElem? (i := 25) rfl)) (hw _ (List.mem_of_getElem? (i := 26) rfl)) (hw _ (List.mem_of_getElem? (i := 28) rfl)) (hw _ (List.mem_of_getElem? (i := 27) rfl)) (hw _ (List.mem_of_getElem? (i := 6) rfl)) (hw _ (List.mem_of_getElem? (i := 29) rfl)) (by decide) (rm_bef l Z a0 hw [] bi5 bi9 (own_dv ka) (own_dv ta) (own_dv kb) (own_dv tb) Ti12.heap n0 Zi12 Fi12_bi5_cost Fi12_bi5_tieCost Fi12_bi9_cost Fi12_bi9_tieCost) (rfl : Ti12.heap = Ti12.heap) bi5 Ei12_bi5 0 (by decide) (by decide) (g := (mkF m 104 #[.val (.int p0), .val (.int p1), .val (.int p2), .val (.int p3), .val (.int ka), .val (.int ta), .val (.int kb), .val (.int tb), .val (.ref bi5), .val (.ref bi9), .val (.int (1 : Int32))] [(.ref bi9), (.ref bi5)])) rfl (by rw [hml]; rfl) [(.ref bi9)] [] rfl (lenOf pd5 rfl) rfl (by show 2 * 0 + _ ≤ _; exact Nat.le_of_eq rfl) (hb hby at_104) (by decide) (by decide) ?_
      intro vi13 Ti13 Li13 hQi13 Xi13
      obtain ⟨rfl, Ni13, ei13⟩ := hQi13
      have Ni13 := Fr.app Ni12 Ni13
      show Go p e below s _ _ (Ti13.setTop (mkF m 107 #[.val (.int p0), .val (.int p1), .val (.int p2), .val (.int p3), .val (.int ka), .val (.int ta), .val (.int kb), .val (.int tb), .val (.ref bi5), .val (.ref bi9), .val (.int (1 : Int32))] [(.int (own_bef (own_dv ka) (own_dv kb) (own_dv ta) (own_dv tb)))]))
      refine Go.st (U := (Ti13.setTop (mkF m 109 #[.val (.int p0), .val (.int p1), .val (.int p2), .val (.int p3), .val (.int ka), .val (.int ta), .val (.int kb), .val (.int tb), .val (.ref bi5), .val (.ref bi9), .val (.int (1 : Int32))] [(.int (1 : Int32)), (.int (own_bef (own_dv ka) (own_dv kb) (own_dv ta) (own_dv tb)))]))) (fun t_ k_ => XS.iload Xi13.here hx rfl (hb hby at_107) rfl k_) ?_
      refine Go.st (U := (Ti13.setTop (mkF m 112 #[.val (.int p0), .val (.int p1), .val (.int p2), .val (.int p3), .val (.int ka), .val (.int ta), .val (.int kb), .val (.int tb), .val (.ref bi5), .val (.ref bi9), .val (.int (1 : Int32))] []))) (fun t_ k_ => XS.icmpNo Xi13.here hx rfl (hb hby at_109) rfl (teq (H3 h66 h90)).2 k_) ?_
      refine Go.st (U := (Ti13.setTop (mkF m 113 #[.val (.int p0), .val (.int p1), .val (.int p2), .val (.int p3), .val (.int ka), .val (.int ta), .val (.int kb), .val (.int tb), .val (.ref bi5), .val (.ref bi9), .val (.int (1 : Int32))] [(.int (1 : Int32))]))) (fun t_ k_ => XS.iconst Xi13.here hx rfl (hb hby at_112) k_) ?_
      refine Go.st (U := (Ti13.setTop (mkF m 117 #[.val (.int p0), .val (.int p1), .val (.int p2), .val (.int p3), .val (.int ka), .val (.int ta), .val (.int kb), .val (.int tb), .val (.ref bi5), .val (.ref bi9), .val (.int (1 : Int32))] [(.int (1 : Int32))]))) (fun t_ k_ => XS.goto Xi13.here hx rfl (pc0 := 113) (pc' := 117) rfl (hb hby at_113) (by decide) (by decide) k_) ?_
      refine Go.retZ Xi13 hx hlk hret (hb hby at_117) (by decide) (by decide) ?_
      exact ⟨rfl, Ni13⟩
    · refine Go.st (U := (Ti12.setTop (mkF m 97 #[.val (.int p0), .val (.int p1), .val (.int p2), .val (.int p3), .val (.int ka), .val (.int ta), .val (.int kb), .val (.int tb), .val (.ref bi5), .val (.ref bi9), .unset] []))) (fun t_ k_ => XS.icmpYes Xi12.here hx rfl (pc0 := 90) (pc' := 97) rfl (hb hby at_90) rfl (flt h90).2.1 (by decide) (by decide) k_) ?_
      refine Go.st (U := (Ti12.setTop (mkF m 98 #[.val (.int p0), .val (.int p1), .val (.int p2), .val (.int p3), .val (.int ka), .val (.int ta), .val (.int kb), .val (.int tb), .val (.ref bi5), .val (.ref bi9), .unset] [(.int (0 : Int32))]))) (fun t_ k_ => XS.iconst Xi12.here hx rfl (hb hby at_97) k_) ?_
      refine Go.st (U := (Ti12.setTop (mkF m 100 #[.val (.int p0), .val (.int p1), .val (.int p2), .val (.int p3), .val (.int ka), .val (.int ta), .val (.int kb), .val (.int tb), .val (.ref bi5), .val (.ref bi9), .val (.int (0 : Int32))] []))) (fun t_ k_ => XS.istore Xi12.here hx rfl (hb hby at_98) rfl (l' := #[.val (.int p0), .val (.int p1), .val (.int p2), .val (.int p3), .val (.int ka), .val (.int ta), .val (.int kb), .val (.int tb), .val (.ref bi5), .val (.ref bi9), .val (.int (0 : Int32))]) rfl k_) ?_
      refine Go.st (U := (Ti12.setTop (mkF m 102 #[.val (.int p0), .val (.int p1), .val (.int p2), .val (.int p3), .val (.int ka), .val (.int ta), .val (.int kb), .val (.int tb), .val (.ref bi5), .val (.ref bi9), .val (.int (0 : Int32))] [(.ref bi5)]))) (fun t_ k_ => XS.aload Xi12.here hx rfl (hb hby at_100) rfl rfl k_) ?_
      refine Go.st (U := (Ti12.setTop (mkF m 104 #[.val (.int p0), .val (.int p1), .val (.int p2), .val (.int p3), .val (.int ka), .val (.int ta), .val (.int kb), .val (.int tb), .val (.ref bi5), .val (.ref bi9), .val (.int (0 : Int32))] [(.ref bi9), (.ref bi5)]))) (fun t_ k_ => XS.aload Xi12.here hx rfl (hb hby at_102) rfl rfl k_) ?_
      refine Go.callV Xi12 hx hZ hown (hw _ (List.mem_of_getElem? (i := 25) rfl)) (hw _ (List.mem_of_getElem? (i := 26) rfl)) (hw _ (List.mem_of_getElem? (i := 28) rfl)) (hw _ (List.mem_of_getElem? (i := 27) rfl)) (hw _ (List.mem_of_getElem? (i := 6) rfl)) (hw _ (List.mem_of_getElem? (i := 29) rfl)) (by decide) (rm_bef l Z a0 hw [] bi5 bi9 (own_dv ka) (own_dv ta) (own_dv kb) (own_dv tb) Ti12.heap n0 Zi12 Fi12_bi5_cost Fi12_bi5_tieCost Fi12_bi9_cost Fi12_bi9_tieCost) (rfl : Ti12.heap = Ti12.heap) bi5 Ei12_bi5 0 (by decide) (by decide) (g := (mkF m 104 #[.val (.int p0), .val (.int p1), .val (.int p2), .val (.int p3), .val (.int ka), .val (.int ta), .val (.int kb), .val (.int tb), .val (.ref bi5), .val (.ref bi9), .val (.int (0 : Int32))] [(.ref bi9), (.ref bi5)])) rfl (by rw [hml]; rfl) [(.ref bi9)] [] rfl (lenOf pd5 rfl) rfl (by show 2 * 0 + _ ≤ _; exact Nat.le_of_eq rfl) (hb hby at_104) (by decide) (by decide) ?_
      intro vi14 Ti14 Li14 hQi14 Xi14
      obtain ⟨rfl, Ni14, ei14⟩ := hQi14
      have Ni14 := Fr.app Ni12 Ni14
      show Go p e below s _ _ (Ti14.setTop (mkF m 107 #[.val (.int p0), .val (.int p1), .val (.int p2), .val (.int p3), .val (.int ka), .val (.int ta), .val (.int kb), .val (.int tb), .val (.ref bi5), .val (.ref bi9), .val (.int (0 : Int32))] [(.int (own_bef (own_dv ka) (own_dv kb) (own_dv ta) (own_dv tb)))]))
      refine Go.st (U := (Ti14.setTop (mkF m 109 #[.val (.int p0), .val (.int p1), .val (.int p2), .val (.int p3), .val (.int ka), .val (.int ta), .val (.int kb), .val (.int tb), .val (.ref bi5), .val (.ref bi9), .val (.int (0 : Int32))] [(.int (0 : Int32)), (.int (own_bef (own_dv ka) (own_dv kb) (own_dv ta) (own_dv tb)))]))) (fun t_ k_ => XS.iload Xi14.here hx rfl (hb hby at_107) rfl k_) ?_
      refine Go.st (U := (Ti14.setTop (mkF m 112 #[.val (.int p0), .val (.int p1), .val (.int p2), .val (.int p3), .val (.int ka), .val (.int ta), .val (.int kb), .val (.int tb), .val (.ref bi5), .val (.ref bi9), .val (.int (0 : Int32))] []))) (fun t_ k_ => XS.icmpNo Xi14.here hx rfl (hb hby at_109) rfl (teq (H4 h66 h90)).2 k_) ?_
      refine Go.st (U := (Ti14.setTop (mkF m 113 #[.val (.int p0), .val (.int p1), .val (.int p2), .val (.int p3), .val (.int ka), .val (.int ta), .val (.int kb), .val (.int tb), .val (.ref bi5), .val (.ref bi9), .val (.int (0 : Int32))] [(.int (1 : Int32))]))) (fun t_ k_ => XS.iconst Xi14.here hx rfl (hb hby at_112) k_) ?_
      refine Go.st (U := (Ti14.setTop (mkF m 117 #[.val (.int p0), .val (.int p1), .val (.int p2), .val (.int p3), .val (.int ka), .val (.int ta), .val (.int kb), .val (.int tb), .val (.ref bi5), .val (.ref bi9), .val (.int (0 : Int32))] [(.int (1 : Int32))]))) (fun t_ k_ => XS.goto Xi14.here hx rfl (pc0 := 113) (pc' := 117) rfl (hb hby at_113) (by decide) (by decide) k_) ?_
      refine Go.retZ Xi14 hx hlk hret (hb hby at_117) (by decide) (by decide) ?_
      exact ⟨rfl, Ni14⟩
  · refine Go.st (U := (Ti12.setTop (mkF m 69 #[.val (.int p0), .val (.int p1), .val (.int p2), .val (.int p3), .val (.int ka), .val (.int ta), .val (.int kb), .val (.int tb), .val (.ref bi5), .val (.ref bi9), .unset] []))) (fun t_ k_ => XS.icmpNo Xi12.here hx rfl (hb hby at_66) rfl (feq h66).1 k_) ?_
    refine Go.st (U := (Ti12.setTop (mkF m 71 #[.val (.int p0), .val (.int p1), .val (.int p2), .val (.int p3), .val (.int ka), .val (.int ta), .val (.int kb), .val (.int tb), .val (.ref bi5), .val (.ref bi9), .unset] [(.int ka)]))) (fun t_ k_ => XS.iload Xi12.here hx rfl (hb hby at_69) rfl k_) ?_
    refine Go.st (U := (Ti12.setTop (mkF m 73 #[.val (.int p0), .val (.int p1), .val (.int p2), .val (.int p3), .val (.int ka), .val (.int ta), .val (.int kb), .val (.int tb), .val (.ref bi5), .val (.ref bi9), .unset] [(.int kb), (.int ka)]))) (fun t_ k_ => XS.iload Xi12.here hx rfl (hb hby at_71) rfl k_) ?_
    by_cases h73 : ka < kb
    · refine Go.st (U := (Ti12.setTop (mkF m 76 #[.val (.int p0), .val (.int p1), .val (.int p2), .val (.int p3), .val (.int ka), .val (.int ta), .val (.int kb), .val (.int tb), .val (.ref bi5), .val (.ref bi9), .unset] []))) (fun t_ k_ => XS.icmpNo Xi12.here hx rfl (hb hby at_73) rfl (tlt h73).2.1 k_) ?_
      refine Go.st (U := (Ti12.setTop (mkF m 77 #[.val (.int p0), .val (.int p1), .val (.int p2), .val (.int p3), .val (.int ka), .val (.int ta), .val (.int kb), .val (.int tb), .val (.ref bi5), .val (.ref bi9), .unset] [(.int (1 : Int32))]))) (fun t_ k_ => XS.iconst Xi12.here hx rfl (hb hby at_76) k_) ?_
      refine Go.st (U := (Ti12.setTop (mkF m 81 #[.val (.int p0), .val (.int p1), .val (.int p2), .val (.int p3), .val (.int ka), .val (.int ta), .val (.int kb), .val (.int tb), .val (.ref bi5), .val (.ref bi9), .unset] [(.int (1 : Int32))]))) (fun t_ k_ => XS.goto Xi12.here hx rfl (pc0 := 77) (pc' := 81) rfl (hb hby at_77) (by decide) (by decide) k_) ?_
      refine Go.st (U := (Ti12.setTop (mkF m 83 #[.val (.int p0), .val (.int p1), .val (.int p2), .val (.int p3), .val (.int ka), .val (.int ta), .val (.int kb), .val (.int tb), .val (.ref bi5), .val (.ref bi9), .val (.int (1 : Int32))] []))) (fun t_ k_ => XS.istore Xi12.here hx rfl (hb hby at_81) rfl (l' := #[.val (.int p0), .val (.int p1), .val (.int p2), .val (.int p3), .val (.int ka), .val (.int ta), .val (.int kb), .val (.int tb), .val (.ref bi5), .val (.ref bi9), .val (.int (1 : Int32))]) rfl k_) ?_
      refine Go.st (U := (Ti12.setTop (mkF m 100 #[.val (.int p0), .val (.int p1), .val (.int p2), .val (.int p3), .val (.int ka), .val (.int ta), .val (.int kb), .val (.int tb), .val (.ref bi5), .val (.ref bi9), .val (.int (1 : Int32))] []))) (fun t_ k_ => XS.goto Xi12.here hx rfl (pc0 := 83) (pc' := 100) rfl (hb hby at_83) (by decide) (by decide) k_) ?_
      refine Go.st (U := (Ti12.setTop (mkF m 102 #[.val (.int p0), .val (.int p1), .val (.int p2), .val (.int p3), .val (.int ka), .val (.int ta), .val (.int kb), .val (.int tb), .val (.ref bi5), .val (.ref bi9), .val (.int (1 : Int32))] [(.ref bi5)]))) (fun t_ k_ => XS.aload Xi12.here hx rfl (hb hby at_100) rfl rfl k_) ?_
      refine Go.st (U := (Ti12.setTop (mkF m 104 #[.val (.int p0), .val (.int p1), .val (.int p2), .val (.int p3), .val (.int ka), .val (.int ta), .val (.int kb), .val (.int tb), .val (.ref bi5), .val (.ref bi9), .val (.int (1 : Int32))] [(.ref bi9), (.ref bi5)]))) (fun t_ k_ => XS.aload Xi12.here hx rfl (hb hby at_102) rfl rfl k_) ?_
      refine Go.callV Xi12 hx hZ hown (hw _ (List.mem_of_getElem? (i := 25) rfl)) (hw _ (List.mem_of_getElem? (i := 26) rfl)) (hw _ (List.mem_of_getElem? (i := 28) rfl)) (hw _ (List.mem_of_getElem? (i := 27) rfl)) (hw _ (List.mem_of_getElem? (i := 6) rfl)) (hw _ (List.mem_of_getElem? (i := 29) rfl)) (by decide) (rm_bef l Z a0 hw [] bi5 bi9 (own_dv ka) (own_dv ta) (own_dv kb) (own_dv tb) Ti12.heap n0 Zi12 Fi12_bi5_cost Fi12_bi5_tieCost Fi12_bi9_cost Fi12_bi9_tieCost) (rfl : Ti12.heap = Ti12.heap) bi5 Ei12_bi5 0 (by decide) (by decide) (g := (mkF m 104 #[.val (.int p0), .val (.int p1), .val (.int p2), .val (.int p3), .val (.int ka), .val (.int ta), .val (.int kb), .val (.int tb), .val (.ref bi5), .val (.ref bi9), .val (.int (1 : Int32))] [(.ref bi9), (.ref bi5)])) rfl (by rw [hml]; rfl) [(.ref bi9)] [] rfl (lenOf pd5 rfl) rfl (by show 2 * 0 + _ ≤ _; exact Nat.le_of_eq rfl) (hb hby at_104) (by decide) (by decide) ?_
      intro vi15 Ti15 Li15 hQi15 Xi15
      obtain ⟨rfl, Ni15, ei15⟩ := hQi15
      have Ni15 := Fr.app Ni12 Ni15
      show Go p e below s _ _ (Ti15.setTop (mkF m 107 #[.val (.int p0), .val (.int p1), .val (.int p2), .val (.int p3), .val (.int ka), .val (.int ta), .val (.int kb), .val (.int tb), .val (.ref bi5), .val (.ref bi9), .val (.int (1 : Int32))] [(.int (own_bef (own_dv ka) (own_dv kb) (own_dv ta) (own_dv tb)))]))
      refine Go.st (U := (Ti15.setTop (mkF m 109 #[.val (.int p0), .val (.int p1), .val (.int p2), .val (.int p3), .val (.int ka), .val (.int ta), .val (.int kb), .val (.int tb), .val (.ref bi5), .val (.ref bi9), .val (.int (1 : Int32))] [(.int (1 : Int32)), (.int (own_bef (own_dv ka) (own_dv kb) (own_dv ta) (own_dv tb)))]))) (fun t_ k_ => XS.iload Xi15.here hx rfl (hb hby at_107) rfl k_) ?_
      refine Go.st (U := (Ti15.setTop (mkF m 112 #[.val (.int p0), .val (.int p1), .val (.int p2), .val (.int p3), .val (.int ka), .val (.int ta), .val (.int kb), .val (.int tb), .val (.ref bi5), .val (.ref bi9), .val (.int (1 : Int32))] []))) (fun t_ k_ => XS.icmpNo Xi15.here hx rfl (hb hby at_109) rfl (teq (H1 h66 h73)).2 k_) ?_
      refine Go.st (U := (Ti15.setTop (mkF m 113 #[.val (.int p0), .val (.int p1), .val (.int p2), .val (.int p3), .val (.int ka), .val (.int ta), .val (.int kb), .val (.int tb), .val (.ref bi5), .val (.ref bi9), .val (.int (1 : Int32))] [(.int (1 : Int32))]))) (fun t_ k_ => XS.iconst Xi15.here hx rfl (hb hby at_112) k_) ?_
      refine Go.st (U := (Ti15.setTop (mkF m 117 #[.val (.int p0), .val (.int p1), .val (.int p2), .val (.int p3), .val (.int ka), .val (.int ta), .val (.int kb), .val (.int tb), .val (.ref bi5), .val (.ref bi9), .val (.int (1 : Int32))] [(.int (1 : Int32))]))) (fun t_ k_ => XS.goto Xi15.here hx rfl (pc0 := 113) (pc' := 117) rfl (hb hby at_113) (by decide) (by decide) k_) ?_
      refine Go.retZ Xi15 hx hlk hret (hb hby at_117) (by decide) (by decide) ?_
      exact ⟨rfl, Ni15⟩
    · refine Go.st (U := (Ti12.setTop (mkF m 80 #[.val (.int p0), .val (.int p1), .val (.int p2), .val (.int p3), .val (.int ka), .val (.int ta), .val (.int kb), .val (.int tb), .val (.ref bi5), .val (.ref bi9), .unset] []))) (fun t_ k_ => XS.icmpYes Xi12.here hx rfl (pc0 := 73) (pc' := 80) rfl (hb hby at_73) rfl (flt h73).2.1 (by decide) (by decide) k_) ?_
      refine Go.st (U := (Ti12.setTop (mkF m 81 #[.val (.int p0), .val (.int p1), .val (.int p2), .val (.int p3), .val (.int ka), .val (.int ta), .val (.int kb), .val (.int tb), .val (.ref bi5), .val (.ref bi9), .unset] [(.int (0 : Int32))]))) (fun t_ k_ => XS.iconst Xi12.here hx rfl (hb hby at_80) k_) ?_
      refine Go.st (U := (Ti12.setTop (mkF m 83 #[.val (.int p0), .val (.int p1), .val (.int p2), .val (.int p3), .val (.int ka), .val (.int ta), .val (.int kb), .val (.int tb), .val (.ref bi5), .val (.ref bi9), .val (.int (0 : Int32))] []))) (fun t_ k_ => XS.istore Xi12.here hx rfl (hb hby at_81) rfl (l' := #[.val (.int p0), .val (.int p1), .val (.int p2), .val (.int p3), .val (.int ka), .val (.int ta), .val (.int kb), .val (.int tb), .val (.ref bi5), .val (.ref bi9), .val (.int (0 : Int32))]) rfl k_) ?_
      refine Go.st (U := (Ti12.setTop (mkF m 100 #[.val (.int p0), .val (.int p1), .val (.int p2), .val (.int p3), .val (.int ka), .val (.int ta), .val (.int kb), .val (.int tb), .val (.ref bi5), .val (.ref bi9), .val (.int (0 : Int32))] []))) (fun t_ k_ => XS.goto Xi12.here hx rfl (pc0 := 83) (pc' := 100) rfl (hb hby at_83) (by decide) (by decide) k_) ?_
      refine Go.st (U := (Ti12.setTop (mkF m 102 #[.val (.int p0), .val (.int p1), .val (.int p2), .val (.int p3), .val (.int ka), .val (.int ta), .val (.int kb), .val (.int tb), .val (.ref bi5), .val (.ref bi9), .val (.int (0 : Int32))] [(.ref bi5)]))) (fun t_ k_ => XS.aload Xi12.here hx rfl (hb hby at_100) rfl rfl k_) ?_
      refine Go.st (U := (Ti12.setTop (mkF m 104 #[.val (.int p0), .val (.int p1), .val (.int p2), .val (.int p3), .val (.int ka), .val (.int ta), .val (.int kb), .val (.int tb), .val (.ref bi5), .val (.ref bi9), .val (.int (0 : Int32))] [(.ref bi9), (.ref bi5)]))) (fun t_ k_ => XS.aload Xi12.here hx rfl (hb hby at_102) rfl rfl k_) ?_
      refine Go.callV Xi12 hx hZ hown (hw _ (List.mem_of_getElem? (i := 25) rfl)) (hw _ (List.mem_of_getElem? (i := 26) rfl)) (hw _ (List.mem_of_getElem? (i := 28) rfl)) (hw _ (List.mem_of_getElem? (i := 27) rfl)) (hw _ (List.mem_of_getElem? (i := 6) rfl)) (hw _ (List.mem_of_getElem? (i := 29) rfl)) (by decide) (rm_bef l Z a0 hw [] bi5 bi9 (own_dv ka) (own_dv ta) (own_dv kb) (own_dv tb) Ti12.heap n0 Zi12 Fi12_bi5_cost Fi12_bi5_tieCost Fi12_bi9_cost Fi12_bi9_tieCost) (rfl : Ti12.heap = Ti12.heap) bi5 Ei12_bi5 0 (by decide) (by decide) (g := (mkF m 104 #[.val (.int p0), .val (.int p1), .val (.int p2), .val (.int p3), .val (.int ka), .val (.int ta), .val (.int kb), .val (.int tb), .val (.ref bi5), .val (.ref bi9), .val (.int (0 : Int32))] [(.ref bi9), (.ref bi5)])) rfl (by rw [hml]; rfl) [(.ref bi9)] [] rfl (lenOf pd5 rfl) rfl (by show 2 * 0 + _ ≤ _; exact Nat.le_of_eq rfl) (hb hby at_104) (by decide) (by decide) ?_
      intro vi16 Ti16 Li16 hQi16 Xi16
      obtain ⟨rfl, Ni16, ei16⟩ := hQi16
      have Ni16 := Fr.app Ni12 Ni16
      show Go p e below s _ _ (Ti16.setTop (mkF m 107 #[.val (.int p0), .val (.int p1), .val (.int p2), .val (.int p3), .val (.int ka), .val (.int ta), .val (.int kb), .val (.int tb), .val (.ref bi5), .val (.ref bi9), .val (.int (0 : Int32))] [(.int (own_bef (own_dv ka) (own_dv kb) (own_dv ta) (own_dv tb)))]))
      refine Go.st (U := (Ti16.setTop (mkF m 109 #[.val (.int p0), .val (.int p1), .val (.int p2), .val (.int p3), .val (.int ka), .val (.int ta), .val (.int kb), .val (.int tb), .val (.ref bi5), .val (.ref bi9), .val (.int (0 : Int32))] [(.int (0 : Int32)), (.int (own_bef (own_dv ka) (own_dv kb) (own_dv ta) (own_dv tb)))]))) (fun t_ k_ => XS.iload Xi16.here hx rfl (hb hby at_107) rfl k_) ?_
      refine Go.st (U := (Ti16.setTop (mkF m 112 #[.val (.int p0), .val (.int p1), .val (.int p2), .val (.int p3), .val (.int ka), .val (.int ta), .val (.int kb), .val (.int tb), .val (.ref bi5), .val (.ref bi9), .val (.int (0 : Int32))] []))) (fun t_ k_ => XS.icmpNo Xi16.here hx rfl (hb hby at_109) rfl (teq (H2 h66 h73)).2 k_) ?_
      refine Go.st (U := (Ti16.setTop (mkF m 113 #[.val (.int p0), .val (.int p1), .val (.int p2), .val (.int p3), .val (.int ka), .val (.int ta), .val (.int kb), .val (.int tb), .val (.ref bi5), .val (.ref bi9), .val (.int (0 : Int32))] [(.int (1 : Int32))]))) (fun t_ k_ => XS.iconst Xi16.here hx rfl (hb hby at_112) k_) ?_
      refine Go.st (U := (Ti16.setTop (mkF m 117 #[.val (.int p0), .val (.int p1), .val (.int p2), .val (.int p3), .val (.int ka), .val (.int ta), .val (.int kb), .val (.int tb), .val (.ref bi5), .val (.ref bi9), .val (.int (0 : Int32))] [(.int (1 : Int32))]))) (fun t_ k_ => XS.goto Xi16.here hx rfl (pc0 := 113) (pc' := 117) rfl (hb hby at_113) (by decide) (by decide) k_) ?_
      refine Go.retZ Xi16 hx hlk hret (hb hby at_117) (by decide) (by decide) ?_
      exact ⟨rfl, Ni16⟩
set_option maxRecDepth 65536 in
set_option maxHeartbeats 40000000 in
theorem comes_1 {Post : Tables → Env → Array Value → State → Outcome → State → Prop} (hpost : ∀ tb e args s v u, (limb_1_1.after args s (.returned v) u = true ∧ limb_1_2.after args s (.returned v) u = true ∧ True) → FrameEnd s (.returned v) u (Jvm.fieldLocs frame_1_writes args s ++ Jvm.arrayLocs frame_1_arrays args s ++ Jvm.staticLocs frame_1_statics s) 16 128 → Post tb e args s (.returned v) u) :
    ArmFor flags0 classFile x code maxLocals ret World_1 tables_1 room_1 Calls_1 rest_1 Pre_1 Post := by
  intro l hfl _ _ p e ha hc hk s m args below hf hA hF happ hP
  obtain ⟨hcalls, hrest, hpre⟩ := hP
  obtain ⟨-, -, -, hnamed, -, -, -, hat⟩ := (Spec.applies_iff hf).mp happ
  obtain ⟨hg, hn⟩ := and_e (Cond.before_iff.mp (show (Jvm.Cond.and given_1 narrow_1).before args s = true from hpre))
  obtain ⟨hcnt, k0⟩ := and_e hg
  obtain ⟨j0, k1⟩ := and_e k0
  obtain ⟨j1, k2⟩ := and_e k1
  obtain ⟨j2, k3⟩ := and_e k2
  have j3 := k3
  obtain ⟨w0, w1, w2, w3, rfl⟩ : ∃ w0 w1 w2 w3 : Value, args = #[w0, w1, w2, w3] := by
    have hs : args.size = 4 := by simpa [Cond.value, given_1] using hcnt
    obtain ⟨L⟩ := args
    match L, hs with
    | [w0, w1, w2, w3], _ => exact ⟨w0, w1, w2, w3, rfl⟩
  have hw := fun d (hd : d ∈ tables_1) => atoms_spec (ws := Jvm.Cond.code x code maxLocals ret :: tables_1) hat d (List.mem_cons_of_mem _ hd)
  have hfit : Fit s := fun {y c} hc i hi => by
    obtain ⟨ha, rfl⟩ := Array.getElem?_eq_some_iff.mp hc
    have q := List.all_eq_true.mp ((Array.all_eq_true_iff_forall_mem.mp hF) _ (Array.getElem_mem ha)) i (List.mem_range.mpr hi)
    simpa [Array.getElem?_eq_getElem hi] using q
  obtain ⟨i0, e0⟩ := is_v j0
  obtain rfl : w0 = (.int i0) := Option.some.inj e0
  obtain ⟨i1, e1⟩ := is_v j1
  obtain rfl : w1 = (.int i1) := Option.some.inj e1
  obtain ⟨i2, e2⟩ := is_v j2
  obtain rfl : w2 = (.int i2) := Option.some.inj e2
  obtain ⟨i3, e3⟩ := is_v j3
  obtain rfl : w3 = (.int i3) := Option.some.inj e3
  obtain ⟨n1, n2⟩ := and_e hn
  obtain ⟨rr, en, -⟩ : ∃ rr, (Jvm.Term.static "com/example/lumenwatt/lumenwatt/routing/FirstFitRouting$Rank" "NONE" "Lcom/example/lumenwatt/lumenwatt/routing/FirstFitRouting$Rank;").eval #[.int i0, .int i1, .int i2, .int i3] s none [] s = some (.ref rr) ∧ True := by
    obtain ⟨a', c', cell, k, e1, -⟩ := Cond.exactly_spec (Cond.before_iff.mpr n1)
    exact ⟨a', e1, trivial⟩
  have S0 : Sta s s.heap "com/example/lumenwatt/lumenwatt/routing/FirstFitRouting$Rank" "NONE" "Lcom/example/lumenwatt/lumenwatt/routing/FirstFitRouting$Rank;" (.ref rr) := Sta.start en (Or.inr ⟨hw _ (List.mem_of_getElem? (i := 6) rfl), hw _ (List.mem_of_getElem? (i := 31) rfl)⟩)
  have E0 : Exa s s.heap rr "com/example/lumenwatt/lumenwatt/routing/FirstFitRouting$Rank" := Exa.start en n1
  have F0 : Fld s s.heap rr "com/example/lumenwatt/lumenwatt/routing/FirstFitRouting$Rank" "cost" "D" (.double (9218868437227405312 : UInt64)) := by
    refine Fld.start ?_
    have q := n2
    simp only [Cond.value, Term.eval] at q en
    simp only [en] at q
    cases hq : s.fieldOf? rr "com/example/lumenwatt/lumenwatt/routing/FirstFitRouting$Rank" "cost" "D" with
    | none => simp [hq] at q
    | some v =>
      cases v <;> simp [hq, Unary.apply] at q
      rw [q]; rfl
  obtain ⟨n, o, h1, h2, h3, _, L, rfl, ⟨rfl, N⟩, hq⟩ := rm_law l s _ hw tables_1 i0 i1 i2 i3 rr s.heap s.heap.size (Nat.le_refl _) (Old.start s) S0 F0 E0 p e ha hc hk s m _ below hf ((Spec.applies_iff_loose hf).mp happ).1 ⟨rfl, State.Warmed39.refl s, rfl⟩ trivial
  refine ⟨n, _, h1, h2, h3, hpost _ _ _ _ _ _ ⟨Cond.after_iff.mpr rfl, Cond.after_iff.mpr (eq_i res_at (Term.int_eval (1)) rfl), trivial⟩ ⟨hq.1, hq.2.1, (hq.2.2.sift fun y hy => Or.inr (N y hy)).mono (by decide) (by decide)⟩⟩
theorem main_1_1 : Claimed_1_1 := comes_1 fun _ _ _ _ _ _ h hF => ⟨h.1, hF⟩
theorem main_1_2 : Claimed_1_2 := comes_1 fun _ _ _ _ _ _ h hF => ⟨h.2.1, hF⟩
end Jvm.Pilot.@@N@@
namespace Jvm.Pilot.@@N@@
open Jvm Jvm.ClassFile Sem Op Lib Jvm.Free Jvm.Stand Jvm.Pilot.@@N@@.Jvm.D
/-! MADE BY PROGRAM (witnessworld.py) out of the Statement's table words and the real class files: 10 classes; the members and pool entries that the words name. The judged class is class 1, her method 1. -/
namespace start1
open Jvm.ClassFile
def u (s : String) : CpInfo := .utf8 (stringToUtf16 s)
/-- a pool by its gaps: so many unusable entries, then the entry; so many at the end -/
def gap : Nat → List CpInfo → List CpInfo
  | 0, r => r
  | n + 1, r => .unusable :: gap n r
def poolList (es : List (Nat × CpInfo)) (last : Nat) : List CpInfo := es.foldr (fun e r => gap e.1 (e.2 :: r)) (gap last [])
def pool (es : List (Nat × CpInfo)) (last : Nat) : Array CpInfo := ⟨poolList es last⟩
def fileOf (pool : Array CpInfo) (this : Nat) (attrs : Array Attribute := #[]) (ms : Array MethodInfo := #[]) (fl : Nat := 33) (sup : Nat := 0) (ifs : Array Nat := #[]) (fds : Array FieldInfo := #[]) : ClassFile where
  minorVersion := 0
  majorVersion := 65
  constantPool := pool
  accessFlags := fl
  thisClass := this
  superClass := sup
  interfaces := ifs
  fields := fds
  methods := ms
  attributes := attrs
def plain (name : String) (sup : Option ClassId) : Class where
  name := name
  kind := .ordinary
  loader := none
  accessFlags := 33
  super := sup
  interfaces := #[]
  cf := none
  fields := #[]
  methods := #[]
  instanceTypes := #[]
  staticTypes := #[]
  resolved := #[]
  callSites := []
  init := .initialized
  statics := none
  mirror := none

def pool0 : Array CpInfo := pool [(5, u "<init>"), (0, u "()V"), (1, .class_ 10), (1, u "java/lang/Object")] 113

def k0c0 : Code := { maxStack := 0, maxLocals := 1, code := object_method_1_code, exceptionTable := #[], attributes := #[] }
def k0m0 : Method := { name := "<init>", desc := "()V", sig := { parameters := [], returnType := none }, accessFlags := 1, code := some k0c0 }
/-- java/lang/Object -/
def k0 : Class := { plain "java/lang/Object" none with
  accessFlags := 33
  interfaces := #[]
  cf := some (fileOf pool0 8 #[] #[{ accessFlags := 1, nameIndex := 5, descriptorIndex := 6, attributes := #[] }] 33 0 #[] #[])
  fields := #[]
  methods := #[k0m0]
  instanceTypes := #[]
  staticTypes := #[]
  resolved := Array.replicate 124 none
  statics := none }

def pool1 : Array CpInfo := pool [(2, .class_ 4), (1, u "java/lang/Object"), (0, u "<init>"), (0, u "()V"), (0, .methodref 8 9), (0, .class_ 10), (0, .nameAndType 11 12), (0, u "com/example/lumenwatt/lumenwatt/routing/RankIsBeforePinLaw"), (0, u "key"), (0, u "(I)I"), (0, .class_ 14), (0, u "com/example/lumenwatt/lumenwatt/routing/FirstFitRouting$Rank"), (0, .methodref 8 16), (0, .nameAndType 17 18), (0, u "toDouble"), (0, u "(I)D"), (0, .methodref 13 20), (0, .nameAndType 5 21), (0, u "(DD)V"), (0, .methodref 13 23), (0, .nameAndType 24 25), (0, u "isBefore"), (0, u "(Lcom/example/lumenwatt/lumenwatt/routing/FirstFitRouting$Rank;)Z"), (0, .fieldref 13 27), (0, .nameAndType 28 29), (0, u "NONE"), (0, u "Lcom/example/lumenwatt/lumenwatt/routing/FirstFitRouting$Rank;"), (0, .methodref 13 31), (0, .nameAndType 32 33), (0, u "cost"), (0, u "()D"), (2, u "law"), (0, u "(IIII)Z")] 7

def k1m0 : Method := { name := "<init>", desc := "()V", sig := { parameters := [], returnType := none }, accessFlags := 1, code := none }
def k1c1 : Code := { maxStack := 6, maxLocals := 11, code := code, exceptionTable := #[], attributes := #[] }
def k1m1 : Method := { name := "law", desc := "(IIII)Z", sig := { parameters := [.int, .int, .int, .int], returnType := some .boolean }, accessFlags := 9, code := some k1c1 }
def k1c2 : Code := { maxStack := 2, maxLocals := 1, code := method_3_code, exceptionTable := #[], attributes := #[] }
def k1m2 : Method := { name := "key", desc := "(I)I", sig := { parameters := [.int], returnType := some .int }, accessFlags := 10, code := some k1c2 }
def k1c3 : Code := { maxStack := 2, maxLocals := 1, code := method_4_code, exceptionTable := #[], attributes := #[] }
def k1m3 : Method := { name := "toDouble", desc := "(I)D", sig := { parameters := [.int], returnType := some .double }, accessFlags := 10, code := some k1c3 }
/-- com/example/lumenwatt/lumenwatt/routing/RankIsBeforePinLaw -/
def k1 : Class := { plain "com/example/lumenwatt/lumenwatt/routing/RankIsBeforePinLaw" (some 0) with
  accessFlags := 49
  interfaces := #[]
  cf := some (fileOf pool1 8 #[] #[{ accessFlags := 1, nameIndex := 5, descriptorIndex := 6, attributes := #[] }, { accessFlags := 9, nameIndex := 36, descriptorIndex := 37, attributes := #[] }, { accessFlags := 10, nameIndex := 11, descriptorIndex := 12, attributes := #[] }, { accessFlags := 10, nameIndex := 17, descriptorIndex := 18, attributes := #[] }] 49 2 #[] #[])
  fields := #[]
  methods := #[k1m0, k1m1, k1m2, k1m3]
  instanceTypes := #[]
  staticTypes := #[]
  resolved := Array.replicate 45 none
  statics := none }

def pool2 : Array CpInfo := pool [(1, .methodref 2 3), (0, .class_ 4), (0, .nameAndType 5 6), (0, u "java/lang/Object"), (0, u "<init>"), (0, u "()V"), (0, .class_ 8), (0, u "java/lang/Record")] 13

def k2c0 : Code := { maxStack := 1, maxLocals := 1, code := jdk_30_method_1_code, exceptionTable := #[], attributes := #[] }
def k2m0 : Method := { name := "<init>", desc := "()V", sig := { parameters := [], returnType := none }, accessFlags := 4, code := some k2c0 }
/-- java/lang/Record -/
def k2 : Class := { plain "java/lang/Record" (some 0) with
  accessFlags := 1057
  interfaces := #[]
  cf := some (fileOf pool2 7 #[] #[{ accessFlags := 4, nameIndex := 5, descriptorIndex := 6, attributes := #[] }] 1057 2 #[] #[])
  fields := #[]
  methods := #[k2m0]
  instanceTypes := #[]
  staticTypes := #[]
  resolved := Array.replicate 22 none
  statics := none }

def pool3 : Array CpInfo := pool [(1, .methodref 2 3), (0, .class_ 4), (0, .nameAndType 5 6), (0, u "java/lang/Record"), (0, u "<init>"), (0, u "()V"), (0, .fieldref 8 9), (0, .class_ 10), (0, .nameAndType 11 12), (0, u "com/example/lumenwatt/lumenwatt/routing/FirstFitRouting$Rank"), (0, u "cost"), (0, u "D"), (0, .fieldref 8 14), (0, .nameAndType 15 12), (0, u "tieCost"), (18, u "(DD)V"), (2, u "NONE"), (0, u "Lcom/example/lumenwatt/lumenwatt/routing/FirstFitRouting$Rank;"), (3, u "isBefore"), (0, u "(Lcom/example/lumenwatt/lumenwatt/routing/FirstFitRouting$Rank;)Z"), (4, u "()D"), (4, .class_ 54), (0, u "com/example/lumenwatt/lumenwatt/routing/FirstFitRouting")] 20

def k3c0 : Code := { maxStack := 3, maxLocals := 5, code := prog_32_method_1_code, exceptionTable := #[], attributes := #[] }
def k3m0 : Method := { name := "<init>", desc := "(DD)V", sig := { parameters := [.double, .double], returnType := none }, accessFlags := 0, code := some k3c0 }
def k3c1 : Code := { maxStack := 4, maxLocals := 2, code := prog_32_method_2_code, exceptionTable := #[], attributes := #[] }
def k3m1 : Method := { name := "isBefore", desc := "(Lcom/example/lumenwatt/lumenwatt/routing/FirstFitRouting$Rank;)Z", sig := { parameters := [(.object "com/example/lumenwatt/lumenwatt/routing/FirstFitRouting$Rank")], returnType := some .boolean }, accessFlags := 0, code := some k3c1 }
def k3c2 : Code := { maxStack := 2, maxLocals := 1, code := prog_32_method_6_code, exceptionTable := #[], attributes := #[] }
def k3m2 : Method := { name := "cost", desc := "()D", sig := { parameters := [], returnType := some .double }, accessFlags := 1, code := some k3c2 }
/-- com/example/lumenwatt/lumenwatt/routing/FirstFitRouting$Rank -/
def k3 : Class := { plain "com/example/lumenwatt/lumenwatt/routing/FirstFitRouting$Rank" (some 2) with
  accessFlags := 48
  interfaces := #[]
  cf := some (fileOf pool3 8 #[.nestHost 53] #[{ accessFlags := 0, nameIndex := 5, descriptorIndex := 34, attributes := #[] }, { accessFlags := 0, nameIndex := 42, descriptorIndex := 43, attributes := #[] }, { accessFlags := 1, nameIndex := 11, descriptorIndex := 48, attributes := #[] }] 48 2 #[] #[{ accessFlags := 18, nameIndex := 11, descriptorIndex := 12, attributes := #[] }, { accessFlags := 18, nameIndex := 15, descriptorIndex := 12, attributes := #[] }, { accessFlags := 24, nameIndex := 37, descriptorIndex := 38, attributes := #[] }])
  fields := #[{ name := "cost", type := .double, accessFlags := 18, slot := 0, constantValue := 0 }, { name := "tieCost", type := .double, accessFlags := 18, slot := 1, constantValue := 0 }, { name := "NONE", type := (.object "com/example/lumenwatt/lumenwatt/routing/FirstFitRouting$Rank"), accessFlags := 24, slot := 0, constantValue := 0 }]
  methods := #[k3m0, k3m1, k3m2]
  instanceTypes := #[.double, .double]
  staticTypes := #[(.object "com/example/lumenwatt/lumenwatt/routing/FirstFitRouting$Rank")]
  resolved := Array.replicate 75 none
  statics := some 0 }

def pool4 : Array CpInfo := pool [(1, u "java/lang/Cloneable"), (0, .class_ 1), (0, u "java/lang/Object"), (0, .class_ 3)] 3

/-- java/lang/Cloneable -/
def k4 : Class := { plain "java/lang/Cloneable" (some 0) with
  accessFlags := 1537
  interfaces := #[]
  cf := some (fileOf pool4 2 #[] #[] 1537 4 #[] #[])
  fields := #[]
  methods := #[]
  instanceTypes := #[]
  staticTypes := #[]
  resolved := Array.replicate 8 none
  statics := none }

def pool5 : Array CpInfo := pool [(1, u "java/io/Serializable"), (0, .class_ 1), (0, u "java/lang/Object"), (0, .class_ 3)] 3

/-- java/io/Serializable -/
def k5 : Class := { plain "java/io/Serializable" (some 0) with
  accessFlags := 1537
  interfaces := #[]
  cf := some (fileOf pool5 2 #[] #[] 1537 4 #[] #[])
  fields := #[]
  methods := #[]
  instanceTypes := #[]
  staticTypes := #[]
  resolved := Array.replicate 8 none
  statics := none }

/-- the primitive byte -/
def k6 : Class := { plain "byte" none with kind := .primitive 'B', accessFlags := 0x411 }
/-- [B -/
def k7 : Class := { plain "[B" (some 0) with kind := .array 6 .byte, interfaces := #[4, 5], accessFlags := 1041 }

/-- the primitive int -/
def k8 : Class := { plain "int" none with kind := .primitive 'I', accessFlags := 0x411 }
/-- [I -/
def k9 : Class := { plain "[I" (some 0) with kind := .array 8 .int, interfaces := #[4, 5], accessFlags := 1041 }

def heap : Heap := #[{ cls := 3, slots := #[.ref 1], vm := .statics 3 },
  { cls := 3, slots := #[.double 9218868437227405312, .double 0], vm := .none }]
def classes : Array Class := #[k0, k1, k2, k3, k4, k5, k6, k7, k8, k9]
def interned : List (Array UInt16 × Addr) := []
def slotsUsed : Nat := 3
def theMethod : MethodId := ⟨1, 1⟩
def args0 : Array Value := #[.int 5, .int 7, .int 9, .int 11]
def aboutOver (below : List Frame) : State where
  vm := { classes := classes, interned := interned.toArray }
  heap := heap
  slotsUsed := slotsUsed
  threads := #[{ frames := .invoking theMethod args0 :: below }]
def below0 : List Frame := [.native { method := ⟨0, 0⟩, args := #[] }]
def about1 : State := aboutOver below0
def p0 : Program := .bare "" "" ""
def e0 : Env := launch0.env 0 0 0
theorem w_frames : about1.frames = Frame.invoking theMethod args0 :: below0 := rfl
set_option maxRecDepth 65536 in
theorem w_args : argsFit about1.vm theMethod args0 = true := by decide +kernel
set_option maxRecDepth 65536 in
theorem w_heap : heapFits about1 = true := by decide +kernel
set_option maxRecDepth 65536 in
theorem w_runnable : about1.curStatus? = some .runnable := by decide +kernel
set_option maxRecDepth 65536 in
theorem w_alone : about1.alone = true := by decide +kernel
set_option maxRecDepth 65536 in
theorem w_named : about1.methodNamed? x = some theMethod := by decide +kernel
set_option maxRecDepth 65536 in
theorem w_hears : about1.hears theMethod below0 = true := by decide +kernel
set_option maxRecDepth 65536 in
theorem w_ripe : about1.ripe theMethod args0 below0 = true := by decide +kernel
theorem w_running : about1.status = .running := rfl
set_option maxRecDepth 65536 in
theorem w_room : about1.hasRoom e0.platform room_1 = true :=
  launch0.hasRoom_least _ room_1 (by decide +kernel) (by decide +kernel) (by decide +kernel) (by decide +kernel) (by decide +kernel) (by decide +kernel)
theorem allAtoms_all (ts : List Jvm.Cond) (a : Array Jvm.Value) (st : Jvm.State) : (allAtoms ts).before a st = ts.all (fun c => c.before a st) := by
  induction ts with
  | nil => rfl
  | cons c t ih =>
    show (Jvm.Cond.and c (allAtoms t)).before a st = _
    rw [Jvm.Cond.before_and, ih, List.all_cons]
def words1 : List Jvm.Cond := Jvm.Cond.code x code maxLocals ret :: tables_1
/-- a 'code' word, met by the world's own term for the bytes: nothing is compared byte by byte -/
theorem code_word {y : MethodName} {bytes : ByteArray} {mx : Nat} {rt : Option FieldType} {a : Array Value} {s : State} {m : MethodId} {meth : Method} {c : Code} (h1 : s.methodNamed? y = some m) (h2 : s.vm.method? m = some meth) (h3 : meth.code = some c) (h4 : c.code = bytes)
    (h5 : (c.maxLocals == mx && c.exceptionTable.isEmpty && decide (c.maxStack ≤ mostOperands) && decide (meth.sig.returnType = rt) && !meth.locks && decide (parseMethodDescriptor y.desc = some meth.sig)) = true) : (Jvm.Cond.code y bytes mx rt).before a s = true := by
  simp only [Bool.and_eq_true, beq_iff_eq, Bool.not_eq_true', decide_eq_true_eq] at h5
  obtain ⟨⟨⟨⟨⟨g1, g2⟩, g3⟩, g4⟩, g5⟩, g6⟩ := h5
  simp [Cond.before, Cond.holds, Cond.value, h1, h2, h3, h4, g1, g2, g3, g4, g5, g6]
def isCode : Jvm.Cond → Bool
  | .code _ _ _ _ => true
  | _ => false
theorem all_split {L : List Jvm.Cond} {P : Jvm.Cond → Bool} (h1 : L.all (fun c => isCode c || P c) = true) (h2 : ∀ c ∈ L.filter isCode, P c = true) : L.all P = true := by
  refine List.all_eq_true.mpr fun c hc => ?_
  have h := List.all_eq_true.mp h1 c hc
  rcases Bool.eq_false_or_eq_true (isCode c) with hi | hi
  · exact h2 c (List.mem_filter.mpr ⟨hc, hi⟩)
  · simpa [hi] using h
set_option maxRecDepth 65536 in
theorem w_c0 : (Jvm.Cond.code x code maxLocals ret).before args0 about1 = true := code_word (m := ⟨1, 1⟩) (meth := k1m1) (c := k1c1) (by decide +kernel) rfl rfl rfl (by decide +kernel)
set_option maxRecDepth 65536 in
theorem w_c1 : (Jvm.Cond.code ({ cls := "com/example/lumenwatt/lumenwatt/routing/RankIsBeforePinLaw", name := "key", desc := "(I)I" } : Jvm.MethodName) method_3_code (1 : Nat) (Option.some Jvm.ClassFile.FieldType.int)).before args0 about1 = true := code_word (m := ⟨1, 2⟩) (meth := k1m2) (c := k1c2) (by decide +kernel) rfl rfl rfl (by decide +kernel)
set_option maxRecDepth 65536 in
theorem w_c2 : (Jvm.Cond.code ({ cls := "com/example/lumenwatt/lumenwatt/routing/RankIsBeforePinLaw", name := "toDouble", desc := "(I)D" } : Jvm.MethodName) method_4_code (1 : Nat) (Option.some Jvm.ClassFile.FieldType.double)).before args0 about1 = true := code_word (m := ⟨1, 3⟩) (meth := k1m3) (c := k1c3) (by decide +kernel) rfl rfl rfl (by decide +kernel)
set_option maxRecDepth 65536 in
theorem w_c3 : (Jvm.Cond.code ({ cls := "com/example/lumenwatt/lumenwatt/routing/FirstFitRouting$Rank", name := "<init>", desc := "(DD)V" } : Jvm.MethodName) prog_32_method_1_code (5 : Nat) (Option.none : Option Jvm.ClassFile.FieldType)).before args0 about1 = true := code_word (m := ⟨3, 0⟩) (meth := k3m0) (c := k3c0) (by decide +kernel) rfl rfl rfl (by decide +kernel)
set_option maxRecDepth 65536 in
theorem w_c4 : (Jvm.Cond.code ({ cls := "java/lang/Record", name := "<init>", desc := "()V" } : Jvm.MethodName) jdk_30_method_1_code (1 : Nat) (Option.none : Option Jvm.ClassFile.FieldType)).before args0 about1 = true := code_word (m := ⟨2, 0⟩) (meth := k2m0) (c := k2c0) (by decide +kernel) rfl rfl rfl (by decide +kernel)
set_option maxRecDepth 65536 in
theorem w_c5 : (Jvm.Cond.code ({ cls := "java/lang/Object", name := "<init>", desc := "()V" } : Jvm.MethodName) object_method_1_code (1 : Nat) (Option.none : Option Jvm.ClassFile.FieldType)).before args0 about1 = true := code_word (m := ⟨0, 0⟩) (meth := k0m0) (c := k0c0) (by decide +kernel) rfl rfl rfl (by decide +kernel)
set_option maxRecDepth 65536 in
theorem w_c6 : (Jvm.Cond.code ({ cls := "com/example/lumenwatt/lumenwatt/routing/FirstFitRouting$Rank", name := "isBefore", desc := "(Lcom/example/lumenwatt/lumenwatt/routing/FirstFitRouting$Rank;)Z" } : Jvm.MethodName) prog_32_method_2_code (2 : Nat) (Option.some Jvm.ClassFile.FieldType.boolean)).before args0 about1 = true := code_word (m := ⟨3, 1⟩) (meth := k3m1) (c := k3c1) (by decide +kernel) rfl rfl rfl (by decide +kernel)
set_option maxRecDepth 65536 in
theorem w_c7 : (Jvm.Cond.code ({ cls := "com/example/lumenwatt/lumenwatt/routing/FirstFitRouting$Rank", name := "cost", desc := "()D" } : Jvm.MethodName) prog_32_method_6_code (1 : Nat) (Option.some Jvm.ClassFile.FieldType.double)).before args0 about1 = true := code_word (m := ⟨3, 2⟩) (meth := k3m2) (c := k3c2) (by decide +kernel) rfl rfl rfl (by decide +kernel)
def codes1 : List Jvm.Cond := [Jvm.Cond.code x code maxLocals ret, Jvm.Cond.code ({ cls := "com/example/lumenwatt/lumenwatt/routing/RankIsBeforePinLaw", name := "key", desc := "(I)I" } : Jvm.MethodName) method_3_code (1 : Nat) (Option.some Jvm.ClassFile.FieldType.int), Jvm.Cond.code ({ cls := "com/example/lumenwatt/lumenwatt/routing/RankIsBeforePinLaw", name := "toDouble", desc := "(I)D" } : Jvm.MethodName) method_4_code (1 : Nat) (Option.some Jvm.ClassFile.FieldType.double), Jvm.Cond.code ({ cls := "com/example/lumenwatt/lumenwatt/routing/FirstFitRouting$Rank", name := "<init>", desc := "(DD)V" } : Jvm.MethodName) prog_32_method_1_code (5 : Nat) (Option.none : Option Jvm.ClassFile.FieldType), Jvm.Cond.code ({ cls := "java/lang/Record", name := "<init>", desc := "()V" } : Jvm.MethodName) jdk_30_method_1_code (1 : Nat) (Option.none : Option Jvm.ClassFile.FieldType), Jvm.Cond.code ({ cls := "java/lang/Object", name := "<init>", desc := "()V" } : Jvm.MethodName) object_method_1_code (1 : Nat) (Option.none : Option Jvm.ClassFile.FieldType), Jvm.Cond.code ({ cls := "com/example/lumenwatt/lumenwatt/routing/FirstFitRouting$Rank", name := "isBefore", desc := "(Lcom/example/lumenwatt/lumenwatt/routing/FirstFitRouting$Rank;)Z" } : Jvm.MethodName) prog_32_method_2_code (2 : Nat) (Option.some Jvm.ClassFile.FieldType.boolean), Jvm.Cond.code ({ cls := "com/example/lumenwatt/lumenwatt/routing/FirstFitRouting$Rank", name := "cost", desc := "()D" } : Jvm.MethodName) prog_32_method_6_code (1 : Nat) (Option.some Jvm.ClassFile.FieldType.double)]
set_option maxRecDepth 65536 in
theorem codes_eq : words1.filter isCode = codes1 := rfl
theorem w_codes : ∀ c ∈ words1.filter isCode, c.before args0 about1 = true := by
  rw [codes_eq]
  intro c hc
  simp only [codes1, List.mem_cons, List.not_mem_nil, or_false] at hc
  rcases hc with rfl | rfl | rfl | rfl | rfl | rfl | rfl | rfl
  · exact w_c0
  · exact w_c1
  · exact w_c2
  · exact w_c3
  · exact w_c4
  · exact w_c5
  · exact w_c6
  · exact w_c7
set_option maxRecDepth 65536 in
theorem w_t1 : (words1.take 24).all (fun c => isCode c || c.before args0 about1) = true := by decide +kernel
set_option maxRecDepth 65536 in
theorem w_t2 : (words1.drop 24).all (fun c => isCode c || c.before args0 about1) = true := by decide +kernel
theorem w_tables : (allAtoms (Jvm.Cond.code x code maxLocals ret :: tables_1)).before args0 about1 = true := by
  rw [allAtoms_all]
  show words1.all (fun c => c.before args0 about1) = true
  refine all_split ?_ w_codes
  rw [← List.take_append_drop 24 words1, List.all_append, w_t1, w_t2]
  rfl
set_option maxRecDepth 65536 in
theorem w_case : (Jvm.Cond.and given_1 narrow_1).before args0 about1 = true := by decide +kernel
theorem w_applies : (headSpec (Jvm.Cond.code x code maxLocals ret :: tables_1) room_1).applies x e0.platform about1 = true :=
  (Spec.applies_iff w_frames).mpr ⟨w_running, w_runnable, w_alone, w_named, w_hears, w_ripe, w_room, w_tables⟩
theorem atStart : AtStart classFile x code maxLocals ret World_1 tables_1 room_1 Calls_1 rest_1 Pre_1 launch0 p0 e0 about1 theMethod args0 below0 :=
  ⟨lists_1, trivial, launch0.admits_env _ _ _, launch0.least_env, fairChoices_fair.cas, fairChoices_fair.clock, w_frames, w_args, w_heap, w_applies, trivial, trivial, w_case⟩
end start1
theorem witness_1 : WitnessClaimed_1 := ⟨start1.p0, start1.e0, start1.about1, start1.theMethod, start1.args0, start1.below0, start1.atStart⟩
end Jvm.Pilot.@@N@@
