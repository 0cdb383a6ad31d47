import JvmDerived
import JvmDerived.Pilot.@@N@@Statement
import JvmDerived.Pilot.@@N@@Code
set_option linter.unusedVariables false
set_option linter.unusedSimpArgs false
@@BLOCK:NumsL.lean.txt@@
namespace Jvm.RoadKit
open Sem ClassFile Op Lib Jvm.Stand Jvm.Free Jvm.LawKit
section Go
variable {p : Program} {l : Launch} {e : Env} {R : Room} {s : State} {m : MethodId} {args : Array Value} {below : List Frame} {meth : Method} {c : Code} {T : State} {locs : List Loc} {cells slots : Nat} {Z : State} {a0 : Array Value} {h : Heap}
/-- the run from U comes to its return, and leaves what Qv says -/
def Go (p : Program) (e : Env) (below : List Frame) (s : State) (R : Room) (Qv : Option Value → Heap → List Loc → Prop) (U : State) : Prop :=
  ∃ s₂ o, Steps p.tables e below U s₂ ∧ s₂.status = .running ∧ Ended s₂ below o ∧ ∃ v L, o = .returned v ∧ Qv v s₂.heap L ∧ FrameEnd s o s₂ L R.cells R.slots
variable {Qv : Option Value → Heap → List Loc → Prop} {U V : State}
theorem Go.st (h : ∀ t, Steps p.tables e below U t → Steps p.tables e below V t) (k : Go p e below s R Qv U) : Go p e below s R Qv V := by
  obtain ⟨t, o, h1, r⟩ := k
  exact ⟨t, o, h t h1, r⟩
theorem Go.ret (X : Stand p l e R s m args below meth c T locs cells slots) (hlk : meth.locks = false) {v : Option Value} (hv : meth.sig.returnType = none → v = none) (hc : cells ≤ R.cells) (hs : slots ≤ R.slots) (hq : Qv v T.heap locs)
    (st : ∀ fs, (∀ (f : JFrame) (acts : List Action), f.method = m → f.locked = none → f.entered = [] → (doReturn e (T.setTop f) acts v).1 = T.setFrames fs) → Steps p.tables e below V (T.setFrames fs)) : Go p e below s R Qv V := by
  obtain ⟨fs, hr, hrun, hended, hW, hsame⟩ := X.leave (v := v) hv hlk
  exact ⟨_, _, st fs hr, hrun, hended, _, _, rfl, hq, ⟨_, rfl⟩, hW, hsame.mono hc hs⟩
theorem Go.retD (X : Stand p l e R s m args below meth c T locs cells slots) (hx : p.tables.exec = Jvm.exec) (hlk : meth.locks = false) (hret : meth.sig.returnType = some .double) {pc : Nat} {Ls : Array Slot} {z : UInt64} {rest : List Value} (hd : decode c.code pc = .ok (.dreturn, 1)) (hc : cells ≤ R.cells) (hs : slots ≤ R.slots)
    (hq : Qv (some (.double z)) T.heap locs) : Go p e below s R Qv (T.setTop (mkF m pc Ls (.double z :: rest))) :=
  Go.ret X hlk (v := some (.double z)) (fun q => by rw [hret] at q; cases q) hc hs hq fun fs hr => retOut X hx hret rfl (Or.inr (Or.inr (Or.inl ⟨rfl, rfl, _, rfl⟩))) hd hr
theorem Go.retJ (X : Stand p l e R s m args below meth c T locs cells slots) (hx : p.tables.exec = Jvm.exec) (hlk : meth.locks = false) (hret : meth.sig.returnType = some .long) {pc : Nat} {Ls : Array Slot} {z : Int64} {rest : List Value} (hd : decode c.code pc = .ok (.lreturn, 1)) (hc : cells ≤ R.cells) (hs : slots ≤ R.slots)
    (hq : Qv (some (.long z)) T.heap locs) : Go p e below s R Qv (T.setTop (mkF m pc Ls (.long z :: rest))) :=
  Go.ret X hlk (v := some (.long z)) (fun q => by rw [hret] at q; cases q) hc hs hq fun fs hr => retOut X hx hret rfl (Or.inr (Or.inl ⟨rfl, rfl, _, rfl⟩)) hd hr
theorem Go.retI (X : Stand p l e R s m args below meth c T locs cells slots) (hx : p.tables.exec = Jvm.exec) (hlk : meth.locks = false) (hret : meth.sig.returnType = some .int) {pc : Nat} {Ls : Array Slot} {z : Int32} {rest : List Value} (hd : decode c.code pc = .ok (.ireturn, 1)) (hc : cells ≤ R.cells) (hs : slots ≤ R.slots)
    (hq : Qv (some (.int z)) T.heap locs) : Go p e below s R Qv (T.setTop (mkF m pc Ls (.int z :: rest))) :=
  Go.ret X hlk (v := some (.int z)) (fun q => by rw [hret] at q; cases q) hc hs hq fun fs hr => retOut X hx hret rfl (Or.inl ⟨rfl, Or.inl rfl, _, rfl⟩) hd hr
theorem Go.retZ (X : Stand p l e R s m args below meth c T locs cells slots) (hx : p.tables.exec = Jvm.exec) (hlk : meth.locks = false) (hret : meth.sig.returnType = some .boolean) {pc : Nat} {Ls : Array Slot} {z : Int32} {rest : List Value} (hd : decode c.code pc = .ok (.ireturn, 1)) (hc : cells ≤ R.cells) (hs : slots ≤ R.slots)
    (hq : Qv (some (.int (nar .boolean z))) T.heap locs) : Go p e below s R Qv (T.setTop (mkF m pc Ls (.int z :: rest))) :=
  Go.ret X hlk (v := some (.int (nar .boolean z))) (fun q => by rw [hret] at q; cases q) hc hs hq fun fs hr => retN X hx hret (Or.inl rfl) hd hr
theorem Go.retV (X : Stand p l e R s m args below meth c T locs cells slots) (hx : p.tables.exec = Jvm.exec) (hlk : meth.locks = false) (hret : meth.sig.returnType = none) {pc : Nat} {Ls : Array Slot} {st : List Value} (hd : decode c.code pc = .ok (.return_, 1)) (hc : cells ≤ R.cells) (hs : slots ≤ R.slots)
    (hq : Qv none T.heap locs) : Go p e below s R Qv (T.setTop (mkF m pc Ls [])) :=
  Go.ret X hlk (v := none) (fun _ => rfl) hc hs hq fun fs hr => X.returnOut hx hret hd hr
theorem Go.callS (X : Stand p l e R s m args below meth c T locs cells slots) (hx : p.tables.exec = Jvm.exec) (hZ : Z.Warmed39 s.vm) {own : String} {index : Nat} {y : MethodName} {bytes : ByteArray} {maxL : Nat} {ret : Option FieldType} (hown : s.vm.findClass own = some m.cls)
    (w1 : (Cond.methodLink own index y).before a0 Z = true) (w2 : (Cond.static y).before a0 Z = true) (w3 : (Cond.initialized y.cls).before a0 Z = true) (w4 : (Cond.code y bytes maxL ret).before a0 Z = true) (hy : y.cls ≠ "java/lang/invoke/MethodHandle" ∧ y.cls ≠ "java/lang/invoke/VarHandle")
    {rm : Room} {as' : Array Value} {Q : Option Value → Heap → List Loc → Prop}
    (hM : MetFree l y (head1 [Cond.code y bytes maxL ret] rm) (fun a U => a = as' ∧ Z.Warmed39 U.vm ∧ U.heap = h) (fun _ _ _ _ _ => True) (fun _ U o U' => ∃ v L, o = .returned v ∧ Q v U'.heap L ∧ FrameEnd U o U' L rm.cells rm.slots))
    (eT : T.heap = h) (W : Nat) (hf : rm.frames + 1 ≤ R.frames) (hl : W + (maxL + 11) + rm.locals ≤ R.locals) {g : JFrame} (hg : g.method = m) (hsize : g.locals.size = c.maxLocals) (argsL rest : List Value) (ha : as' = argsL.toArray)
    (hlen : ∀ sig, parseMethodDescriptor y.desc = some sig → argsL.length = sig.parameters.length) (hst : g.stack = argsL.reverse ++ rest) (hW : 2 * g.monitorRoom + (rest.map fun v => v.category).sum ≤ W) (hd : decode c.code g.pc = .ok (.invokestatic index, 3)) (hc : cells + rm.cells ≤ R.cells) (hs : slots + rm.slots ≤ R.slots)
    (k : ∀ v T' L, Q v T'.heap L → Stand p l e R s m args below meth c T' (locs ++ L) (cells + rm.cells) (slots + rm.slots) → Go p e below s R Qv (T'.setTop { g with pc := g.pc + 3, stack := v.toList ++ rest })) : Go p e below s R Qv (T.setTop g) := by
  subst ha
  obtain ⟨v, vm1, ⟨T', L', c', n'⟩, -, X', ⟨L, hQ, l1, y1, z1⟩, st⟩ := Jvm.LawKit.callS X hx hown (mvT hZ w1) (mvT hZ w2) (mvT hZ w3) (mvT hZ w4) hy (backOf (W := W) hM hZ w4 w3 hf hl) hg hsize (argsL := argsL) (rest := rest) hlen hst hW hd (fun _ _ => ⟨rfl, eT, hc, hs⟩)
  dsimp only [Pt.U, Pt.locs, Pt.cells, Pt.slots] at X' l1 y1 z1 st hQ
  subst l1 y1 z1
  exact Go.st st (k v T' L hQ X')
theorem Go.callI (X : Stand p l e R s m args below meth c T locs cells slots) (hx : p.tables.exec = Jvm.exec) (hZ : Z.Warmed39 s.vm) {own : String} {index : Nat} {y : MethodName} {bytes : ByteArray} {maxL : Nat} (hown : s.vm.findClass own = some m.cls) (hy1 : y.name = "<init>")
    (w1 : (Cond.methodLink own index y).before a0 Z = true) (w2 : (Cond.instanceMethod y).before a0 Z = true) (w3 : (Cond.initialized y.cls).before a0 Z = true) (w4 : (Cond.code y bytes maxL none).before a0 Z = true) (hy : y.cls ≠ "java/lang/invoke/MethodHandle" ∧ y.cls ≠ "java/lang/invoke/VarHandle")
    {rm : Room} {as' : Array Value} {Q : Option Value → Heap → List Loc → Prop}
    (hM : MetFree l y (head1 [Cond.code y bytes maxL none] rm) (fun a U => a = as' ∧ Z.Warmed39 U.vm ∧ U.heap = h) (fun _ _ _ _ _ => True) (fun _ U o U' => ∃ v L, o = .returned v ∧ Q v U'.heap L ∧ FrameEnd U o U' L rm.cells rm.slots))
    (eT : T.heap = h) (W : Nat) (hf : rm.frames + 1 ≤ R.frames) (hl : W + (maxL + 11) + rm.locals ≤ R.locals) {g : JFrame} (hg : g.method = m) (hsize : g.locals.size = c.maxLocals) (a : Addr) (argsL rest : List Value) (ha : as' = (.ref a :: argsL).toArray)
    (hlen : ∀ sig, parseMethodDescriptor y.desc = some sig → argsL.length = sig.parameters.length) (hst : g.stack = argsL.reverse ++ .ref a :: rest) (hW : 2 * g.monitorRoom + (rest.map fun v => v.category).sum ≤ W) (hd : decode c.code g.pc = .ok (.invokespecial index, 3)) (hc : cells + rm.cells ≤ R.cells) (hs : slots + rm.slots ≤ R.slots)
    (k : ∀ v T' L, Q v T'.heap L → Stand p l e R s m args below meth c T' (locs ++ L) (cells + rm.cells) (slots + rm.slots) → Go p e below s R Qv (T'.setTop { g with pc := g.pc + 3, stack := v.toList ++ rest })) : Go p e below s R Qv (T.setTop g) := by
  subst ha
  obtain ⟨v, vm1, ⟨T', L', c', n'⟩, -, X', ⟨L, hQ, l1, y1, z1⟩, st⟩ := X.specialBack hx hy1 hown (mvT hZ w1) (mvT hZ w2) (mvT hZ w4) hy (backOf (W := W) hM hZ w4 w3 hf hl) hg hsize (Steps.refl _) (a := a) (argsL := argsL) (rest := rest) hlen hst hW hd (fun _ _ => ⟨rfl, eT, hc, hs⟩)
  dsimp only [Pt.U, Pt.locs, Pt.cells, Pt.slots] at X' l1 y1 z1 st hQ
  subst l1 y1 z1
  exact Go.st (fun t k => st.trans k) (k v T' L hQ X')
theorem Go.callV (X : Stand p l e R s m args below meth c T locs cells slots) (hx : p.tables.exec = Jvm.exec) (hZ : Z.Warmed39 s.vm) {own C : String} {index : Nat} {y : MethodName} {bytes : ByteArray} {maxL : Nat} {ret : Option FieldType} (hown : s.vm.findClass own = some m.cls)
    (w1 : (Cond.methodLink own index y).before a0 Z = true) (w2 : (Cond.declares y).before a0 Z = true) (w5 : (Cond.selects C y y).before a0 Z = true) (w6 : (Cond.instanceMethod y).before a0 Z = true) (w3 : (Cond.initialized y.cls).before a0 Z = true) (w4 : (Cond.code y bytes maxL ret).before a0 Z = true) (hy : y.cls ≠ "java/lang/invoke/MethodHandle" ∧ y.cls ≠ "java/lang/invoke/VarHandle")
    {rm : Room} {as' : Array Value} {Q : Option Value → Heap → List Loc → Prop}
    (hM : MetFree l y (head1 [Cond.code y bytes maxL ret] rm) (fun a U => a = as' ∧ Z.Warmed39 U.vm ∧ U.heap = h) (fun _ _ _ _ _ => True) (fun _ U o U' => ∃ v L, o = .returned v ∧ Q v U'.heap L ∧ FrameEnd U o U' L rm.cells rm.slots))
    (eT : T.heap = h) (a : Addr) (E : Exa Z h a C) (W : Nat) (hf : rm.frames + 1 ≤ R.frames) (hl : W + (maxL + 11) + rm.locals ≤ R.locals) {g : JFrame} (hg : g.method = m) (hsize : g.locals.size = c.maxLocals) (argsL rest : List Value) (ha : as' = (.ref a :: argsL).toArray)
    (hlen : ∀ sig, parseMethodDescriptor y.desc = some sig → argsL.length = sig.parameters.length) (hst : g.stack = argsL.reverse ++ .ref a :: rest) (hW : 2 * g.monitorRoom + (rest.map fun v => v.category).sum ≤ W) (hd : decode c.code g.pc = .ok (.invokevirtual index, 3)) (hc : cells + rm.cells ≤ R.cells) (hs : slots + rm.slots ≤ R.slots)
    (k : ∀ v T' L, Q v T'.heap L → Stand p l e R s m args below meth c T' (locs ++ L) (cells + rm.cells) (slots + rm.slots) → Go p e below s R Qv (T'.setTop { g with pc := g.pc + 3, stack := v.toList ++ rest })) : Go p e below s R Qv (T.setTop g) := by
  subst ha
  obtain ⟨cB, kB, q1, q2, q3⟩ := isOf hZ eT E
  obtain ⟨v, vm1, ⟨T', L', c', n'⟩, -, X', ⟨L, hQ, l1, y1, z1⟩, st⟩ := X.virtualBack hx hown (mvT hZ w1) (mvT hZ w2) (notFace_of_selects (args := #[]) (mvT hZ w5)) (mvT hZ w5) (mvT hZ w6) hy (backOf (W := W) hM hZ w4 w3 hf hl) q1 q3 hg hsize (Steps.refl _) (argsL := argsL) (rest := rest) hlen hst hW hd (fun _ _ => ⟨rfl, eT, hc, hs⟩)
  dsimp only [Pt.U, Pt.locs, Pt.cells, Pt.slots] at X' l1 y1 z1 st hQ
  subst l1 y1 z1
  exact Go.st (fun t k => st.trans k) (k v T' L hQ X')
/-- a body's contract, by its walk -/
theorem Go.met {y : MethodName} {bytes : ByteArray} {maxL : Nat} {ret : Option FieldType} {ws : List Cond} {rm : Room} {as' : Array Value} {Q : Option Value → Heap → List Loc → Prop} (hn : plainFor y = true)
    (body : ∀ (p : Program) (e : Env) (s : State) (m : MethodId) (below : List Frame) (meth : Method) (c : Code) (s₁ : State), p.tables.exec = Jvm.exec → c.code = bytes → c.maxLocals = maxL → s.vm.findClass y.cls = some m.cls → meth.name = y.name → meth.sig.returnType = ret → meth.locks = false → Z.Warmed39 s.vm → s₁.heap = h →
      Stand p l e rm s m as' below meth c s₁ [] 0 0 → Go p e below s rm Q (s₁.setTop (entryFrame m as' maxL))) :
    MetFree l y (head1 (Cond.code y bytes maxL ret :: ws) rm) (fun a U => a = as' ∧ Z.Warmed39 U.vm ∧ U.heap = h) (fun _ _ _ _ _ => True) (fun _ U o U' => ∃ v L, o = .returned v ∧ Q v U'.heap L ∧ FrameEnd U o U' L rm.cells rm.slots) := by
  refine MetFree.of_bodySF hn hisR ?_
  intro p e s m args below meth c s₁ Bd hml hP hK
  obtain ⟨rfl, hZ, hh⟩ := hP
  exact body p e s m below meth c s₁ Bd.exec Bd.bytes hml (findClass_of_methodNamed Bd.named) (name_of_methodNamed Bd.named Bd.method).1 Bd.returns Bd.notSynchronized hZ (by rw [← hh, Bd.state]; rfl) (Stand.of_body Bd)
theorem Keep.size_le {h0 h : Heap} {ws : List Addr} (K : Keep h0 h ws) : h0.size ≤ h.size := K.1
theorem Go.cast {g g' : JFrame} (q : g = g') (k : Go p e below s R Qv (T.setTop g')) : Go p e below s R Qv (T.setTop g) := q ▸ k
end Go
end Jvm.RoadKit
namespace Jvm.OwnFl
open Jvm Jvm.FP Jvm.FP.Core Jvm.Free.Fl Op
/-- a double as a whole number of the least doubles -/
abbrev zv (a : UInt64) : Int := zval b64 (val64 a)
theorem zv_def (a : UInt64) : zv a = zval b64 (val64 a) := rfl
theorem nn_int {i : Int} {a : UInt64} (h : DInt i a) : NoNaN64 a := val64_no.mpr (DInt_ne_nan h)
theorem nn_fin {a : UInt64} (h : DFin a) : NoNaN64 a := val64_no.mpr h.ne_nan
theorem fin_int {i : Int} {a : UInt64} (h : DInt i a) : DFin a := by
  unfold DInt at h
  cases hv : val64 a with
  | nan => rw [hv] at h; exact h.elim
  | inf s => rw [hv] at h; exact h.elim
  | fin s c q => exact ⟨s, c, q, hv⟩
/-! what a comparison pushes -/
theorem cv_lt {a b : UInt64} (ha : NoNaN64 a) (hb : NoNaN64 b) (h : zv a < zv b) (o : ClassFile.CmpOp) : cmpValue (FP.dcmp a b) o = -1 := by
  rw [show FP.dcmp a b = some .lt by
    show Core.dcmp a b = _
    rw [dcmp_zval (val64_no.mp ha) (val64_no.mp hb)]; exact congrArg some ((compare_lt_iff _ _).mpr h)]
  cases o <;> rfl
theorem cv_eq {a b : UInt64} (ha : NoNaN64 a) (hb : NoNaN64 b) (h : zv a = zv b) (o : ClassFile.CmpOp) : cmpValue (FP.dcmp a b) o = 0 := by
  rw [show FP.dcmp a b = some .eq by
    show Core.dcmp a b = _
    rw [dcmp_zval (val64_no.mp ha) (val64_no.mp hb)]; exact congrArg some ((compare_eq_iff _ _).mpr h)]
  cases o <;> rfl
theorem cv_gt {a b : UInt64} (ha : NoNaN64 a) (hb : NoNaN64 b) (h : zv b < zv a) (o : ClassFile.CmpOp) : cmpValue (FP.dcmp a b) o = 1 := by
  rw [show FP.dcmp a b = some .gt by
    show Core.dcmp a b = _
    rw [dcmp_zval (val64_no.mp ha) (val64_no.mp hb)]; exact congrArg some ((compare_gt_iff _ _).mpr h)]
  cases o <;> rfl
theorem cv_ge {a b : UInt64} (ha : NoNaN64 a) (hb : NoNaN64 b) (h : zv b ≤ zv a) (o : ClassFile.CmpOp) : ¬ (cmpValue (FP.dcmp a b) o < 0) := by
  rcases Int.lt_or_eq_of_le h with h | h
  · rw [cv_gt ha hb h o]; decide
  · rw [cv_eq ha hb h.symm o]; decide
theorem cv_le {a b : UInt64} (ha : NoNaN64 a) (hb : NoNaN64 b) (h : zv a ≤ zv b) (o : ClassFile.CmpOp) : ¬ (0 < cmpValue (FP.dcmp a b) o) := by
  rcases Int.lt_or_eq_of_le h with h | h
  · rw [cv_lt ha hb h o]; decide
  · rw [cv_eq ha hb h o]; decide
theorem cv_lt' {a b : UInt64} (ha : NoNaN64 a) (hb : NoNaN64 b) (h : zv a < zv b) (o : ClassFile.CmpOp) : cmpValue (FP.dcmp a b) o < 0 := by rw [cv_lt ha hb h o]; decide
theorem cv_gt' {a b : UInt64} (ha : NoNaN64 a) (hb : NoNaN64 b) (h : zv b < zv a) (o : ClassFile.CmpOp) : 0 < cmpValue (FP.dcmp a b) o := by rw [cv_gt ha hb h o]; decide
theorem cv_ne {a b : UInt64} (ha : NoNaN64 a) (hb : NoNaN64 b) (h : zv a ≠ zv b) (o : ClassFile.CmpOp) : ¬ (cmpValue (FP.dcmp a b) o = 0) := by
  rcases Int.lt_or_gt_of_ne h with h | h
  · rw [cv_lt ha hb h o]; decide
  · rw [cv_gt ha hb h o]; decide
/-! what lcmp pushes -/
theorem lc_eq {x y : Int64} : Jvm.RoadKit.lcmpW x y = 0 ↔ x.toInt = y.toInt := by
  rw [Int64.toInt_inj]
  unfold Jvm.RoadKit.lcmpW
  by_cases h : x > y
  · rw [if_pos h]; constructor
    · intro h1; exact absurd h1 (by decide)
    · rintro rfl; exact absurd h (Int64.lt_irrefl)
  · rw [if_neg h]
    by_cases h2 : x = y
    · rw [if_pos h2]; simp [h2]
    · rw [if_neg h2]; constructor
      · intro h1; exact absurd h1 (by decide)
      · intro h1; exact absurd h1 h2
theorem lc_gt {x y : Int64} : 0 < Jvm.RoadKit.lcmpW x y ↔ y.toInt < x.toInt := by
  rw [← Int64.lt_iff_toInt_lt]
  unfold Jvm.RoadKit.lcmpW
  by_cases h : x > y
  · rw [if_pos h]; exact ⟨fun _ => h, fun _ => by decide⟩
  · rw [if_neg h]
    by_cases h2 : x = y
    · rw [if_pos h2]; exact ⟨fun h1 => absurd h1 (by decide), fun h1 => absurd h1 h⟩
    · rw [if_neg h2]; exact ⟨fun h1 => absurd h1 (by decide), fun h1 => absurd h1 h⟩
theorem lc_lt {x y : Int64} : Jvm.RoadKit.lcmpW x y < 0 ↔ x.toInt < y.toInt := by
  by_cases h : x > y
  · have h3 := Int64.lt_iff_toInt_lt.mp h
    unfold Jvm.RoadKit.lcmpW
    rw [if_pos h]; exact ⟨fun h1 => absurd h1 (by decide), fun h1 => by omega⟩
  · have h3 : ¬ (y.toInt < x.toInt) := fun q => h (Int64.lt_iff_toInt_lt.mpr q)
    unfold Jvm.RoadKit.lcmpW
    rw [if_neg h]
    by_cases h2 : x = y
    · rw [if_pos h2]; subst h2; exact ⟨fun h1 => absurd h1 (by decide), fun h1 => by omega⟩
    · rw [if_neg h2]
      have h4 : x.toInt ≠ y.toInt := fun q => h2 (Int64.toInt_inj.mp q)
      exact ⟨fun _ => by omega, fun _ => by decide⟩
/-! whole numbers -/
theorem zv_int {i : Int} {a : UInt64} (h : DInt i a) : zv a = i * (one64 : Int) := DInt_zval h
theorem one_pos : (0 : Int) < (one64 : Int) := Int.ofNat_lt.mpr one64_pos
theorem cvi_eq {i j : Int} {a b : UInt64} (ha : DInt i a) (hb : DInt j b) (h : i = j) (o : ClassFile.CmpOp) : cmpValue (FP.dcmp a b) o = 0 :=
  cv_eq (nn_int ha) (nn_int hb) (by rw [zv_int ha, zv_int hb, h]) o
theorem cvi_lt {i j : Int} {a b : UInt64} (ha : DInt i a) (hb : DInt j b) (h : i < j) (o : ClassFile.CmpOp) : cmpValue (FP.dcmp a b) o = -1 :=
  cv_lt (nn_int ha) (nn_int hb) (by rw [zv_int ha, zv_int hb]; exact Int.mul_lt_mul_of_pos_right h one_pos) o
theorem cvi_gt {i j : Int} {a b : UInt64} (ha : DInt i a) (hb : DInt j b) (h : j < i) (o : ClassFile.CmpOp) : cmpValue (FP.dcmp a b) o = 1 :=
  cv_gt (nn_int ha) (nn_int hb) (by rw [zv_int ha, zv_int hb]; exact Int.mul_lt_mul_of_pos_right h one_pos) o
theorem zint : DInt 0 (0 : UInt64) := by unfold DInt; rw [val64_zero]; show signed false (0 * _) = 0 * _; simp [signed]
theorem l2dI {x : Int64} (h1 : -9007199254740992 ≤ x.toInt) (h2 : x.toInt ≤ 9007199254740992) : DInt x.toInt (FP.l2d x) := l2d_int (by omega)
theorem i2dI (x : Int32) : DInt x.toInt (FP.i2d x) := i2d_int x
theorem mulI {i j : Int} {a b : UInt64} (ha : DInt i a) (hb : DInt j b) (h : (i * j).natAbs ≤ 9007199254740992) : DInt (i * j) (FP.dmul a b) := dmul_int ha hb h
theorem addI {i j : Int} {a b : UInt64} (ha : DInt i a) (hb : DInt j b) (h : (i + j).natAbs ≤ 9007199254740992) : DInt (i + j) (FP.dadd a b) := dadd_int ha hb h
theorem subI {i j : Int} {a b : UInt64} (ha : DInt i a) (hb : DInt j b) (h : (i - j).natAbs ≤ 9007199254740992) : DInt (i - j) (FP.dsub a b) := dsub_int ha hb h
theorem absMul {i j : Int} {A B : Nat} (h1 : i.natAbs ≤ A) (h2 : j.natAbs ≤ B) : (i * j).natAbs ≤ A * B := by rw [Int.natAbs_mul]; exact Nat.mul_le_mul h1 h2
end Jvm.OwnFl
namespace Jvm.OwnFl
open Jvm Jvm.FP Jvm.FP.Core Jvm.Free.Fl Op
/-! ROUNDING: rz A B: the double nearest A / B, as a whole number of the least doubles -/
def rz (A B : Nat) : Nat := zmag b64 (roundRatio b64 false A B 0)
/-- v least doubles are a double -/
def Rep (v : Nat) : Prop := ∃ c q, Core.fits b64 (.fin false c q) ∧ inUnits c q b64.qmin = v
theorem qz : b64.qmin = -1074 := by decide
theorem rep_of {c k : Nat} (hc : c < 2 ^ 53) (hk : k ≤ 2045) : Rep (c * 2 ^ k) := by
  obtain ⟨c', q', h1, h2⟩ := round_exact good_b64 false (c := c) (q := b64.qmin + k) hc (by omega) (by have : b64.qmax = 971 := by decide
                                                                                                       rw [qz, this]; omega)
  refine ⟨c', q', ?_, ?_⟩
  · rw [← h1]; exact round_fits good_b64 _
  · rw [h2]; unfold inUnits; rw [show (b64.qmin + (k : Int) - b64.qmin).toNat = k by omega]
theorem rep_le {n k : Nat} (hn : n ≤ 2 ^ 53) (hk : k ≤ 2044) : Rep (n * 2 ^ k) := by
  rcases Nat.lt_or_eq_of_le hn with h | h
  · exact rep_of h (by omega)
  · have := rep_of (c := 2 ^ 52) (k := k + 1) (by decide) (by omega)
    rw [h]; rw [Nat.pow_succ] at this
    rw [show (2 : Nat) ^ 53 * 2 ^ k = 2 ^ 52 * (2 ^ k * 2) by rw [show (2 : Nat) ^ 53 = 2 ^ 52 * 2 from rfl]; grind]
    exact this
theorem rep_int {n : Nat} (hn : n ≤ 2 ^ 53) : Rep (n * one64) := rep_le hn (by decide)
theorem inU (A : Nat) : inUnits A 0 b64.qmin = A * one64 := by
  unfold inUnits; rw [← pow_qmin64, show (0 - b64.qmin : Int) = -b64.qmin by omega]
theorem rz_le {A B v : Nat} (hB : 0 < B) (hv : Rep v) (h : A * one64 ≤ v * B) : rz A B ≤ v := by
  obtain ⟨c, q, hf, rfl⟩ := hv
  refine zmag_roundRatio_le good_b64 hB hf (by simp) (e0 := b64.qmin) (Int.le_refl _) (by rw [qz]; decide) ?_
  rw [inU, show (b64.qmin - b64.qmin : Int).toNat = 0 by omega, Nat.pow_zero, Nat.mul_one]
  exact h
theorem rz_ge {A B v : Nat} (hB : 0 < B) (hv : Rep v) (h : v * B ≤ A * one64) : v ≤ rz A B := by
  obtain ⟨c, q, hf, rfl⟩ := hv
  refine zmag_roundRatio_ge good_b64 hB hf (e0 := b64.qmin) (Int.le_refl _) (by rw [qz]; decide) ?_
  rw [inU, show (b64.qmin - b64.qmin : Int).toNat = 0 by omega, Nat.pow_zero, Nat.mul_one]
  exact h
theorem rz_exact {A B v : Nat} (hB : 0 < B) (hv : Rep v) (h : A * one64 = v * B) : rz A B = v :=
  Nat.le_antisymm (rz_le hB hv (Nat.le_of_eq h)) (rz_ge hB hv (Nat.le_of_eq h.symm))
theorem rz_congr {A B A' B' : Nat} (hB : 0 < B) (hB' : 0 < B') (h : A * B' = A' * B) : rz A B = rz A' B' := by
  unfold rz
  rw [roundRatio_congr (f := b64) (s := false) (e := 0) (e' := 0) hB hB' (by simpa using h)]
theorem rz_zero (B : Nat) : rz 0 B = 0 := by
  unfold rz roundRatio; simp [zmag, inUnits]
theorem zmag_sign (s : Bool) (A B : Nat) (e : Int) : zmag b64 (roundRatio b64 s A B e) = zmag b64 (roundRatio b64 false A B e) := by
  unfold roundRatio roundAt settle bound
  split
  · rfl
  · split
    · split <;> rfl
    · split <;> rfl
/-- the quotient of two finite doubles -/
theorem val_ddiv {a b : UInt64} (ha : DFin a) (hb : DFin b) (h0 : zv b ≠ 0) :
    ∃ s A B, 0 < B ∧ zv a = signed (sgn (val64 a)) A ∧ zv b = signed (sgn (val64 b)) B ∧ s = (sgn (val64 a) != sgn (val64 b)) ∧ val64 (FP.ddiv a b) = roundRatio b64 s A B 0 := by
  obtain ⟨s, c, q, e1⟩ := ha
  obtain ⟨t, d, r, e2⟩ := hb
  have f1 := val64_fits a
  have f2 := val64_fits b
  have hzb : zv b = signed t (inUnits d r b64.qmin) := by rw [zv_def, e2]; rfl
  have hd : d ≠ 0 := by
    intro hd; apply h0; rw [hzb, hd]; unfold inUnits; rw [Nat.zero_mul, signed_zero]
  rw [e1] at f1; rw [e2] at f2
  have q1 := f1.2.1; have q2 := f2.2.1
  refine ⟨s != t, inUnits c q b64.qmin, inUnits d r b64.qmin, Nat.mul_pos (Nat.pos_of_ne_zero hd) (Nat.two_pow_pos _), by rw [zv_def, e1]; rfl, by rw [zv_def, e2]; rfl, by rw [e1, e2]; rfl, ?_⟩
  show val64 (Core.ddiv a b) = _
  rw [val64_ddiv, e1, e2]
  show (if d = 0 then _ else roundRatio b64 (s != t) c d (q - r)) = _
  rw [if_neg hd]
  refine roundRatio_congr (Nat.pos_of_ne_zero hd) (Nat.mul_pos (Nat.pos_of_ne_zero hd) (Nat.two_pow_pos _)) ?_
  unfold inUnits
  have e3 : (r - b64.qmin).toNat + (q - r - 0).toNat = (q - b64.qmin).toNat + (0 - (q - r)).toNat := by omega
  rw [show c * (d * 2 ^ (r - b64.qmin).toNat) * 2 ^ (q - r - 0).toNat = c * d * (2 ^ (r - b64.qmin).toNat * 2 ^ (q - r - 0).toNat) by grind, ← Nat.pow_add, e3, Nat.pow_add]
  grind
theorem zv_round (s : Bool) (A B : Nat) : zval b64 (roundRatio b64 s A B 0) = signed s (rz A B) := by
  unfold zval; rw [sgn_roundRatio, zmag_sign]; rfl
theorem nn_ddiv {a b : UInt64} (ha : DFin a) (hb : DFin b) (h0 : zv b ≠ 0) : NoNaN64 (FP.ddiv a b) := by
  obtain ⟨s, A, B, -, -, -, -, h⟩ := val_ddiv ha hb h0
  refine val64_no.mpr ?_
  rw [h]; exact roundRatio_ne_nan _ _ _ _ _
/-- where both are positive, or the dividend nought -/
theorem zv_ddiv {a b : UInt64} {A B : Nat} (ha : DFin a) (hb : DFin b) (h1 : zv a = (A : Int)) (h2 : zv b = (B : Int)) (hB : 0 < B) : zv (FP.ddiv a b) = (rz A B : Int) := by
  obtain ⟨s, A', B', p, q1, q2, hs, h⟩ := val_ddiv ha hb (by omega)
  have e1 : A' = A := by
    have := natAbs_signed (sgn (val64 a)) A'
    rw [← q1, h1] at this; omega
  have e2 : B' = B := by
    have := natAbs_signed (sgn (val64 b)) B'
    rw [← q2, h2] at this; omega
  subst e1 e2
  rw [zv_def, h, zv_round]
  by_cases z : A' = 0
  · subst z; rw [rz_zero, signed_zero]; rfl
  · have s1 : sgn (val64 a) = false := by
      cases hq : sgn (val64 a) with
      | false => rfl
      | true => rw [hq, h1] at q1; simp only [signed, if_true] at q1; omega
    have s2 : sgn (val64 b) = false := by
      cases hq : sgn (val64 b) with
      | false => rfl
      | true => rw [hq, h2] at q2; simp only [signed, if_true] at q2; omega
    rw [hs, s1, s2]; rfl
/-- the quotient of two whole numbers, the divisor positive -/
theorem zv_divI {i j : Nat} {a b : UInt64} (ha : DInt i a) (hb : DInt j b) (hj : 0 < j) : zv (FP.ddiv a b) = (rz i j : Int) := by
  have h1 : zv a = ((i * one64 : Nat) : Int) := by rw [zv_int ha]; rfl
  have h2 : zv b = ((j * one64 : Nat) : Int) := by rw [zv_int hb]; rfl
  rw [zv_ddiv (fin_int ha) (fin_int hb) h1 h2 (Nat.mul_pos hj one64_pos)]
  exact congrArg Int.ofNat (rz_congr (Nat.mul_pos hj one64_pos) hj (by grind))
theorem nn_divI {i j : Int} {a b : UInt64} (ha : DInt i a) (hb : DInt j b) (hj : j ≠ 0) : NoNaN64 (FP.ddiv a b) :=
  nn_ddiv (fin_int ha) (fin_int hb) (by rw [zv_int hb]; have := one_pos; intro h; rcases Int.mul_eq_zero.mp h with h | h <;> omega)
theorem sgn_key {k : Int} {t : Bool} {K : Nat} (hk : k * (one64 : Int) = signed t K) (h0 : k ≠ 0) : t = decide (k < 0) := by
  rcases Int.lt_or_gt_of_ne h0 with h | h
  · have h1 := Int.mul_neg_of_neg_of_pos h one_pos
    cases t with
    | true => simp [h]
    | false => rw [hk] at h1; simp only [signed] at h1; exfalso; simp at h1; omega
  · have h1 := Int.mul_pos h one_pos
    cases t with
    | false => simp; omega
    | true => rw [hk] at h1; simp only [signed, if_true] at h1; exfalso; omega
/-- the quotient of two whole numbers, by their signs -/
theorem zv_divS {i j : Int} {a b : UInt64} (ha : DInt i a) (hb : DInt j b) (hj : j ≠ 0) : ((0 ≤ i ∧ 0 < j) ∨ (i ≤ 0 ∧ j < 0) → zv (FP.ddiv a b) = (rz i.natAbs j.natAbs : Int)) ∧ ((0 ≤ i ∧ j < 0) ∨ (i ≤ 0 ∧ 0 < j) → zv (FP.ddiv a b) = -(rz i.natAbs j.natAbs : Int)) := by
  have hz : zv b ≠ 0 := by rw [zv_int hb]; have := one_pos; intro h; rcases Int.mul_eq_zero.mp h with h | h <;> omega
  obtain ⟨s, A, B, hB, h1, h2, hs, h⟩ := val_ddiv (fin_int ha) (fin_int hb) hz
  rw [zv_int ha] at h1; rw [zv_int hb] at h2
  have eA : i.natAbs * one64 = A := by have := congrArg Int.natAbs h1; rw [natAbs_signed, Int.natAbs_mul, Int.natAbs_natCast] at this; exact this
  have eB : j.natAbs * one64 = B := by have := congrArg Int.natAbs h2; rw [natAbs_signed, Int.natAbs_mul, Int.natAbs_natCast] at this; exact this
  have hr : rz A B = rz i.natAbs j.natAbs := by subst eA eB; exact rz_congr hB (by omega) (by generalize one64 = o; ac_rfl)
  have hv : zv (FP.ddiv a b) = signed s (rz A B) := by rw [zv_def, h, zv_round]
  have sb := sgn_key h2 hj
  by_cases hi : i = 0
  · have : rz A B = 0 := by rw [hr, hi]; exact rz_zero _
    rw [hv, this, signed_zero]
    rw [this] at hr
    omega
  · have sa := sgn_key h1 hi
    rw [sa, sb] at hs
    rw [hv, hr, hs]
    constructor
    · rintro (⟨q1, q2⟩ | ⟨q1, q2⟩)
      · have : ¬ i < 0 := by omega
        have : ¬ j < 0 := by omega
        simp [*, signed]
      · have : i < 0 := by omega
        simp [*, signed]
    · rintro (⟨q1, q2⟩ | ⟨q1, q2⟩)
      · have : ¬ i < 0 := by omega
        simp [*, signed]
      · have : i < 0 := by omega
        have : ¬ j < 0 := by omega
        simp [*, signed]
end Jvm.OwnFl
namespace Jvm.OwnFl
open Jvm Jvm.FP Jvm.FP.Core Jvm.Free.Fl Op
theorem rep_900 : Rep (2 ^ 900 * one64) := by
  have := rep_le (n := 1) (k := 1974) (by decide) (by decide)
  rw [Nat.one_mul] at this
  rw [show (2 : Nat) ^ 900 * one64 = 2 ^ 1974 by unfold one64; rw [← Nat.pow_add]]
  exact this
theorem rz_fin {A B : Nat} (hB : 0 < B) (h : A ≤ 2 ^ 900 * B) : ∃ c q, roundRatio b64 false A B 0 = .fin false c q := by
  rcases roundRatio_cases b64 false A B 0 with h1 | h1
  · exact h1
  · exfalso
    have h2 : rz A B ≤ 2 ^ 900 * one64 := rz_le hB rep_900 (by
      have := Nat.mul_le_mul_right one64 h
      rw [show 2 ^ 900 * B * one64 = 2 ^ 900 * one64 * B from Nat.mul_right_comm _ _ _] at this
      exact this)
    unfold rz at h2
    rw [h1] at h2
    have h3 : (2 : Nat) ^ 1974 < b64.tails * 2 ^ (b64.exps - 2) := by decide +kernel
    have h4 : (2 : Nat) ^ 900 * one64 = 2 ^ 1974 := by unfold one64; rw [← Nat.pow_add]
    rw [h4] at h2
    exact absurd (Nat.lt_of_le_of_lt h2 h3) (Nat.lt_irrefl _)
theorem rz_near {A B v : Nat} (hB : 0 < B) (h : A ≤ 2 ^ 900 * B) (hv : Rep v) : (((A * one64 : Nat) : Int) - ((rz A B * B : Nat) : Int)).natAbs ≤ (((A * one64 : Nat) : Int) - ((v * B : Nat) : Int)).natAbs := by
  obtain ⟨c, q, h1⟩ := rz_fin hB h
  obtain ⟨c', q', hf, rfl⟩ := hv
  have h2 := roundRatio_nearest good_b64 hB h1 (c' := c') (q' := q') (e0 := b64.qmin) hf.1 hf.2.1 (Int.le_refl _) (by rw [qz]; decide)
  unfold distance at h2
  rw [inU] at h2
  have h3 : rz A B = inUnits c q b64.qmin := by unfold rz; rw [h1]; rfl
  rw [h3, Int.natCast_mul (inUnits c q b64.qmin), Int.natCast_mul (inUnits c' q' b64.qmin)]
  exact h2
theorem rz_rep {A B : Nat} (hB : 0 < B) (h : A ≤ 2 ^ 900 * B) : Rep (rz A B) := by
  obtain ⟨c, q, h1⟩ := rz_fin hB h
  refine ⟨c, q, ?_, ?_⟩
  · rw [← h1]; exact roundRatio_fits good_b64 _ _ hB _
  · unfold rz; rw [h1]; rfl
/-- rounding is monotone -/
theorem rz_mono {A B A' B' : Nat} (hB : 0 < B) (hB' : 0 < B') (hf : A ≤ 2 ^ 900 * B) (hf' : A' ≤ 2 ^ 900 * B') (h : A * B' ≤ A' * B) : rz A B ≤ rz A' B' := by
  refine Nat.le_of_not_lt fun hlt => ?_
  have n1 := rz_near hB hf (rz_rep hB' hf')
  have n2 := rz_near hB' hf' (rz_rep hB hf)
  generalize hu : rz A' B' = u at *
  generalize hv : rz A B = v at *
  have l1 : u * B < v * B := (Nat.mul_lt_mul_right hB).mpr hlt
  have l2 : u * B' < v * B' := (Nat.mul_lt_mul_right hB').mpr hlt
  have k1 : u * B + v * B ≤ 2 * (A * one64) := by omega
  have k2 : 2 * (A' * one64) ≤ u * B' + v * B' := by omega
  have m1 := Nat.mul_le_mul_right B' k1
  have m2 := Nat.mul_le_mul_right B k2
  have m3 := Nat.mul_le_mul_right (2 * one64) h
  have e1 : (u * B + v * B) * B' = (u * B' + v * B') * B := by grind
  have e2 : 2 * (A * one64) * B' = A * B' * (2 * one64) := by grind
  have e3 : 2 * (A' * one64) * B = A' * B * (2 * one64) := by grind
  have hEq : A * B' * (2 * one64) = A' * B * (2 * one64) := by omega
  have hEq2 : A * B' = A' * B := Nat.eq_of_mul_eq_mul_right (Nat.mul_pos (by decide) one64_pos) hEq
  have := rz_congr hB hB' hEq2
  omega
/-- the error, where A / B is at most 2 ^ (t - 1020): at most 2 ^ t least doubles -/
theorem rz_err {A B t : Nat} (hB : 0 < B) (ht : t ≤ 1900) (h : A * 2 ^ 1020 ≤ B * 2 ^ t) : (((A * one64 : Nat) : Int) - ((rz A B * B : Nat) : Int)).natAbs ≤ B * 2 ^ t := by
  have hf : A ≤ 2 ^ 900 * B := by
    have h1 : B * 2 ^ t ≤ B * 2 ^ 1900 := Nat.mul_le_mul_left _ (Nat.pow_le_pow_right (by decide) ht)
    have h2 : A * 2 ^ 1020 ≤ 2 ^ 900 * B * 2 ^ 1020 := by
      rw [show (2 : Nat) ^ 900 * B * 2 ^ 1020 = B * 2 ^ 1920 by rw [show (2 : Nat) ^ 1920 = 2 ^ 900 * 2 ^ 1020 by rw [← Nat.pow_add]]; generalize (2 : Nat) ^ 900 = u; generalize (2 : Nat) ^ 1020 = v; ac_rfl]
      exact Nat.le_trans h (Nat.le_trans h1 (Nat.mul_le_mul_left _ (Nat.pow_le_pow_right (by decide) (by decide))))
    exact Nat.le_of_mul_le_mul_right h2 (Nat.two_pow_pos _)
  have hD : 0 < B * 2 ^ (t + 1) := Nat.mul_pos hB (Nat.two_pow_pos _)
  have hN : nearest (A * one64) (B * 2 ^ (t + 1)) ≤ 2 ^ 53 := by
    refine nearest_le hD ?_
    have h3 := Nat.mul_le_mul_right (2 ^ 54) h
    rw [show one64 = 2 ^ 1020 * 2 ^ 54 by unfold one64; rw [← Nat.pow_add], ← Nat.mul_assoc]
    refine Nat.le_trans h3 (Nat.le_of_eq ?_)
    rw [show (2 : Nat) ^ 54 = 2 ^ 53 * 2 from rfl, show (2 : Nat) ^ (t + 1) = 2 ^ t * 2 from rfl]; generalize (2 : Nat) ^ t = z; generalize (2 : Nat) ^ 53 = y; ac_rfl
  have n1 := rz_near hB hf (rep_le hN (k := t + 1) (by omega))
  have n2 := nearest_spec (A * one64) (B * 2 ^ (t + 1)) hD
  obtain ⟨n3, n4, -⟩ := n2
  generalize nearest (A * one64) (B * 2 ^ (t + 1)) = c at *
  have e1 : c * 2 ^ (t + 1) * B = c * (B * 2 ^ (t + 1)) := by ac_rfl
  rw [e1] at n1
  have e2 : (2 * c + 1) * (B * 2 ^ (t + 1)) = 2 * (c * (B * 2 ^ (t + 1))) + B * 2 ^ (t + 1) := by grind
  have e3 : 2 * c * (B * 2 ^ (t + 1)) = 2 * (c * (B * 2 ^ (t + 1))) := by grind
  have e4 : B * 2 ^ (t + 1) = 2 * (B * 2 ^ t) := by rw [Nat.pow_succ]; ac_rfl
  rw [e2] at n3
  rw [e3] at n4
  rw [e4] at n1 n3 n4
  generalize c * (2 * (B * 2 ^ t)) = y at *
  generalize B * 2 ^ t = z at *
  omega
theorem lt900 {x k : Nat} (h : x ≤ 2 ^ k) (hk : k < 900) : x < 2 ^ 900 := Nat.lt_of_le_of_lt h (Nat.pow_lt_pow_right (by decide) hk)
/-- strictly, for numerators of up to 52 digits -/
theorem rz_strict {A A' B : Nat} (hB : 0 < B) (hBm : B < 2 ^ 900) (h : A < A') (hA : A' ≤ 2 ^ 52) : rz A B < rz A' B := by
  have j1 : 2 ^ B.log2 ≤ B := Nat.log2_self_le (by omega)
  have j2 : B < 2 ^ (B.log2 + 1) := Nat.lt_log2_self
  have j3 : B.log2 < 900 := (Nat.pow_lt_pow_iff_right (by decide : 1 < 2)).mp (Nat.lt_of_le_of_lt j1 hBm)
  generalize B.log2 = j at *
  have e0 : (2 : Nat) ^ 52 * 2 ^ 1020 = 2 ^ j * 2 ^ (1072 - j) := by rw [← Nat.pow_add, ← Nat.pow_add, show j + (1072 - j) = 52 + 1020 by omega]
  have c1 : A' * 2 ^ 1020 ≤ B * 2 ^ (1072 - j) := Nat.le_trans (Nat.mul_le_mul_right _ hA) (by rw [e0]; exact Nat.mul_le_mul_right _ j1)
  have c0 : A * 2 ^ 1020 ≤ B * 2 ^ (1072 - j) := Nat.le_trans (Nat.mul_le_mul_right _ (Nat.le_of_lt h)) c1
  have c2 : B * 2 ^ (1072 - j) * 2 < one64 := by
    have : B * 2 ^ (1072 - j) * 2 = B * 2 ^ (1073 - j) := by rw [Nat.mul_assoc, ← Nat.pow_succ, show (1072 - j).succ = 1073 - j by omega]
    rw [this]
    have := (Nat.mul_lt_mul_right (Nat.two_pow_pos (1073 - j))).mpr j2
    rw [← Nat.pow_add, show j + 1 + (1073 - j) = 1074 by omega] at this
    exact this
  have r1 := rz_err hB (by omega) c1
  have r0 := rz_err hB (by omega) c0
  refine Nat.lt_of_not_le fun hle => ?_
  have m1 := Nat.mul_le_mul_right B hle
  have m2 : A * one64 + one64 ≤ A' * one64 := by
    have := Nat.mul_le_mul_right one64 h
    rw [Nat.succ_mul] at this; exact this
  generalize rz A B * B = x at *
  generalize rz A' B * B = y at *
  generalize B * 2 ^ (1072 - j) = z at *
  generalize A * one64 = u at *
  generalize A' * one64 = v at *
  omega
/-- strictly, for fractions up to 1 whose denominator is below 2 ^ 53 -/
theorem rz_strict1 {A A' B : Nat} (hB : 0 < B) (hBm : B < 2 ^ 53) (h : A < A') (hA : A' ≤ B) : rz A B < rz A' B := by
  have c1 : A' * 2 ^ 1020 ≤ B * 2 ^ 1020 := Nat.mul_le_mul_right _ hA
  have c0 : A * 2 ^ 1020 ≤ B * 2 ^ 1020 := Nat.mul_le_mul_right _ (by omega)
  have c2 : B * 2 ^ 1020 * 2 < one64 := by
    have := (Nat.mul_lt_mul_right (Nat.two_pow_pos 1021)).mpr hBm
    rw [← Nat.pow_add] at this
    rw [Nat.mul_assoc, ← Nat.pow_succ]; exact this
  have r1 := rz_err hB (by decide) c1
  have r0 := rz_err hB (by decide) c0
  refine Nat.lt_of_not_le fun hle => ?_
  have m1 := Nat.mul_le_mul_right B hle
  have m2 : A * one64 + one64 ≤ A' * one64 := by
    have := Nat.mul_le_mul_right one64 h
    rw [Nat.succ_mul] at this; exact this
  generalize rz A B * B = x at *
  generalize rz A' B * B = y at *
  generalize B * 2 ^ 1020 = z at *
  generalize A * one64 = u at *
  generalize A' * one64 = v at *
  omega
end Jvm.OwnFl
namespace Jvm.OwnFl
open Jvm Jvm.FP Jvm.FP.Core Jvm.Free.Fl Op
/-! sums, differences, products: rounded between the doubles that bound them -/
theorem repz {v : Int} (h : Rep v.natAbs) : ∃ V, Core.fits b64 V ∧ V ≠ .nan ∧ zval b64 V = v := by
  obtain ⟨c, q, hf, hq⟩ := h
  refine ⟨.fin (decide (v < 0)) c q, hf, by simp, ?_⟩
  show signed (decide (v < 0)) (inUnits c q b64.qmin) = v
  rw [hq]; unfold signed
  by_cases h : v < 0 <;> simp [h] <;> omega
theorem q0 : ((2 ^ (b64.qmin - b64.qmin).toNat : Nat) : Int) = 1 := by rw [show (b64.qmin - b64.qmin).toNat = 0 by omega]; rfl
theorem zadd_le {a b : UInt64} {v : Int} (ha : DFin a) (hb : DFin b) (hv : Rep v.natAbs) (h : zv a + zv b ≤ v) : zv (FP.dadd a b) ≤ v := by
  obtain ⟨V, h1, h2, rfl⟩ := repz hv
  obtain ⟨s, c, q, e1⟩ := ha
  obtain ⟨t, d, r, e2⟩ := hb
  have f1 := val64_fits a
  have f2 := val64_fits b
  rw [zv_def, zv_def, e1, e2] at h
  rw [e1] at f1; rw [e2] at f2
  obtain ⟨sg, n, e, k1, k2, k3⟩ := sum_units f1 f2
  show zval b64 (val64 (Core.dadd a b)) ≤ _
  rw [val64_dadd, e1, e2, k1]
  exact zval_round_le good_b64 h1 h2 (Int.le_refl _) k2 (by rw [k3, q0, Int.mul_one]; exact h)
theorem zadd_ge {a b : UInt64} {v : Int} (ha : DFin a) (hb : DFin b) (hv : Rep v.natAbs) (h : v ≤ zv a + zv b) : v ≤ zv (FP.dadd a b) := by
  obtain ⟨V, h1, h2, rfl⟩ := repz hv
  obtain ⟨s, c, q, e1⟩ := ha
  obtain ⟨t, d, r, e2⟩ := hb
  have f1 := val64_fits a
  have f2 := val64_fits b
  rw [zv_def, zv_def, e1, e2] at h
  rw [e1] at f1; rw [e2] at f2
  obtain ⟨sg, n, e, k1, k2, k3⟩ := sum_units f1 f2
  show _ ≤ zval b64 (val64 (Core.dadd a b))
  rw [val64_dadd, e1, e2, k1]
  exact zval_round_ge good_b64 h1 h2 (Int.le_refl _) k2 (by rw [k3, q0, Int.mul_one]; exact h)
theorem zadd {a b : UInt64} (ha : DFin a) (hb : DFin b) (hv : Rep (zv a + zv b).natAbs) : zv (FP.dadd a b) = zv a + zv b :=
  Int.le_antisymm (zadd_le ha hb hv (Int.le_refl _)) (zadd_ge ha hb hv (Int.le_refl _))
theorem zneg (a : UInt64) : zv (Core.dneg a) = -zv a := by
  show zval b64 (val64 (Core.dneg a)) = _
  rw [Core.val64_dneg]; exact zval_negate _ _
theorem neg_fin {a : UInt64} (ha : DFin a) : DFin (Core.dneg a) := by
  obtain ⟨s, c, q, e1⟩ := ha
  exact ⟨!s, c, q, by rw [Core.val64_dneg, e1]; rfl⟩
theorem zsub_le {a b : UInt64} {v : Int} (ha : DFin a) (hb : DFin b) (hv : Rep v.natAbs) (h : zv a - zv b ≤ v) : zv (FP.dsub a b) ≤ v := by
  show zv (Core.dsub a b) ≤ v
  rw [Core.dsub_eq]
  exact zadd_le ha (neg_fin hb) hv (by rw [zneg]; omega)
theorem zsub_ge {a b : UInt64} {v : Int} (ha : DFin a) (hb : DFin b) (hv : Rep v.natAbs) (h : v ≤ zv a - zv b) : v ≤ zv (FP.dsub a b) := by
  show v ≤ zv (Core.dsub a b)
  rw [Core.dsub_eq]
  exact zadd_ge ha (neg_fin hb) hv (by rw [zneg]; omega)
theorem zsub {a b : UInt64} (ha : DFin a) (hb : DFin b) (hv : Rep (zv a - zv b).natAbs) : zv (FP.dsub a b) = zv a - zv b :=
  Int.le_antisymm (zsub_le ha hb hv (Int.le_refl _)) (zsub_ge ha hb hv (Int.le_refl _))
theorem q2 : ((2 ^ (b64.qmin - 2 * b64.qmin).toNat : Nat) : Int) = (one64 : Int) := by rw [← pow_qmin64, show (b64.qmin - 2 * b64.qmin) = -b64.qmin by omega]
theorem zmul_le {a b : UInt64} {v : Int} (ha : DFin a) (hb : DFin b) (hv : Rep v.natAbs) (h : zv a * zv b ≤ v * (one64 : Int)) : zv (FP.dmul a b) ≤ v := by
  obtain ⟨V, h1, h2, rfl⟩ := repz hv
  obtain ⟨s, c, q, e1⟩ := ha
  obtain ⟨t, d, r, e2⟩ := hb
  have f1 := val64_fits a
  have f2 := val64_fits b
  rw [zv_def, zv_def, e1, e2] at h
  rw [e1] at f1; rw [e2] at f2
  obtain ⟨k1, k2, k3⟩ := product_units f1 f2
  show zval b64 (val64 (Core.dmul a b)) ≤ _
  rw [val64_dmul, e1, e2, k1]
  exact zval_round_le good_b64 h1 h2 (e0 := 2 * b64.qmin) (by rw [qz]; decide) k2 (by rw [k3, q2, signed_xor]; exact h)
theorem zmul_ge {a b : UInt64} {v : Int} (ha : DFin a) (hb : DFin b) (hv : Rep v.natAbs) (h : v * (one64 : Int) ≤ zv a * zv b) : v ≤ zv (FP.dmul a b) := by
  obtain ⟨V, h1, h2, rfl⟩ := repz hv
  obtain ⟨s, c, q, e1⟩ := ha
  obtain ⟨t, d, r, e2⟩ := hb
  have f1 := val64_fits a
  have f2 := val64_fits b
  rw [zv_def, zv_def, e1, e2] at h
  rw [e1] at f1; rw [e2] at f2
  obtain ⟨k1, k2, k3⟩ := product_units f1 f2
  show _ ≤ zval b64 (val64 (Core.dmul a b))
  rw [val64_dmul, e1, e2, k1]
  exact zval_round_ge good_b64 h1 h2 (e0 := 2 * b64.qmin) (by rw [qz]; decide) k2 (by rw [k3, q2, signed_xor]; exact h)
theorem zmul {a b : UInt64} {v : Int} (ha : DFin a) (hb : DFin b) (hv : Rep v.natAbs) (h : zv a * zv b = v * (one64 : Int)) : zv (FP.dmul a b) = v :=
  Int.le_antisymm (zmul_le ha hb hv (Int.le_of_eq h)) (zmul_ge ha hb hv (Int.le_of_eq h.symm))
theorem fin_le {a : UInt64} (hn : NoNaN64 a) (h : (zv a).natAbs ≤ 2 ^ 1974) : DFin a := by
  cases hv : val64 a with
  | nan => exact absurd hv (val64_no.mp hn)
  | fin s c q => exact ⟨s, c, q, hv⟩
  | inf s =>
    exfalso
    rw [zv_def, hv] at h
    have h1 : (zval b64 (.inf s)).natAbs = b64.tails * 2 ^ (b64.exps - 2) := natAbs_signed _ _
    rw [h1] at h
    have h3 : (2 : Nat) ^ 1974 < b64.tails * 2 ^ (b64.exps - 2) := by decide +kernel
    exact absurd (Nat.lt_of_le_of_lt h h3) (Nat.lt_irrefl _)
theorem nn_add {a b : UInt64} (ha : DFin a) (hb : DFin b) : NoNaN64 (FP.dadd a b) := noNaN64_no.mpr (Core.dadd_out ha.notNaN hb)
theorem nn_sub {a b : UInt64} (ha : DFin a) (hb : DFin b) : NoNaN64 (FP.dsub a b) := noNaN64_no.mpr (Core.dsub_out ha.notNaN hb)
theorem nn_mul {a b : UInt64} (ha : DFin a) (hb : DFin b) : NoNaN64 (FP.dmul a b) := noNaN64_no.mpr (Core.dmul_out ha hb)
end Jvm.OwnFl
namespace Jvm.OwnFl
open Jvm Jvm.FP Jvm.FP.Core Jvm.Free.Fl Op
theorem one1 : DInt 1 (4607182418800017408 : UInt64) := dint_one
/-- the quotient of two longs, not negative, of up to 53 digits -/
theorem quo {a b : Int64} (hb : 1 ≤ b.toInt ∧ b.toInt ≤ 9007199254740992) (ha : 0 ≤ a.toInt ∧ a.toInt ≤ 9007199254740992) : NoNaN64 (FP.ddiv (FP.l2d a) (FP.l2d b)) ∧ zv (FP.ddiv (FP.l2d a) (FP.l2d b)) = (rz a.toInt.toNat b.toInt.toNat : Int) := by
  have d1 := l2dI (x := a) (by omega) (by omega)
  have d2 := l2dI (x := b) (by omega) (by omega)
  refine ⟨nn_divI d1 d2 (by omega), zv_divI (by rw [show ((a.toInt.toNat : Nat) : Int) = a.toInt by omega]; exact d1) (by rw [show ((b.toInt.toNat : Nat) : Int) = b.toInt by omega]; exact d2) (by omega)⟩
theorem nsub {x y : Int64} (h1 : 0 ≤ x.toInt) (h2 : 0 ≤ y.toInt) : (x - y).toInt = x.toInt - y.toInt := by
  have a1 := x.toInt_lt; have a2 := y.toInt_lt
  exact Jvm.Kit.i64_sub (by omega) (by omega)
theorem p1ne {x : Int64} (h1 : 0 ≤ x.toInt) (h2 : x.toInt ≤ 4611686018427387904) : x + 1 ≠ 0 := by
  intro h
  have h3 := congrArg Int64.toInt h
  rw [Jvm.Kit.i64_add (by rw [Int64.toInt_one]; omega) (by rw [Int64.toInt_one]; omega), Int64.toInt_one, Int64.toInt_zero] at h3
  omega
theorem mask1 {x m v : Int64} {k : Nat} (hk : k < 62) (hm : m.toBitVec.toNat = 2 ^ k - 1) (q : (x &&& m) + 1 = v) : 1 ≤ v.toInt ∧ v.toInt ≤ 2 ^ k := by
  have h1 := Jvm.Kit.i64_mask x m (by omega) hm
  have p2 : (0 : Int) < 2 ^ k := Int.pow_pos (by decide)
  have h2 := Int.emod_nonneg x.toInt (Int.ne_of_gt p2)
  have h3 := Int.emod_lt_of_pos x.toInt p2
  have h4 : (2 : Int) ^ k ≤ 2 ^ 61 := by exact_mod_cast Nat.pow_le_pow_right (by decide) (by omega : k ≤ 61)
  rw [← q, Jvm.Kit.i64_add (by rw [Int64.toInt_one]; omega) (by rw [Int64.toInt_one]; omega), Int64.toInt_one, h1]
  omega
theorem remP {x d v : Int64} (h1 : 0 ≤ d.toInt) (h2 : d.toInt ≤ 4611686018427387904) (q : (x &&& (9223372036854775807 : Int64)) - (x &&& (9223372036854775807 : Int64)) / (d + 1) * (d + 1) = v) : 0 ≤ v.toInt ∧ v.toInt ≤ d.toInt := by
  have m1 := Jvm.Kit.i64_mask x 9223372036854775807 (k := 63) (by decide) (by decide)
  have m2 : 0 ≤ (x &&& (9223372036854775807 : Int64)).toInt := by rw [m1]; omega
  have m3 := Jvm.Kit.i64_rem_nonneg (x := x &&& (9223372036854775807 : Int64)) (y := d + 1) m2
  have m4 : (d + 1).toInt = d.toInt + 1 := by rw [Jvm.Kit.i64_add (by rw [Int64.toInt_one]; omega) (by rw [Int64.toInt_one]; omega), Int64.toInt_one]
  rw [m4] at m3
  rw [← q, m3]
  have h3 := Int.emod_nonneg (x &&& (9223372036854775807 : Int64)).toInt (b := d.toInt + 1) (by omega)
  have h4 := Int.emod_lt_of_pos (x &&& (9223372036854775807 : Int64)).toInt (b := d.toInt + 1) (by omega)
  omega
end Jvm.OwnFl
namespace Jvm.Pilot.@@N@@
open Jvm Jvm.ClassFile Sem Op Lib Jvm.Free Jvm.Stand Jvm.LawKit Jvm.RoadKit Bundle Jvm.Pilot.@@N@@.Jvm.D
section Own
open Jvm.OwnFl Jvm.FP.Core Jvm.Free.Fl
theorem own_half : NoNaN64 (4602678819172646912 : UInt64) ∧ DFin (4602678819172646912 : UInt64) ∧ zv (4602678819172646912 : UInt64) = ((2 ^ 1073 : Nat) : Int) := by
  have h : val64 4602678819172646912 = .fin false (2 ^ 52) (-53) := by decide +kernel
  refine ⟨val64_no.mpr (by rw [h]; simp), ⟨_, _, _, h⟩, ?_⟩
  rw [zv_def, h]; decide +kernel
theorem own_mean {Q R K : Nat} (hK : 1 ≤ K) (hK2 : K ≤ 1048575) (hR : R < K) (hQ : Q < 2147483648) :
    Q * one64 ≤ rz (Q * K + R) K ∧ rz (Q * K + R) K < (Q + 1) * one64 ∧ (R = 0 → rz (Q * K + R) K = Q * one64) ∧ (R ≠ 0 → Q * one64 < rz (Q * K + R) K) ∧
    (2 * R < K → rz (Q * K + R) K ≤ Q * one64 + 4194303 * 2 ^ 1051) ∧ (2 * R = K → rz (Q * K + R) K = Q * one64 + 2 ^ 1073) ∧ (K < 2 * R → Q * one64 + 4194305 * 2 ^ 1051 ≤ rz (Q * K + R) K) := by
  have eO : one64 = 8388608 * 2 ^ 1051 := by unfold one64; rw [show (1074 : Nat) = 23 + 1051 from rfl, Nat.pow_add]
  have eH : (2 : Nat) ^ 1073 = 4194304 * 2 ^ 1051 := by rw [show (1073 : Nat) = 22 + 1051 from rfl, Nat.pow_add]
  have c1 : (Q * K + R) * 2 ^ 1020 ≤ K * 2 ^ 1051 := by
    have : Q * K + R ≤ 2147483648 * K := by
      have := Nat.mul_le_mul_right K (show Q ≤ 2147483647 by omega)
      omega
    have := Nat.mul_le_mul_right (2 ^ 1020) this
    refine Nat.le_trans this (Nat.le_of_eq ?_)
    rw [show (2147483648 : Nat) = 2 ^ 31 from rfl, show (1051 : Nat) = 31 + 1020 from rfl, Nat.pow_add]; generalize (2 : Nat) ^ 31 = u; generalize (2 : Nat) ^ 1020 = v; ac_rfl
  have er := rz_err (A := Q * K + R) (B := K) (t := 1051) (by omega) (by decide) c1
  have g1 : Q * one64 ≤ rz (Q * K + R) K := rz_ge (by omega) (rep_int (Nat.le_trans (Nat.le_of_lt hQ) (by decide))) (by
    rw [Nat.add_mul]; have : Q * one64 * K = Q * K * one64 := by generalize one64 = o_; ac_rfl
    omega)
  have g2 : R = 0 → rz (Q * K + R) K = Q * one64 := fun h => rz_exact (by omega) (rep_int (Nat.le_trans (Nat.le_of_lt hQ) (by decide))) (by rw [h, Nat.add_zero]; generalize one64 = o_; ac_rfl)
  have g3 : 2 * R = K → rz (Q * K + R) K = Q * one64 + 2 ^ 1073 := by
    intro h
    have e : Q * one64 + 2 ^ 1073 = (2 * Q + 1) * 2 ^ 1073 := by rw [eO, eH]; grind
    rw [e]
    refine rz_exact (by omega) (rep_le (Nat.le_trans (show 2 * Q + 1 ≤ 2 ^ 53 by omega) (Nat.le_refl _)) (by decide)) ?_
    rw [← h, eO, eH]; grind
  generalize hM : rz (Q * K + R) K = M at *
  rw [eO] at er g1 g2 g3 ⊢
  rw [eH] at g3 ⊢
  generalize hz : (2 : Nat) ^ 1051 = z at *
  have hz0 : 0 < z := by rw [← hz]; exact Nat.two_pow_pos _
  have e1 : (Q * K + R) * (8388608 * z) = 8388608 * (Q * K * z) + 8388608 * (R * z) := by grind
  rw [e1] at er
  have k1 : K * z ≤ 1048575 * z := Nat.mul_le_mul_right z hK2
  have k2 : R * z + z ≤ K * z := by have := Nat.mul_le_mul_right z (show R + 1 ≤ K from hR); rw [Nat.succ_mul] at this; exact this
  have kK : 0 < K := hK
  refine ⟨g1, ?_, g2, ?_, ?_, g3, ?_⟩
  · refine Nat.lt_of_mul_lt_mul_right (a := K) ?_
    have e2 : (Q + 1) * (8388608 * z) * K = 8388608 * (Q * K * z) + 8388608 * (K * z) := by grind
    rw [e2]; omega
  · intro hR0
    have k3 : z ≤ R * z := Nat.le_mul_of_pos_left z (by omega)
    refine Nat.lt_of_mul_lt_mul_right (a := K) ?_
    have e2 : Q * (8388608 * z) * K = 8388608 * (Q * K * z) := by grind
    rw [e2]; omega
  · intro h2
    have k3 : 2 * (R * z) + z ≤ K * z := by have := Nat.mul_le_mul_right z (show 2 * R + 1 ≤ K by omega); rw [Nat.succ_mul] at this; rw [Nat.mul_assoc] at this; exact this
    refine Nat.le_of_mul_le_mul_right (c := K) ?_ kK
    have e2 : (Q * (8388608 * z) + 4194303 * z) * K = 8388608 * (Q * K * z) + 4194303 * (K * z) := by grind
    rw [e2]; omega
  · intro h2
    have k3 : K * z + z ≤ 2 * (R * z) := by have := Nat.mul_le_mul_right z (show K + 1 ≤ 2 * R by omega); rw [Nat.succ_mul] at this; rw [Nat.mul_assoc] at this; exact this
    refine Nat.le_of_mul_le_mul_right (c := K) ?_ kK
    have e2 : (Q * (8388608 * z) + 4194305 * z) * K = 8388608 * (Q * K * z) + 4194305 * (K * z) := by grind
    rw [e2]; omega
theorem own_c {x : Int32} {v : Int64} (q : (x &&& (1048575 : Int32)).toInt64 = v) : 0 ≤ v.toInt ∧ v.toInt ≤ 1048575 := by
  have m1 := Jvm.Kit.i32_mask x 1048575 (k := 20) (by decide) (by decide)
  rw [← q, Jvm.Kit.i64_of_i32, m1]; omega
theorem own_m31 (x : Int32) : 0 ≤ (x.toInt64 &&& (2147483647 : Int64)).toInt ∧ (x.toInt64 &&& (2147483647 : Int64)).toInt ≤ 2147483647 := by
  have m1 := Jvm.Kit.i64_mask x.toInt64 2147483647 (k := 31) (by decide) (by decide)
  rw [m1]; omega
theorem own_rem {x k v : Int64} (hx : 0 ≤ x.toInt) (hk : 1 ≤ k.toInt) (q : x - x / k * k = v) : 0 ≤ v.toInt ∧ v.toInt < k.toInt := by
  rw [← q, Jvm.Kit.i64_rem_nonneg hx]
  exact ⟨Int.emod_nonneg _ (by omega), Int.emod_lt_of_pos _ (by omega)⟩
theorem own_hops {q k r t : Int64} (hq : 0 ≤ q.toInt ∧ q.toInt ≤ 2147483647) (hk : 1 ≤ k.toInt ∧ k.toInt ≤ 1048575) (hr : 0 ≤ r.toInt ∧ r.toInt < k.toInt) (e : q * k + r = t) : t.toInt = ((q.toInt.toNat * k.toInt.toNat + r.toInt.toNat : Nat) : Int) ∧ t.toInt ≤ 9007199254740992 := by
  have m := absMul (A := 2147483647) (B := 1048575) (i := q.toInt) (j := k.toInt) (by omega) (by omega)
  have l1 := Jvm.Kit.i64_mul (x := q) (y := k) (by omega) (by omega)
  have l2 := Jvm.Kit.i64_add (x := q * k) (y := r) (by omega) (by omega)
  have e1 : ((q.toInt.toNat * k.toInt.toNat : Nat) : Int) = q.toInt * k.toInt := by rw [Int.natCast_mul, Int.toNat_of_nonneg (by omega), Int.toNat_of_nonneg (by omega)]
  rw [← e, l2, l1]
  omega
theorem own_sub {bl k : Int64} : (bl + k) - bl = k := by
  apply Int64.toBitVec_inj.mp
  show bl.toBitVec + k.toBitVec - bl.toBitVec = k.toBitVec
  rw [BitVec.add_comm]; exact BitVec.add_sub_cancel _ _
theorem own_zero {bl : Int64} : lcmpW (bl - bl) 0 = 0 := lc_eq.mpr (by rw [Int64.sub_self])
theorem own_mm {q k r t bl : Int64} (hq : 0 ≤ q.toInt ∧ q.toInt ≤ 2147483647) (hk : 1 ≤ k.toInt ∧ k.toInt ≤ 1048575) (hr : 0 ≤ r.toInt ∧ r.toInt < k.toInt) (e : q * k + r = t) :
    NoNaN64 (FP.ddiv (FP.l2d t) (FP.l2d ((bl + k) - bl))) ∧ zv (FP.ddiv (FP.l2d t) (FP.l2d ((bl + k) - bl))) = (rz (q.toInt.toNat * k.toInt.toNat + r.toInt.toNat) k.toInt.toNat : Int) := by
  have h := own_hops hq hk hr e
  rw [own_sub]
  have := quo (a := t) (b := k) (by omega) (by omega)
  rw [show t.toInt.toNat = q.toInt.toNat * k.toInt.toNat + r.toInt.toNat by omega] at this
  exact this
theorem own_all {q k r : Int64} {mm : UInt64} (hq : 0 ≤ q.toInt ∧ q.toInt ≤ 2147483647) (hk : 1 ≤ k.toInt ∧ k.toInt ≤ 1048575) (hr : 0 ≤ r.toInt ∧ r.toInt < k.toInt) (hn : NoNaN64 mm) (hm : zv mm = (rz (q.toInt.toNat * k.toInt.toNat + r.toInt.toNat) k.toInt.toNat : Int)) :
    (¬ (0 < cmpValue (FP.dcmp (FP.l2d q) mm) .g)) ∧ NoNaN64 (FP.dadd (FP.l2d q) (4607182418800017408 : UInt64)) ∧ cmpValue (FP.dcmp mm (FP.dadd (FP.l2d q) (4607182418800017408 : UInt64))) .g < 0 ∧
    (lcmpW r 0 = 0 → cmpValue (FP.dcmp mm (FP.l2d q)) .l = 0) ∧ (¬ lcmpW r 0 = 0 → 0 < cmpValue (FP.dcmp mm (FP.l2d q)) .l) ∧ NoNaN64 (FP.dsub mm (FP.l2d q)) ∧
    (∀ tw : Int64, (2 : Int64) * r = tw → (lcmpW tw k < 0 → cmpValue (FP.dcmp (FP.dsub mm (FP.l2d q)) (4602678819172646912 : UInt64)) .g < 0) ∧ (lcmpW tw k = 0 → cmpValue (FP.dcmp (FP.dsub mm (FP.l2d q)) (4602678819172646912 : UInt64)) .l = 0) ∧ (¬ lcmpW tw k < 0 → ¬ lcmpW tw k = 0 → 0 < cmpValue (FP.dcmp (FP.dsub mm (FP.l2d q)) (4602678819172646912 : UInt64)) .l)) := by
  obtain ⟨a1, a2, a3, a4, a5, a6, a7⟩ := own_mean (Q := q.toInt.toNat) (R := r.toInt.toNat) (K := k.toInt.toNat) (by omega) (by omega) (by omega) (by omega)
  generalize rz (q.toInt.toNat * k.toInt.toNat + r.toInt.toNat) k.toInt.toNat = M at *
  have dq := l2dI (x := q) (by omega) (by omega)
  have eq : zv (FP.l2d q) = ((q.toInt.toNat * one64 : Nat) : Int) := by rw [zv_int dq, Int.natCast_mul, Int.toNat_of_nonneg (by omega)]
  have d1 := addI dq one1 (by omega)
  have e1 : zv (FP.dadd (FP.l2d q) (4607182418800017408 : UInt64)) = (((q.toInt.toNat + 1) * one64 : Nat) : Int) := by rw [zv_int d1, Int.natCast_mul, show ((q.toInt.toNat + 1 : Nat) : Int) = q.toInt + 1 by omega]
  have e0 : (0 : Int64).toInt = 0 := rfl
  have fm : DFin mm := fin_le hn (by
    rw [hm, Int.natAbs_natCast]
    refine Nat.le_trans (Nat.le_of_lt a2) ?_
    have : (q.toInt.toNat + 1) * one64 ≤ 2 ^ 31 * one64 := Nat.mul_le_mul_right _ (show q.toInt.toNat + 1 ≤ 2 ^ 31 by omega)
    refine Nat.le_trans this ?_
    unfold one64
    rw [← Nat.pow_add]; exact Nat.pow_le_pow_right (by decide) (by decide))
  have nd := nn_sub fm (fin_int dq)
  refine ⟨cv_le (nn_int dq) hn (by rw [eq, hm]; exact Int.ofNat_le.mpr a1) .g, nn_int d1, cv_lt' hn (nn_int d1) (by rw [e1, hm]; exact Int.ofNat_lt.mpr a2) .g, ?_, ?_, nd, ?_⟩
  · intro h
    have := lc_eq.mp h
    exact cv_eq hn (nn_int dq) (by rw [eq, hm, a3 (by omega)]) .l
  · intro h
    have h2 : r.toInt ≠ 0 := fun q => h (lc_eq.mpr (q.trans e0.symm))
    exact cv_gt' hn (nn_int dq) (by rw [eq, hm]; exact Int.ofNat_lt.mpr (a4 (by omega))) .l
  · intro tw htw
    have e2 : (2 : Int64).toInt = 2 := by decide
    have et : tw.toInt = 2 * r.toInt := by rw [← htw, Jvm.Kit.i64_mul (by rw [e2]; omega) (by rw [e2]; omega), e2]
    have eH : (2 : Nat) ^ 1073 = 4194304 * 2 ^ 1051 := by rw [show (1073 : Nat) = 22 + 1051 from rfl, Nat.pow_add]
    have pz := Nat.two_pow_pos 1051
    refine ⟨?_, ?_, ?_⟩
    · intro h
      have h1 := lc_lt.mp h
      have h2 := a5 (by omega)
      refine cv_lt' nd own_half.1 ?_ .g
      have := zsub_le (v := ((4194303 * 2 ^ 1051 : Nat) : Int)) fm (fin_int dq) (by rw [Int.natAbs_natCast]; exact rep_le (by decide) (by decide)) (by rw [hm, eq]; omega)
      refine Int.lt_of_le_of_lt this ?_
      rw [own_half.2.2, eH]; exact Int.ofNat_lt.mpr ((Nat.mul_lt_mul_right pz).mpr (by decide))
    · intro h
      have h1 := lc_eq.mp h
      have h2 := a6 (by omega)
      refine cv_eq nd own_half.1 ?_ .l
      rw [own_half.2.2]
      have r0 : Rep ((((2 ^ 1073 : Nat) : Int)).natAbs) := by
        rw [Int.natAbs_natCast]
        have := rep_le (n := 1) (k := 1073) (by decide) (by decide)
        rwa [Nat.one_mul] at this
      exact Int.le_antisymm (zsub_le fm (fin_int dq) r0 (by rw [hm, eq]; omega)) (zsub_ge fm (fin_int dq) r0 (by rw [hm, eq]; omega))
    · intro h h'
      have h1 : ¬ tw.toInt < k.toInt := fun q => h (lc_lt.mpr q)
      have h2 : ¬ tw.toInt = k.toInt := fun q => h' (lc_eq.mpr q)
      have h3 := a7 (by omega)
      refine cv_gt' nd own_half.1 ?_ .l
      have := zsub_ge (v := ((4194305 * 2 ^ 1051 : Nat) : Int)) fm (fin_int dq) (by rw [Int.natAbs_natCast]; exact rep_le (by decide) (by decide)) (by rw [hm, eq]; omega)
      refine Int.lt_of_lt_of_le ?_ this
      rw [own_half.2.2, eH]; exact Int.ofNat_lt.mpr ((Nat.mul_lt_mul_right pz).mpr (by decide))
end Own
theorem d1_0 : decode jdk_30_method_1_code 0 = .ok (.aload_n 0, 1) := by decide +kernel
theorem d1_1 : decode jdk_30_method_1_code 1 = .ok (.invokespecial 1, 3) := by decide +kernel
theorem d1_4 : decode jdk_30_method_1_code 4 = .ok (.return_, 1) := by decide +kernel
theorem pn0 : plainName "java/lang/Record" = true := by first | (simp [plainName, overriddenIn]; done) | decide +kernel
def Q_rec (Z : State) (a : Addr) (h0 : Heap) (n0 : Nat) (v : Option Value) (h : Heap) (L : List Loc) : Prop := v = none ∧ Fr n0 L ∧ h = h0
theorem ef_rec (m : MethodId) (y0 : Addr) : entryFrame m #[(.ref y0)] 1 = mkF m 0 #[.val (.ref y0)] [] := by first | (simp [entryFrame, mkF, argsToLocals, Value.category, maxLocals]; done) | rfl
set_option maxRecDepth 65536 in
set_option maxHeartbeats 40000000 in
theorem rm_rec (l : Launch) (Z : State) (a0 : Array Value) (hw : ∀ d ∈ tables_1, d.before a0 Z = true) (ws : List Jvm.Cond) (a : Addr) (h0 : Heap) (n0 : Nat) (Z0 : n0 ≤ h0.size)  :
    MetFree l (⟨"java/lang/Record", "<init>", "()V"⟩ : MethodName) (head1 (Jvm.Cond.code (⟨"java/lang/Record", "<init>", "()V"⟩ : MethodName) jdk_30_method_1_code 1 none :: ws) ({ frames := 1, cells := 0, slots := 0, locals := 12 } : Room)) (fun aa_ U => aa_ = #[(.ref a)] ∧ Z.Warmed39 U.vm ∧ U.heap = h0) (fun _ _ _ _ _ => True) (fun _ U o U' => ∃ v L, o = .returned v ∧ Q_rec Z a h0 n0 v U'.heap L ∧ FrameEnd U o U' L (({ frames := 1, cells := 0, slots := 0, locals := 12 } : Room)).cells (({ frames := 1, cells := 0, slots := 0, locals := 12 } : Room)).slots) := by
  refine Go.met (plainFor_of_name pn0) ?_
  intro p e s m below meth c s₁ hx hby hml hown hnm hret hlk hZ e0 X0
  have N0 := Fr.nil n0
  refine Go.cast (ef_rec m a) ?_
  refine Go.st (U := (s₁.setTop (mkF m 1 #[.val (.ref a)] [(.ref a)]))) (fun t_ k_ => XS.aloadN X0.here hx rfl (hb hby d1_0) rfl rfl k_) ?_
  obtain ⟨Ti1, Xi1, ei1, sti1⟩ := initO X0 hx hZ hown (hw _ (List.mem_of_getElem? (i := 14) rfl)) (hw _ (List.mem_of_getElem? (i := 15) rfl)) (hw _ (List.mem_of_getElem? (i := 16) rfl)) e0 (g := (mkF m 1 #[.val (.ref a)] [(.ref a)])) rfl (by rw [hml]; rfl) rfl (hb hby d1_1) (by decide) (W := 0) (by show 2 * 0 + _ ≤ _; exact Nat.le_of_eq rfl) (by decide)
  refine Go.st (U := (Ti1.setTop (mkF m 4 #[.val (.ref a)] []))) sti1 ?_
  refine Go.retV (st := []) Xi1 hx hlk hret (hb hby d1_4) (by decide) (by decide) ?_
  show Q_rec Z a h0 n0 _ Ti1.heap _
  rw [ei1]
  exact ⟨rfl, N0, rfl⟩
theorem d0_0 : decode prog_12_method_1_code 0 = .ok (.aload_n 0, 1) := by decide +kernel
theorem d0_1 : decode prog_12_method_1_code 1 = .ok (.invokespecial 1, 3) := by decide +kernel
theorem d0_4 : decode prog_12_method_1_code 4 = .ok (.aload_n 0, 1) := by decide +kernel
theorem d0_5 : decode prog_12_method_1_code 5 = .ok (.dload_n 1, 1) := by decide +kernel
theorem d0_6 : decode prog_12_method_1_code 6 = .ok (.putfield 7, 3) := by decide +kernel
theorem d0_9 : decode prog_12_method_1_code 9 = .ok (.aload_n 0, 1) := by decide +kernel
theorem d0_10 : decode prog_12_method_1_code 10 = .ok (.dload_n 3, 1) := by decide +kernel
theorem d0_11 : decode prog_12_method_1_code 11 = .ok (.putfield 13, 3) := by decide +kernel
theorem d0_14 : decode prog_12_method_1_code 14 = .ok (.aload_n 0, 1) := by decide +kernel
theorem d0_15 : decode prog_12_method_1_code 15 = .ok (.dload 5, 2) := by decide +kernel
theorem d0_17 : decode prog_12_method_1_code 17 = .ok (.putfield 16, 3) := by decide +kernel
theorem d0_20 : decode prog_12_method_1_code 20 = .ok (.aload_n 0, 1) := by decide +kernel
theorem d0_21 : decode prog_12_method_1_code 21 = .ok (.dload 7, 2) := by decide +kernel
theorem d0_23 : decode prog_12_method_1_code 23 = .ok (.putfield 19, 3) := by decide +kernel
theorem d0_26 : decode prog_12_method_1_code 26 = .ok (.aload_n 0, 1) := by decide +kernel
theorem d0_27 : decode prog_12_method_1_code 27 = .ok (.dload 9, 2) := by decide +kernel
theorem d0_29 : decode prog_12_method_1_code 29 = .ok (.putfield 22, 3) := by decide +kernel
theorem d0_32 : decode prog_12_method_1_code 32 = .ok (.aload_n 0, 1) := by decide +kernel
theorem d0_33 : decode prog_12_method_1_code 33 = .ok (.dload 11, 2) := by decide +kernel
theorem d0_35 : decode prog_12_method_1_code 35 = .ok (.putfield 25, 3) := by decide +kernel
theorem d0_38 : decode prog_12_method_1_code 38 = .ok (.return_, 1) := by decide +kernel
theorem pn1 : plainName "com/example/lumenwatt/lumenwatt/energy/EnergyUse" = true := by first | (simp [plainName, overriddenIn]; done) | decide +kernel
def Q_eng (Z : State) (a : Addr) (x0 : UInt64) (x1 : UInt64) (x2 : UInt64) (x3 : UInt64) (x4 : UInt64) (x5 : UInt64) (o0 : Value) (o1 : Value) (o2 : Value) (o3 : Value) (o4 : Value) (o5 : Value) (h0 : Heap) (n0 : Nat) (v : Option Value) (h : Heap) (L : List Loc) : Prop := v = none ∧ Fr n0 L ∧ Keep h0 h [a] ∧ Exa Z h a "com/example/lumenwatt/lumenwatt/energy/EnergyUse" ∧ Fld Z h a "com/example/lumenwatt/lumenwatt/energy/EnergyUse" "wattHours" "D" (.double x0) ∧ Fld Z h a "com/example/lumenwatt/lumenwatt/energy/EnergyUse" "trafficWattHours" "D" (.double x1) ∧ Fld Z h a "com/example/lumenwatt/lumenwatt/energy/EnergyUse" "co2Grams" "D" (.double x2) ∧ Fld Z h a "com/example/lumenwatt/lumenwatt/energy/EnergyUse" "trafficCo2Grams" "D" (.double x3) ∧ Fld Z h a "com/example/lumenwatt/lumenwatt/energy/EnergyUse" "greenWattHours" "D" (.double x4) ∧ Fld Z h a "com/example/lumenwatt/lumenwatt/energy/EnergyUse" "trafficGreenWattHours" "D" (.double x5)
theorem ef_eng (m : MethodId) (y0 : Addr) (y1 : UInt64) (y2 : UInt64) (y3 : UInt64) (y4 : UInt64) (y5 : UInt64) (y6 : UInt64) : entryFrame m #[(.ref y0), (.double y1), (.double y2), (.double y3), (.double y4), (.double y5), (.double y6)] 13 = mkF m 0 #[.val (.ref y0), .val (.double y1), .second, .val (.double y2), .second, .val (.double y3), .second, .val (.double y4), .second, .val (.double y5), .second, .val (.double y6), .second] [] := by first | (simp [entryFrame, mkF, argsToLocals, Value.category, maxLocals]; done) | rfl
theorem pd0 : parseMethodDescriptor "()V" = some ⟨[], none⟩ := by decide +kernel
set_option maxRecDepth 65536 in
set_option maxHeartbeats 40000000 in
theorem rm_eng (l : Launch) (Z : State) (a0 : Array Value) (hw : ∀ d ∈ tables_1, d.before a0 Z = true) (ws : List Jvm.Cond) (a : Addr) (x0 : UInt64) (x1 : UInt64) (x2 : UInt64) (x3 : UInt64) (x4 : UInt64) (x5 : UInt64) (o0 : Value) (o1 : Value) (o2 : Value) (o3 : Value) (o4 : Value) (o5 : Value) (h0 : Heap) (n0 : Nat) (Z0 : n0 ≤ h0.size) (E0_a : Exa Z h0 a "com/example/lumenwatt/lumenwatt/energy/EnergyUse") (ge_a : n0 ≤ a) (F0_a_wattHours : Fld Z h0 a "com/example/lumenwatt/lumenwatt/energy/EnergyUse" "wattHours" "D" o0) (F0_a_trafficWattHours : Fld Z h0 a "com/example/lumenwatt/lumenwatt/energy/EnergyUse" "trafficWattHours" "D" o1) (F0_a_co2Grams : Fld Z h0 a "com/example/lumenwatt/lumenwatt/energy/EnergyUse" "co2Grams" "D" o2) (F0_a_trafficCo2Grams : Fld Z h0 a "com/example/lumenwatt/lumenwatt/energy/EnergyUse" "trafficCo2Grams" "D" o3) (F0_a_greenWattHours : Fld Z h0 a "com/example/lumenwatt/lumenwatt/energy/EnergyUse" "greenWattHours" "D" o4) (F0_a_trafficGreenWattHours : Fld Z h0 a "com/example/lumenwatt/lumenwatt/energy/EnergyUse" "trafficGreenWattHours" "D" o5) :
    MetFree l (⟨"com/example/lumenwatt/lumenwatt/energy/EnergyUse", "<init>", "(DDDDDD)V"⟩ : MethodName) (head1 (Jvm.Cond.code (⟨"com/example/lumenwatt/lumenwatt/energy/EnergyUse", "<init>", "(DDDDDD)V"⟩ : MethodName) prog_12_method_1_code 13 none :: ws) ({ frames := 2, cells := 0, slots := 0, locals := 24 } : Room)) (fun aa_ U => aa_ = #[(.ref a), (.double x0), (.double x1), (.double x2), (.double x3), (.double x4), (.double x5)] ∧ Z.Warmed39 U.vm ∧ U.heap = h0) (fun _ _ _ _ _ => True) (fun _ U o U' => ∃ v L, o = .returned v ∧ Q_eng Z a x0 x1 x2 x3 x4 x5 o0 o1 o2 o3 o4 o5 h0 n0 v U'.heap L ∧ FrameEnd U o U' L (({ frames := 2, cells := 0, slots := 0, locals := 24 } : Room)).cells (({ frames := 2, cells := 0, slots := 0, locals := 24 } : Room)).slots) := by
  refine Go.met (plainFor_of_name pn1) ?_
  intro p e s m below meth c s₁ hx hby hml hown hnm hret hlk hZ e0 X0
  have N0 := Fr.nil n0
  refine Go.cast (ef_eng m a x0 x1 x2 x3 x4 x5) ?_
  refine Go.st (U := (s₁.setTop (mkF m 1 #[.val (.ref a), .val (.double x0), .second, .val (.double x1), .second, .val (.double x2), .second, .val (.double x3), .second, .val (.double x4), .second, .val (.double x5), .second] [(.ref a)]))) (fun t_ k_ => XS.aloadN X0.here hx rfl (hb hby d0_0) rfl rfl k_) ?_
  refine Go.callI X0 hx hZ hown rfl (hw _ (List.mem_of_getElem? (i := 9) rfl)) (hw _ (List.mem_of_getElem? (i := 10) rfl)) (hw _ (List.mem_of_getElem? (i := 12) rfl)) (hw _ (List.mem_of_getElem? (i := 13) rfl)) (by decide) (rm_rec l Z a0 hw [] a h0 n0 Z0 ) e0 0 (by decide) (by decide) (g := (mkF m 1 #[.val (.ref a), .val (.double x0), .second, .val (.double x1), .second, .val (.double x2), .second, .val (.double x3), .second, .val (.double x4), .second, .val (.double x5), .second] [(.ref a)])) rfl (by rw [hml]; rfl) a [] [] rfl (lenOf pd0 rfl) rfl (by show 2 * 0 + _ ≤ _; exact Nat.le_of_eq rfl) (hb hby d0_1) (by decide) (by decide) ?_
  intro vi1 Ti1 Li1 hQi1 Xi1
  obtain ⟨rfl, Ni1, ei1⟩ := hQi1
  have Ni1 := Fr.app N0 Ni1
  show Go p e below s _ _ (Ti1.setTop (mkF m 4 #[.val (.ref a), .val (.double x0), .second, .val (.double x1), .second, .val (.double x2), .second, .val (.double x3), .second, .val (.double x4), .second, .val (.double x5), .second] []))
  refine Go.st (U := (Ti1.setTop (mkF m 5 #[.val (.ref a), .val (.double x0), .second, .val (.double x1), .second, .val (.double x2), .second, .val (.double x3), .second, .val (.double x4), .second, .val (.double x5), .second] [(.ref a)]))) (fun t_ k_ => XS.aloadN Xi1.here hx rfl (hb hby d0_4) rfl rfl k_) ?_
  refine Go.st (U := (Ti1.setTop (mkF m 6 #[.val (.ref a), .val (.double x0), .second, .val (.double x1), .second, .val (.double x2), .second, .val (.double x3), .second, .val (.double x4), .second, .val (.double x5), .second] [(.double x0), (.ref a)]))) (fun t_ k_ => XS.dloadN Xi1.here hx rfl (hb hby d0_5) rfl k_) ?_
  obtain ⟨Ti2, hi2, Xi2, ei2, Wi2, sti2⟩ := putF Xi1 hx hZ hown (host := "") (Or.inl (hw _ (List.mem_of_getElem? (i := 17) rfl))) Via.refl ei1 F0_a_wattHours E0_a (Or.inr ⟨(hw _ (List.mem_of_getElem? (i := 18) rfl)), rfl, hnm⟩) (hw _ (List.mem_of_getElem? (i := 4) rfl)) (ty := .double) (by decide) rfl rfl (g := (mkF m 6 #[.val (.ref a), .val (.double x0), .second, .val (.double x1), .second, .val (.double x2), .second, .val (.double x3), .second, .val (.double x4), .second, .val (.double x5), .second] [(.double x0), (.ref a)])) rfl rfl (hb hby d0_6)
  have Ni2 := Fr.snoc Xi2 Ni1 ge_a
  have Zi2 : n0 ≤ hi2.size := by rw [Wi2.size]; exact Z0
  have Fi2_a_wattHours := Fld.same Wi2 F0_a_wattHours
  have Fi2_a_trafficWattHours := Fld.other Wi2 F0_a_trafficWattHours (Or.inr (slot_ne (Or.inr (hw _ (List.mem_of_getElem? (i := 20) rfl))) (Or.inr (hw _ (List.mem_of_getElem? (i := 18) rfl))) (by decide) (t := .double) (t' := .double) (by decide) (by decide)))
  have Fi2_a_co2Grams := Fld.other Wi2 F0_a_co2Grams (Or.inr (slot_ne (Or.inr (hw _ (List.mem_of_getElem? (i := 22) rfl))) (Or.inr (hw _ (List.mem_of_getElem? (i := 18) rfl))) (by decide) (t := .double) (t' := .double) (by decide) (by decide)))
  have Fi2_a_trafficCo2Grams := Fld.other Wi2 F0_a_trafficCo2Grams (Or.inr (slot_ne (Or.inr (hw _ (List.mem_of_getElem? (i := 24) rfl))) (Or.inr (hw _ (List.mem_of_getElem? (i := 18) rfl))) (by decide) (t := .double) (t' := .double) (by decide) (by decide)))
  have Fi2_a_greenWattHours := Fld.other Wi2 F0_a_greenWattHours (Or.inr (slot_ne (Or.inr (hw _ (List.mem_of_getElem? (i := 26) rfl))) (Or.inr (hw _ (List.mem_of_getElem? (i := 18) rfl))) (by decide) (t := .double) (t' := .double) (by decide) (by decide)))
  have Fi2_a_trafficGreenWattHours := Fld.other Wi2 F0_a_trafficGreenWattHours (Or.inr (slot_ne (Or.inr (hw _ (List.mem_of_getElem? (i := 28) rfl))) (Or.inr (hw _ (List.mem_of_getElem? (i := 18) rfl))) (by decide) (t := .double) (t' := .double) (by decide) (by decide)))
  have Ei2_a := Exa.wr Wi2 E0_a
  have Ki2 := Keep.wr (Keep.refl h0 [a]) Wi2 (Or.inl (List.mem_of_getElem? (i := 0) rfl))
  refine Go.st (U := (Ti2.setTop (mkF m 9 #[.val (.ref a), .val (.double x0), .second, .val (.double x1), .second, .val (.double x2), .second, .val (.double x3), .second, .val (.double x4), .second, .val (.double x5), .second] []))) sti2 ?_
  refine Go.st (U := (Ti2.setTop (mkF m 10 #[.val (.ref a), .val (.double x0), .second, .val (.double x1), .second, .val (.double x2), .second, .val (.double x3), .second, .val (.double x4), .second, .val (.double x5), .second] [(.ref a)]))) (fun t_ k_ => XS.aloadN Xi2.here hx rfl (hb hby d0_9) rfl rfl k_) ?_
  refine Go.st (U := (Ti2.setTop (mkF m 11 #[.val (.ref a), .val (.double x0), .second, .val (.double x1), .second, .val (.double x2), .second, .val (.double x3), .second, .val (.double x4), .second, .val (.double x5), .second] [(.double x1), (.ref a)]))) (fun t_ k_ => XS.dloadN Xi2.here hx rfl (hb hby d0_10) rfl k_) ?_
  obtain ⟨Ti3, hi3, Xi3, ei3, Wi3, sti3⟩ := putF Xi2 hx hZ hown (host := "") (Or.inl (hw _ (List.mem_of_getElem? (i := 19) rfl))) Via.refl ei2 Fi2_a_trafficWattHours Ei2_a (Or.inr ⟨(hw _ (List.mem_of_getElem? (i := 20) rfl)), rfl, hnm⟩) (hw _ (List.mem_of_getElem? (i := 4) rfl)) (ty := .double) (by decide) rfl rfl (g := (mkF m 11 #[.val (.ref a), .val (.double x0), .second, .val (.double x1), .second, .val (.double x2), .second, .val (.double x3), .second, .val (.double x4), .second, .val (.double x5), .second] [(.double x1), (.ref a)])) rfl rfl (hb hby d0_11)
  have Ni3 := Fr.snoc Xi3 Ni2 ge_a
  have Zi3 : n0 ≤ hi3.size := by rw [Wi3.size]; exact Zi2
  have Fi3_a_wattHours := Fld.other Wi3 Fi2_a_wattHours (Or.inr (slot_ne (Or.inr (hw _ (List.mem_of_getElem? (i := 18) rfl))) (Or.inr (hw _ (List.mem_of_getElem? (i := 20) rfl))) (by decide) (t := .double) (t' := .double) (by decide) (by decide)))
  have Fi3_a_trafficWattHours := Fld.same Wi3 Fi2_a_trafficWattHours
  have Fi3_a_co2Grams := Fld.other Wi3 Fi2_a_co2Grams (Or.inr (slot_ne (Or.inr (hw _ (List.mem_of_getElem? (i := 22) rfl))) (Or.inr (hw _ (List.mem_of_getElem? (i := 20) rfl))) (by decide) (t := .double) (t' := .double) (by decide) (by decide)))
  have Fi3_a_trafficCo2Grams := Fld.other Wi3 Fi2_a_trafficCo2Grams (Or.inr (slot_ne (Or.inr (hw _ (List.mem_of_getElem? (i := 24) rfl))) (Or.inr (hw _ (List.mem_of_getElem? (i := 20) rfl))) (by decide) (t := .double) (t' := .double) (by decide) (by decide)))
  have Fi3_a_greenWattHours := Fld.other Wi3 Fi2_a_greenWattHours (Or.inr (slot_ne (Or.inr (hw _ (List.mem_of_getElem? (i := 26) rfl))) (Or.inr (hw _ (List.mem_of_getElem? (i := 20) rfl))) (by decide) (t := .double) (t' := .double) (by decide) (by decide)))
  have Fi3_a_trafficGreenWattHours := Fld.other Wi3 Fi2_a_trafficGreenWattHours (Or.inr (slot_ne (Or.inr (hw _ (List.mem_of_getElem? (i := 28) rfl))) (Or.inr (hw _ (List.mem_of_getElem? (i := 20) rfl))) (by decide) (t := .double) (t' := .double) (by decide) (by decide)))
  have Ei3_a := Exa.wr Wi3 Ei2_a
  have Ki3 := Keep.wr Ki2 Wi3 (Or.inl (List.mem_of_getElem? (i := 0) rfl))
  refine Go.st (U := (Ti3.setTop (mkF m 14 #[.val (.ref a), .val (.double x0), .second, .val (.double x1), .second, .val (.double x2), .second, .val (.double x3), .second, .val (.double x4), .second, .val (.double x5), .second] []))) sti3 ?_
  refine Go.st (U := (Ti3.setTop (mkF m 15 #[.val (.ref a), .val (.double x0), .second, .val (.double x1), .second, .val (.double x2), .second, .val (.double x3), .second, .val (.double x4), .second, .val (.double x5), .second] [(.ref a)]))) (fun t_ k_ => XS.aloadN Xi3.here hx rfl (hb hby d0_14) rfl rfl k_) ?_
  refine Go.st (U := (Ti3.setTop (mkF m 17 #[.val (.ref a), .val (.double x0), .second, .val (.double x1), .second, .val (.double x2), .second, .val (.double x3), .second, .val (.double x4), .second, .val (.double x5), .second] [(.double x2), (.ref a)]))) (fun t_ k_ => XS.dload Xi3.here hx rfl (hb hby d0_15) rfl k_) ?_
  obtain ⟨Ti4, hi4, Xi4, ei4, Wi4, sti4⟩ := putF Xi3 hx hZ hown (host := "") (Or.inl (hw _ (List.mem_of_getElem? (i := 21) rfl))) Via.refl ei3 Fi3_a_co2Grams Ei3_a (Or.inr ⟨(hw _ (List.mem_of_getElem? (i := 22) rfl)), rfl, hnm⟩) (hw _ (List.mem_of_getElem? (i := 4) rfl)) (ty := .double) (by decide) rfl rfl (g := (mkF m 17 #[.val (.ref a), .val (.double x0), .second, .val (.double x1), .second, .val (.double x2), .second, .val (.double x3), .second, .val (.double x4), .second, .val (.double x5), .second] [(.double x2), (.ref a)])) rfl rfl (hb hby d0_17)
  have Ni4 := Fr.snoc Xi4 Ni3 ge_a
  have Zi4 : n0 ≤ hi4.size := by rw [Wi4.size]; exact Zi3
  have Fi4_a_wattHours := Fld.other Wi4 Fi3_a_wattHours (Or.inr (slot_ne (Or.inr (hw _ (List.mem_of_getElem? (i := 18) rfl))) (Or.inr (hw _ (List.mem_of_getElem? (i := 22) rfl))) (by decide) (t := .double) (t' := .double) (by decide) (by decide)))
  have Fi4_a_trafficWattHours := Fld.other Wi4 Fi3_a_trafficWattHours (Or.inr (slot_ne (Or.inr (hw _ (List.mem_of_getElem? (i := 20) rfl))) (Or.inr (hw _ (List.mem_of_getElem? (i := 22) rfl))) (by decide) (t := .double) (t' := .double) (by decide) (by decide)))
  have Fi4_a_co2Grams := Fld.same Wi4 Fi3_a_co2Grams
  have Fi4_a_trafficCo2Grams := Fld.other Wi4 Fi3_a_trafficCo2Grams (Or.inr (slot_ne (Or.inr (hw _ (List.mem_of_getElem? (i := 24) rfl))) (Or.inr (hw _ (List.mem_of_getElem? (i := 22) rfl))) (by decide) (t := .double) (t' := .double) (by decide) (by decide)))
  have Fi4_a_greenWattHours := Fld.other Wi4 Fi3_a_greenWattHours (Or.inr (slot_ne (Or.inr (hw _ (List.mem_of_getElem? (i := 26) rfl))) (Or.inr (hw _ (List.mem_of_getElem? (i := 22) rfl))) (by decide) (t := .double) (t' := .double) (by decide) (by decide)))
  have Fi4_a_trafficGreenWattHours := Fld.other Wi4 Fi3_a_trafficGreenWattHours (Or.inr (slot_ne (Or.inr (hw _ (List.mem_of_getElem? (i := 28) rfl))) (Or.inr (hw _ (List.mem_of_getElem? (i := 22) rfl))) (by decide) (t := .double) (t' := .double) (by decide) (by decide)))
  have Ei4_a := Exa.wr Wi4 Ei3_a
  have Ki4 := Keep.wr Ki3 Wi4 (Or.inl (List.mem_of_getElem? (i := 0) rfl))
  refine Go.st (U := (Ti4.setTop (mkF m 20 #[.val (.ref a), .val (.double x0), .second, .val (.double x1), .second, .val (.double x2), .second, .val (.double x3), .second, .val (.double x4), .second, .val (.double x5), .second] []))) sti4 ?_
  refine Go.st (U := (Ti4.setTop (mkF m 21 #[.val (.ref a), .val (.double x0), .second, .val (.double x1), .second, .val (.double x2), .second, .val (.double x3), .second, .val (.double x4), .second, .val (.double x5), .second] [(.ref a)]))) (fun t_ k_ => XS.aloadN Xi4.here hx rfl (hb hby d0_20) rfl rfl k_) ?_
  refine Go.st (U := (Ti4.setTop (mkF m 23 #[.val (.ref a), .val (.double x0), .second, .val (.double x1), .second, .val (.double x2), .second, .val (.double x3), .second, .val (.double x4), .second, .val (.double x5), .second] [(.double x3), (.ref a)]))) (fun t_ k_ => XS.dload Xi4.here hx rfl (hb hby d0_21) rfl k_) ?_
  obtain ⟨Ti5, hi5, Xi5, ei5, Wi5, sti5⟩ := putF Xi4 hx hZ hown (host := "") (Or.inl (hw _ (List.mem_of_getElem? (i := 23) rfl))) Via.refl ei4 Fi4_a_trafficCo2Grams Ei4_a (Or.inr ⟨(hw _ (List.mem_of_getElem? (i := 24) rfl)), rfl, hnm⟩) (hw _ (List.mem_of_getElem? (i := 4) rfl)) (ty := .double) (by decide) rfl rfl (g := (mkF m 23 #[.val (.ref a), .val (.double x0), .second, .val (.double x1), .second, .val (.double x2), .second, .val (.double x3), .second, .val (.double x4), .second, .val (.double x5), .second] [(.double x3), (.ref a)])) rfl rfl (hb hby d0_23)
  have Ni5 := Fr.snoc Xi5 Ni4 ge_a
  have Zi5 : n0 ≤ hi5.size := by rw [Wi5.size]; exact Zi4
  have Fi5_a_wattHours := Fld.other Wi5 Fi4_a_wattHours (Or.inr (slot_ne (Or.inr (hw _ (List.mem_of_getElem? (i := 18) rfl))) (Or.inr (hw _ (List.mem_of_getElem? (i := 24) rfl))) (by decide) (t := .double) (t' := .double) (by decide) (by decide)))
  have Fi5_a_trafficWattHours := Fld.other Wi5 Fi4_a_trafficWattHours (Or.inr (slot_ne (Or.inr (hw _ (List.mem_of_getElem? (i := 20) rfl))) (Or.inr (hw _ (List.mem_of_getElem? (i := 24) rfl))) (by decide) (t := .double) (t' := .double) (by decide) (by decide)))
  have Fi5_a_co2Grams := Fld.other Wi5 Fi4_a_co2Grams (Or.inr (slot_ne (Or.inr (hw _ (List.mem_of_getElem? (i := 22) rfl))) (Or.inr (hw _ (List.mem_of_getElem? (i := 24) rfl))) (by decide) (t := .double) (t' := .double) (by decide) (by decide)))
  have Fi5_a_trafficCo2Grams := Fld.same Wi5 Fi4_a_trafficCo2Grams
  have Fi5_a_greenWattHours := Fld.other Wi5 Fi4_a_greenWattHours (Or.inr (slot_ne (Or.inr (hw _ (List.mem_of_getElem? (i := 26) rfl))) (Or.inr (hw _ (List.mem_of_getElem? (i := 24) rfl))) (by decide) (t := .double) (t' := .double) (by decide) (by decide)))
  have Fi5_a_trafficGreenWattHours := Fld.other Wi5 Fi4_a_trafficGreenWattHours (Or.inr (slot_ne (Or.inr (hw _ (List.mem_of_getElem? (i := 28) rfl))) (Or.inr (hw _ (List.mem_of_getElem? (i := 24) rfl))) (by decide) (t := .double) (t' := .double) (by decide) (by decide)))
  have Ei5_a := Exa.wr Wi5 Ei4_a
  have Ki5 := Keep.wr Ki4 Wi5 (Or.inl (List.mem_of_getElem? (i := 0) rfl))
  refine Go.st (U := (Ti5.setTop (mkF m 26 #[.val (.ref a), .val (.double x0), .second, .val (.double x1), .second, .val (.double x2), .second, .val (.double x3), .second, .val (.double x4), .second, .val (.double x5), .second] []))) sti5 ?_
  refine Go.st (U := (Ti5.setTop (mkF m 27 #[.val (.ref a), .val (.double x0), .second, .val (.double x1), .second, .val (.double x2), .second, .val (.double x3), .second, .val (.double x4), .second, .val (.double x5), .second] [(.ref a)]))) (fun t_ k_ => XS.aloadN Xi5.here hx rfl (hb hby d0_26) rfl rfl k_) ?_
  refine Go.st (U := (Ti5.setTop (mkF m 29 #[.val (.ref a), .val (.double x0), .second, .val (.double x1), .second, .val (.double x2), .second, .val (.double x3), .second, .val (.double x4), .second, .val (.double x5), .second] [(.double x4), (.ref a)]))) (fun t_ k_ => XS.dload Xi5.here hx rfl (hb hby d0_27) rfl k_) ?_
  obtain ⟨Ti6, hi6, Xi6, ei6, Wi6, sti6⟩ := putF Xi5 hx hZ hown (host := "") (Or.inl (hw _ (List.mem_of_getElem? (i := 25) rfl))) Via.refl ei5 Fi5_a_greenWattHours Ei5_a (Or.inr ⟨(hw _ (List.mem_of_getElem? (i := 26) rfl)), rfl, hnm⟩) (hw _ (List.mem_of_getElem? (i := 4) rfl)) (ty := .double) (by decide) rfl rfl (g := (mkF m 29 #[.val (.ref a), .val (.double x0), .second, .val (.double x1), .second, .val (.double x2), .second, .val (.double x3), .second, .val (.double x4), .second, .val (.double x5), .second] [(.double x4), (.ref a)])) rfl rfl (hb hby d0_29)
  have Ni6 := Fr.snoc Xi6 Ni5 ge_a
  have Zi6 : n0 ≤ hi6.size := by rw [Wi6.size]; exact Zi5
  have Fi6_a_wattHours := Fld.other Wi6 Fi5_a_wattHours (Or.inr (slot_ne (Or.inr (hw _ (List.mem_of_getElem? (i := 18) rfl))) (Or.inr (hw _ (List.mem_of_getElem? (i := 26) rfl))) (by decide) (t := .double) (t' := .double) (by decide) (by decide)))
  have Fi6_a_trafficWattHours := Fld.other Wi6 Fi5_a_trafficWattHours (Or.inr (slot_ne (Or.inr (hw _ (List.mem_of_getElem? (i := 20) rfl))) (Or.inr (hw _ (List.mem_of_getElem? (i := 26) rfl))) (by decide) (t := .double) (t' := .double) (by decide) (by decide)))
  have Fi6_a_co2Grams := Fld.other Wi6 Fi5_a_co2Grams (Or.inr (slot_ne (Or.inr (hw _ (List.mem_of_getElem? (i := 22) rfl))) (Or.inr (hw _ (List.mem_of_getElem? (i := 26) rfl))) (by decide) (t := .double) (t' := .double) (by decide) (by decide)))
  have Fi6_a_trafficCo2Grams := Fld.other Wi6 Fi5_a_trafficCo2Grams (Or.inr (slot_ne (Or.inr (hw _ (List.mem_of_getElem? (i := 24) rfl))) (Or.inr (hw _ (List.mem_of_getElem? (i := 26) rfl))) (by decide) (t := .double) (t' := .double) (by decide) (by decide)))
  have Fi6_a_greenWattHours := Fld.same Wi6 Fi5_a_greenWattHours
  have Fi6_a_trafficGreenWattHours := Fld.other Wi6 Fi5_a_trafficGreenWattHours (Or.inr (slot_ne (Or.inr (hw _ (List.mem_of_getElem? (i := 28) rfl))) (Or.inr (hw _ (List.mem_of_getElem? (i := 26) rfl))) (by decide) (t := .double) (t' := .double) (by decide) (by decide)))
  have Ei6_a := Exa.wr Wi6 Ei5_a
  have Ki6 := Keep.wr Ki5 Wi6 (Or.inl (List.mem_of_getElem? (i := 0) rfl))
  refine Go.st (U := (Ti6.setTop (mkF m 32 #[.val (.ref a), .val (.double x0), .second, .val (.double x1), .second, .val (.double x2), .second, .val (.double x3), .second, .val (.double x4), .second, .val (.double x5), .second] []))) sti6 ?_
  refine Go.st (U := (Ti6.setTop (mkF m 33 #[.val (.ref a), .val (.double x0), .second, .val (.double x1), .second, .val (.double x2), .second, .val (.double x3), .second, .val (.double x4), .second, .val (.double x5), .second] [(.ref a)]))) (fun t_ k_ => XS.aloadN Xi6.here hx rfl (hb hby d0_32) rfl rfl k_) ?_
  refine Go.st (U := (Ti6.setTop (mkF m 35 #[.val (.ref a), .val (.double x0), .second, .val (.double x1), .second, .val (.double x2), .second, .val (.double x3), .second, .val (.double x4), .second, .val (.double x5), .second] [(.double x5), (.ref a)]))) (fun t_ k_ => XS.dload Xi6.here hx rfl (hb hby d0_33) rfl k_) ?_
  obtain ⟨Ti7, hi7, Xi7, ei7, Wi7, sti7⟩ := putF Xi6 hx hZ hown (host := "") (Or.inl (hw _ (List.mem_of_getElem? (i := 27) rfl))) Via.refl ei6 Fi6_a_trafficGreenWattHours Ei6_a (Or.inr ⟨(hw _ (List.mem_of_getElem? (i := 28) rfl)), rfl, hnm⟩) (hw _ (List.mem_of_getElem? (i := 4) rfl)) (ty := .double) (by decide) rfl rfl (g := (mkF m 35 #[.val (.ref a), .val (.double x0), .second, .val (.double x1), .second, .val (.double x2), .second, .val (.double x3), .second, .val (.double x4), .second, .val (.double x5), .second] [(.double x5), (.ref a)])) rfl rfl (hb hby d0_35)
  have Ni7 := Fr.snoc Xi7 Ni6 ge_a
  have Zi7 : n0 ≤ hi7.size := by rw [Wi7.size]; exact Zi6
  have Fi7_a_wattHours := Fld.other Wi7 Fi6_a_wattHours (Or.inr (slot_ne (Or.inr (hw _ (List.mem_of_getElem? (i := 18) rfl))) (Or.inr (hw _ (List.mem_of_getElem? (i := 28) rfl))) (by decide) (t := .double) (t' := .double) (by decide) (by decide)))
  have Fi7_a_trafficWattHours := Fld.other Wi7 Fi6_a_trafficWattHours (Or.inr (slot_ne (Or.inr (hw _ (List.mem_of_getElem? (i := 20) rfl))) (Or.inr (hw _ (List.mem_of_getElem? (i := 28) rfl))) (by decide) (t := .double) (t' := .double) (by decide) (by decide)))
  have Fi7_a_co2Grams := Fld.other Wi7 Fi6_a_co2Grams (Or.inr (slot_ne (Or.inr (hw _ (List.mem_of_getElem? (i := 22) rfl))) (Or.inr (hw _ (List.mem_of_getElem? (i := 28) rfl))) (by decide) (t := .double) (t' := .double) (by decide) (by decide)))
  have Fi7_a_trafficCo2Grams := Fld.other Wi7 Fi6_a_trafficCo2Grams (Or.inr (slot_ne (Or.inr (hw _ (List.mem_of_getElem? (i := 24) rfl))) (Or.inr (hw _ (List.mem_of_getElem? (i := 28) rfl))) (by decide) (t := .double) (t' := .double) (by decide) (by decide)))
  have Fi7_a_greenWattHours := Fld.other Wi7 Fi6_a_greenWattHours (Or.inr (slot_ne (Or.inr (hw _ (List.mem_of_getElem? (i := 26) rfl))) (Or.inr (hw _ (List.mem_of_getElem? (i := 28) rfl))) (by decide) (t := .double) (t' := .double) (by decide) (by decide)))
  have Fi7_a_trafficGreenWattHours := Fld.same Wi7 Fi6_a_trafficGreenWattHours
  have Ei7_a := Exa.wr Wi7 Ei6_a
  have Ki7 := Keep.wr Ki6 Wi7 (Or.inl (List.mem_of_getElem? (i := 0) rfl))
  refine Go.st (U := (Ti7.setTop (mkF m 38 #[.val (.ref a), .val (.double x0), .second, .val (.double x1), .second, .val (.double x2), .second, .val (.double x3), .second, .val (.double x4), .second, .val (.double x5), .second] []))) sti7 ?_
  refine Go.retV (st := []) Xi7 hx hlk hret (hb hby d0_38) (by decide) (by decide) ?_
  show Q_eng Z a x0 x1 x2 x3 x4 x5 o0 o1 o2 o3 o4 o5 h0 n0 _ Ti7.heap _
  rw [ei7]
  exact ⟨rfl, Ni7, Ki7, Ei7_a, Fi7_a_wattHours, Fi7_a_trafficWattHours, Fi7_a_co2Grams, Fi7_a_trafficCo2Grams, Fi7_a_greenWattHours, Fi7_a_trafficGreenWattHours⟩
theorem d3_0 : decode prog_55_method_1_code 0 = .ok (.aload_n 0, 1) := by decide +kernel
theorem d3_1 : decode prog_55_method_1_code 1 = .ok (.invokespecial 1, 3) := by decide +kernel
theorem d3_4 : decode prog_55_method_1_code 4 = .ok (.aload_n 0, 1) := by decide +kernel
theorem d3_5 : decode prog_55_method_1_code 5 = .ok (.lload_n 1, 1) := by decide +kernel
theorem d3_6 : decode prog_55_method_1_code 6 = .ok (.putfield 7, 3) := by decide +kernel
theorem d3_9 : decode prog_55_method_1_code 9 = .ok (.aload_n 0, 1) := by decide +kernel
theorem d3_10 : decode prog_55_method_1_code 10 = .ok (.lload_n 3, 1) := by decide +kernel
theorem d3_11 : decode prog_55_method_1_code 11 = .ok (.putfield 13, 3) := by decide +kernel
theorem d3_14 : decode prog_55_method_1_code 14 = .ok (.aload_n 0, 1) := by decide +kernel
theorem d3_15 : decode prog_55_method_1_code 15 = .ok (.lload 5, 2) := by decide +kernel
theorem d3_17 : decode prog_55_method_1_code 17 = .ok (.putfield 16, 3) := by decide +kernel
theorem d3_20 : decode prog_55_method_1_code 20 = .ok (.aload_n 0, 1) := by decide +kernel
theorem d3_21 : decode prog_55_method_1_code 21 = .ok (.dload 7, 2) := by decide +kernel
theorem d3_23 : decode prog_55_method_1_code 23 = .ok (.putfield 19, 3) := by decide +kernel
theorem d3_26 : decode prog_55_method_1_code 26 = .ok (.aload_n 0, 1) := by decide +kernel
theorem d3_27 : decode prog_55_method_1_code 27 = .ok (.dload 9, 2) := by decide +kernel
theorem d3_29 : decode prog_55_method_1_code 29 = .ok (.putfield 23, 3) := by decide +kernel
theorem d3_32 : decode prog_55_method_1_code 32 = .ok (.aload_n 0, 1) := by decide +kernel
theorem d3_33 : decode prog_55_method_1_code 33 = .ok (.dload 11, 2) := by decide +kernel
theorem d3_35 : decode prog_55_method_1_code 35 = .ok (.putfield 26, 3) := by decide +kernel
theorem d3_38 : decode prog_55_method_1_code 38 = .ok (.aload_n 0, 1) := by decide +kernel
theorem d3_39 : decode prog_55_method_1_code 39 = .ok (.aload 13, 2) := by decide +kernel
theorem d3_41 : decode prog_55_method_1_code 41 = .ok (.putfield 29, 3) := by decide +kernel
theorem d3_44 : decode prog_55_method_1_code 44 = .ok (.return_, 1) := by decide +kernel
theorem pn2 : plainName "com/example/lumenwatt/lumenwatt/simulation/ReplicationResult" = true := by first | (simp [plainName, overriddenIn]; done) | decide +kernel
def Q_rep (Z : State) (a : Addr) (x0 : Int64) (x1 : Int64) (x2 : Int64) (x3 : UInt64) (x4 : UInt64) (x5 : UInt64) (x6 : Addr) (o0 : Value) (o1 : Value) (o2 : Value) (o3 : Value) (o4 : Value) (o5 : Value) (o6 : Value) (h0 : Heap) (n0 : Nat) (v : Option Value) (h : Heap) (L : List Loc) : Prop := v = none ∧ Fr n0 L ∧ Keep h0 h [a] ∧ Exa Z h a "com/example/lumenwatt/lumenwatt/simulation/ReplicationResult" ∧ Fld Z h a "com/example/lumenwatt/lumenwatt/simulation/ReplicationResult" "requests" "J" (.long x0) ∧ Fld Z h a "com/example/lumenwatt/lumenwatt/simulation/ReplicationResult" "blocked" "J" (.long x1) ∧ Fld Z h a "com/example/lumenwatt/lumenwatt/simulation/ReplicationResult" "carriedHops" "J" (.long x2) ∧ Fld Z h a "com/example/lumenwatt/lumenwatt/simulation/ReplicationResult" "activeHours" "D" (.double x3) ∧ Fld Z h a "com/example/lumenwatt/lumenwatt/simulation/ReplicationResult" "routeWattHours" "D" (.double x4) ∧ Fld Z h a "com/example/lumenwatt/lumenwatt/simulation/ReplicationResult" "hours" "D" (.double x5) ∧ Fld Z h a "com/example/lumenwatt/lumenwatt/simulation/ReplicationResult" "energy" "Lcom/example/lumenwatt/lumenwatt/energy/EnergyUse;" (.ref x6)
theorem ef_rep (m : MethodId) (y0 : Addr) (y1 : Int64) (y2 : Int64) (y3 : Int64) (y4 : UInt64) (y5 : UInt64) (y6 : UInt64) (y7 : Addr) : entryFrame m #[(.ref y0), (.long y1), (.long y2), (.long y3), (.double y4), (.double y5), (.double y6), (.ref y7)] 14 = mkF m 0 #[.val (.ref y0), .val (.long y1), .second, .val (.long y2), .second, .val (.long y3), .second, .val (.double y4), .second, .val (.double y5), .second, .val (.double y6), .second, .val (.ref y7)] [] := by first | (simp [entryFrame, mkF, argsToLocals, Value.category, maxLocals]; done) | rfl
set_option maxRecDepth 65536 in
set_option maxHeartbeats 40000000 in
theorem rm_rep (l : Launch) (Z : State) (a0 : Array Value) (hw : ∀ d ∈ tables_1, d.before a0 Z = true) (ws : List Jvm.Cond) (a : Addr) (x0 : Int64) (x1 : Int64) (x2 : Int64) (x3 : UInt64) (x4 : UInt64) (x5 : UInt64) (x6 : Addr) (o0 : Value) (o1 : Value) (o2 : Value) (o3 : Value) (o4 : Value) (o5 : Value) (o6 : Value) (h0 : Heap) (n0 : Nat) (Z0 : n0 ≤ h0.size) (E0_a : Exa Z h0 a "com/example/lumenwatt/lumenwatt/simulation/ReplicationResult") (ge_a : n0 ≤ a) (F0_a_requests : Fld Z h0 a "com/example/lumenwatt/lumenwatt/simulation/ReplicationResult" "requests" "J" o0) (F0_a_blocked : Fld Z h0 a "com/example/lumenwatt/lumenwatt/simulation/ReplicationResult" "blocked" "J" o1) (F0_a_carriedHops : Fld Z h0 a "com/example/lumenwatt/lumenwatt/simulation/ReplicationResult" "carriedHops" "J" o2) (F0_a_activeHours : Fld Z h0 a "com/example/lumenwatt/lumenwatt/simulation/ReplicationResult" "activeHours" "D" o3) (F0_a_routeWattHours : Fld Z h0 a "com/example/lumenwatt/lumenwatt/simulation/ReplicationResult" "routeWattHours" "D" o4) (F0_a_hours : Fld Z h0 a "com/example/lumenwatt/lumenwatt/simulation/ReplicationResult" "hours" "D" o5) (F0_a_energy : Fld Z h0 a "com/example/lumenwatt/lumenwatt/simulation/ReplicationResult" "energy" "Lcom/example/lumenwatt/lumenwatt/energy/EnergyUse;" o6) :
    MetFree l (⟨"com/example/lumenwatt/lumenwatt/simulation/ReplicationResult", "<init>", "(JJJDDDLcom/example/lumenwatt/lumenwatt/energy/EnergyUse;)V"⟩ : MethodName) (head1 (Jvm.Cond.code (⟨"com/example/lumenwatt/lumenwatt/simulation/ReplicationResult", "<init>", "(JJJDDDLcom/example/lumenwatt/lumenwatt/energy/EnergyUse;)V"⟩ : MethodName) prog_55_method_1_code 14 none :: ws) ({ frames := 2, cells := 0, slots := 0, locals := 24 } : Room)) (fun aa_ U => aa_ = #[(.ref a), (.long x0), (.long x1), (.long x2), (.double x3), (.double x4), (.double x5), (.ref x6)] ∧ Z.Warmed39 U.vm ∧ U.heap = h0) (fun _ _ _ _ _ => True) (fun _ U o U' => ∃ v L, o = .returned v ∧ Q_rep Z a x0 x1 x2 x3 x4 x5 x6 o0 o1 o2 o3 o4 o5 o6 h0 n0 v U'.heap L ∧ FrameEnd U o U' L (({ frames := 2, cells := 0, slots := 0, locals := 24 } : Room)).cells (({ frames := 2, cells := 0, slots := 0, locals := 24 } : Room)).slots) := by
  refine Go.met (plainFor_of_name pn2) ?_
  intro p e s m below meth c s₁ hx hby hml hown hnm hret hlk hZ e0 X0
  have N0 := Fr.nil n0
  refine Go.cast (ef_rep m a x0 x1 x2 x3 x4 x5 x6) ?_
  refine Go.st (U := (s₁.setTop (mkF m 1 #[.val (.ref a), .val (.long x0), .second, .val (.long x1), .second, .val (.long x2), .second, .val (.double x3), .second, .val (.double x4), .second, .val (.double x5), .second, .val (.ref x6)] [(.ref a)]))) (fun t_ k_ => XS.aloadN X0.here hx rfl (hb hby d3_0) rfl rfl k_) ?_
  refine Go.callI X0 hx hZ hown rfl (hw _ (List.mem_of_getElem? (i := 35) rfl)) (hw _ (List.mem_of_getElem? (i := 10) rfl)) (hw _ (List.mem_of_getElem? (i := 12) rfl)) (hw _ (List.mem_of_getElem? (i := 13) rfl)) (by decide) (rm_rec l Z a0 hw [] a h0 n0 Z0 ) e0 0 (by decide) (by decide) (g := (mkF m 1 #[.val (.ref a), .val (.long x0), .second, .val (.long x1), .second, .val (.long x2), .second, .val (.double x3), .second, .val (.double x4), .second, .val (.double x5), .second, .val (.ref x6)] [(.ref a)])) rfl (by rw [hml]; rfl) a [] [] rfl (lenOf pd0 rfl) rfl (by show 2 * 0 + _ ≤ _; exact Nat.le_of_eq rfl) (hb hby d3_1) (by decide) (by decide) ?_
  intro vi1 Ti1 Li1 hQi1 Xi1
  obtain ⟨rfl, Ni1, ei1⟩ := hQi1
  have Ni1 := Fr.app N0 Ni1
  show Go p e below s _ _ (Ti1.setTop (mkF m 4 #[.val (.ref a), .val (.long x0), .second, .val (.long x1), .second, .val (.long x2), .second, .val (.double x3), .second, .val (.double x4), .second, .val (.double x5), .second, .val (.ref x6)] []))
  refine Go.st (U := (Ti1.setTop (mkF m 5 #[.val (.ref a), .val (.long x0), .second, .val (.long x1), .second, .val (.long x2), .second, .val (.double x3), .second, .val (.double x4), .second, .val (.double x5), .second, .val (.ref x6)] [(.ref a)]))) (fun t_ k_ => XS.aloadN Xi1.here hx rfl (hb hby d3_4) rfl rfl k_) ?_
  refine Go.st (U := (Ti1.setTop (mkF m 6 #[.val (.ref a), .val (.long x0), .second, .val (.long x1), .second, .val (.long x2), .second, .val (.double x3), .second, .val (.double x4), .second, .val (.double x5), .second, .val (.ref x6)] [(.long x0), (.ref a)]))) (fun t_ k_ => XS.lloadN Xi1.here hx rfl (hb hby d3_5) rfl k_) ?_
  obtain ⟨Ti2, hi2, Xi2, ei2, Wi2, sti2⟩ := putF Xi1 hx hZ hown (host := "") (Or.inl (hw _ (List.mem_of_getElem? (i := 36) rfl))) Via.refl ei1 F0_a_requests E0_a (Or.inr ⟨(hw _ (List.mem_of_getElem? (i := 37) rfl)), rfl, hnm⟩) (hw _ (List.mem_of_getElem? (i := 30) rfl)) (ty := .long) (by decide) rfl rfl (g := (mkF m 6 #[.val (.ref a), .val (.long x0), .second, .val (.long x1), .second, .val (.long x2), .second, .val (.double x3), .second, .val (.double x4), .second, .val (.double x5), .second, .val (.ref x6)] [(.long x0), (.ref a)])) rfl rfl (hb hby d3_6)
  have Ni2 := Fr.snoc Xi2 Ni1 ge_a
  have Zi2 : n0 ≤ hi2.size := by rw [Wi2.size]; exact Z0
  have Fi2_a_requests := Fld.same Wi2 F0_a_requests
  have Fi2_a_blocked := Fld.other Wi2 F0_a_blocked (Or.inr (slot_ne (Or.inr (hw _ (List.mem_of_getElem? (i := 39) rfl))) (Or.inr (hw _ (List.mem_of_getElem? (i := 37) rfl))) (by decide) (t := .long) (t' := .long) (by decide) (by decide)))
  have Fi2_a_carriedHops := Fld.other Wi2 F0_a_carriedHops (Or.inr (slot_ne (Or.inr (hw _ (List.mem_of_getElem? (i := 41) rfl))) (Or.inr (hw _ (List.mem_of_getElem? (i := 37) rfl))) (by decide) (t := .long) (t' := .long) (by decide) (by decide)))
  have Fi2_a_activeHours := Fld.other Wi2 F0_a_activeHours (Or.inr (slot_ne (Or.inr (hw _ (List.mem_of_getElem? (i := 43) rfl))) (Or.inr (hw _ (List.mem_of_getElem? (i := 37) rfl))) (by decide) (t := .double) (t' := .long) (by decide) (by decide)))
  have Fi2_a_routeWattHours := Fld.other Wi2 F0_a_routeWattHours (Or.inr (slot_ne (Or.inr (hw _ (List.mem_of_getElem? (i := 45) rfl))) (Or.inr (hw _ (List.mem_of_getElem? (i := 37) rfl))) (by decide) (t := .double) (t' := .long) (by decide) (by decide)))
  have Fi2_a_hours := Fld.other Wi2 F0_a_hours (Or.inr (slot_ne (Or.inr (hw _ (List.mem_of_getElem? (i := 47) rfl))) (Or.inr (hw _ (List.mem_of_getElem? (i := 37) rfl))) (by decide) (t := .double) (t' := .long) (by decide) (by decide)))
  have Fi2_a_energy := Fld.other Wi2 F0_a_energy (Or.inr (slot_ne (Or.inr (hw _ (List.mem_of_getElem? (i := 49) rfl))) (Or.inr (hw _ (List.mem_of_getElem? (i := 37) rfl))) (by decide) (t := .object "com/example/lumenwatt/lumenwatt/energy/EnergyUse") (t' := .long) (by decide) (by decide)))
  have Ei2_a := Exa.wr Wi2 E0_a
  have Ki2 := Keep.wr (Keep.refl h0 [a]) Wi2 (Or.inl (List.mem_of_getElem? (i := 0) rfl))
  refine Go.st (U := (Ti2.setTop (mkF m 9 #[.val (.ref a), .val (.long x0), .second, .val (.long x1), .second, .val (.long x2), .second, .val (.double x3), .second, .val (.double x4), .second, .val (.double x5), .second, .val (.ref x6)] []))) sti2 ?_
  refine Go.st (U := (Ti2.setTop (mkF m 10 #[.val (.ref a), .val (.long x0), .second, .val (.long x1), .second, .val (.long x2), .second, .val (.double x3), .second, .val (.double x4), .second, .val (.double x5), .second, .val (.ref x6)] [(.ref a)]))) (fun t_ k_ => XS.aloadN Xi2.here hx rfl (hb hby d3_9) rfl rfl k_) ?_
  refine Go.st (U := (Ti2.setTop (mkF m 11 #[.val (.ref a), .val (.long x0), .second, .val (.long x1), .second, .val (.long x2), .second, .val (.double x3), .second, .val (.double x4), .second, .val (.double x5), .second, .val (.ref x6)] [(.long x1), (.ref a)]))) (fun t_ k_ => XS.lloadN Xi2.here hx rfl (hb hby d3_10) rfl k_) ?_
  obtain ⟨Ti3, hi3, Xi3, ei3, Wi3, sti3⟩ := putF Xi2 hx hZ hown (host := "") (Or.inl (hw _ (List.mem_of_getElem? (i := 38) rfl))) Via.refl ei2 Fi2_a_blocked Ei2_a (Or.inr ⟨(hw _ (List.mem_of_getElem? (i := 39) rfl)), rfl, hnm⟩) (hw _ (List.mem_of_getElem? (i := 30) rfl)) (ty := .long) (by decide) rfl rfl (g := (mkF m 11 #[.val (.ref a), .val (.long x0), .second, .val (.long x1), .second, .val (.long x2), .second, .val (.double x3), .second, .val (.double x4), .second, .val (.double x5), .second, .val (.ref x6)] [(.long x1), (.ref a)])) rfl rfl (hb hby d3_11)
  have Ni3 := Fr.snoc Xi3 Ni2 ge_a
  have Zi3 : n0 ≤ hi3.size := by rw [Wi3.size]; exact Zi2
  have Fi3_a_requests := Fld.other Wi3 Fi2_a_requests (Or.inr (slot_ne (Or.inr (hw _ (List.mem_of_getElem? (i := 37) rfl))) (Or.inr (hw _ (List.mem_of_getElem? (i := 39) rfl))) (by decide) (t := .long) (t' := .long) (by decide) (by decide)))
  have Fi3_a_blocked := Fld.same Wi3 Fi2_a_blocked
  have Fi3_a_carriedHops := Fld.other Wi3 Fi2_a_carriedHops (Or.inr (slot_ne (Or.inr (hw _ (List.mem_of_getElem? (i := 41) rfl))) (Or.inr (hw _ (List.mem_of_getElem? (i := 39) rfl))) (by decide) (t := .long) (t' := .long) (by decide) (by decide)))
  have Fi3_a_activeHours := Fld.other Wi3 Fi2_a_activeHours (Or.inr (slot_ne (Or.inr (hw _ (List.mem_of_getElem? (i := 43) rfl))) (Or.inr (hw _ (List.mem_of_getElem? (i := 39) rfl))) (by decide) (t := .double) (t' := .long) (by decide) (by decide)))
  have Fi3_a_routeWattHours := Fld.other Wi3 Fi2_a_routeWattHours (Or.inr (slot_ne (Or.inr (hw _ (List.mem_of_getElem? (i := 45) rfl))) (Or.inr (hw _ (List.mem_of_getElem? (i := 39) rfl))) (by decide) (t := .double) (t' := .long) (by decide) (by decide)))
  have Fi3_a_hours := Fld.other Wi3 Fi2_a_hours (Or.inr (slot_ne (Or.inr (hw _ (List.mem_of_getElem? (i := 47) rfl))) (Or.inr (hw _ (List.mem_of_getElem? (i := 39) rfl))) (by decide) (t := .double) (t' := .long) (by decide) (by decide)))
  have Fi3_a_energy := Fld.other Wi3 Fi2_a_energy (Or.inr (slot_ne (Or.inr (hw _ (List.mem_of_getElem? (i := 49) rfl))) (Or.inr (hw _ (List.mem_of_getElem? (i := 39) rfl))) (by decide) (t := .object "com/example/lumenwatt/lumenwatt/energy/EnergyUse") (t' := .long) (by decide) (by decide)))
  have Ei3_a := Exa.wr Wi3 Ei2_a
  have Ki3 := Keep.wr Ki2 Wi3 (Or.inl (List.mem_of_getElem? (i := 0) rfl))
  refine Go.st (U := (Ti3.setTop (mkF m 14 #[.val (.ref a), .val (.long x0), .second, .val (.long x1), .second, .val (.long x2), .second, .val (.double x3), .second, .val (.double x4), .second, .val (.double x5), .second, .val (.ref x6)] []))) sti3 ?_
  refine Go.st (U := (Ti3.setTop (mkF m 15 #[.val (.ref a), .val (.long x0), .second, .val (.long x1), .second, .val (.long x2), .second, .val (.double x3), .second, .val (.double x4), .second, .val (.double x5), .second, .val (.ref x6)] [(.ref a)]))) (fun t_ k_ => XS.aloadN Xi3.here hx rfl (hb hby d3_14) rfl rfl k_) ?_
  refine Go.st (U := (Ti3.setTop (mkF m 17 #[.val (.ref a), .val (.long x0), .second, .val (.long x1), .second, .val (.long x2), .second, .val (.double x3), .second, .val (.double x4), .second, .val (.double x5), .second, .val (.ref x6)] [(.long x2), (.ref a)]))) (fun t_ k_ => XS.lload Xi3.here hx rfl (hb hby d3_15) rfl k_) ?_
  obtain ⟨Ti4, hi4, Xi4, ei4, Wi4, sti4⟩ := putF Xi3 hx hZ hown (host := "") (Or.inl (hw _ (List.mem_of_getElem? (i := 40) rfl))) Via.refl ei3 Fi3_a_carriedHops Ei3_a (Or.inr ⟨(hw _ (List.mem_of_getElem? (i := 41) rfl)), rfl, hnm⟩) (hw _ (List.mem_of_getElem? (i := 30) rfl)) (ty := .long) (by decide) rfl rfl (g := (mkF m 17 #[.val (.ref a), .val (.long x0), .second, .val (.long x1), .second, .val (.long x2), .second, .val (.double x3), .second, .val (.double x4), .second, .val (.double x5), .second, .val (.ref x6)] [(.long x2), (.ref a)])) rfl rfl (hb hby d3_17)
  have Ni4 := Fr.snoc Xi4 Ni3 ge_a
  have Zi4 : n0 ≤ hi4.size := by rw [Wi4.size]; exact Zi3
  have Fi4_a_requests := Fld.other Wi4 Fi3_a_requests (Or.inr (slot_ne (Or.inr (hw _ (List.mem_of_getElem? (i := 37) rfl))) (Or.inr (hw _ (List.mem_of_getElem? (i := 41) rfl))) (by decide) (t := .long) (t' := .long) (by decide) (by decide)))
  have Fi4_a_blocked := Fld.other Wi4 Fi3_a_blocked (Or.inr (slot_ne (Or.inr (hw _ (List.mem_of_getElem? (i := 39) rfl))) (Or.inr (hw _ (List.mem_of_getElem? (i := 41) rfl))) (by decide) (t := .long) (t' := .long) (by decide) (by decide)))
  have Fi4_a_carriedHops := Fld.same Wi4 Fi3_a_carriedHops
  have Fi4_a_activeHours := Fld.other Wi4 Fi3_a_activeHours (Or.inr (slot_ne (Or.inr (hw _ (List.mem_of_getElem? (i := 43) rfl))) (Or.inr (hw _ (List.mem_of_getElem? (i := 41) rfl))) (by decide) (t := .double) (t' := .long) (by decide) (by decide)))
  have Fi4_a_routeWattHours := Fld.other Wi4 Fi3_a_routeWattHours (Or.inr (slot_ne (Or.inr (hw _ (List.mem_of_getElem? (i := 45) rfl))) (Or.inr (hw _ (List.mem_of_getElem? (i := 41) rfl))) (by decide) (t := .double) (t' := .long) (by decide) (by decide)))
  have Fi4_a_hours := Fld.other Wi4 Fi3_a_hours (Or.inr (slot_ne (Or.inr (hw _ (List.mem_of_getElem? (i := 47) rfl))) (Or.inr (hw _ (List.mem_of_getElem? (i := 41) rfl))) (by decide) (t := .double) (t' := .long) (by decide) (by decide)))
  have Fi4_a_energy := Fld.other Wi4 Fi3_a_energy (Or.inr (slot_ne (Or.inr (hw _ (List.mem_of_getElem? (i := 49) rfl))) (Or.inr (hw _ (List.mem_of_getElem? (i := 41) rfl))) (by decide) (t := .object "com/example/lumenwatt/lumenwatt/energy/EnergyUse") (t' := .long) (by decide) (by decide)))
  have Ei4_a := Exa.wr Wi4 Ei3_a
  have Ki4 := Keep.wr Ki3 Wi4 (Or.inl (List.mem_of_getElem? (i := 0) rfl))
  refine Go.st (U := (Ti4.setTop (mkF m 20 #[.val (.ref a), .val (.long x0), .second, .val (.long x1), .second, .val (.long x2), .second, .val (.double x3), .second, .val (.double x4), .second, .val (.double x5), .second, .val (.ref x6)] []))) sti4 ?_
  refine Go.st (U := (Ti4.setTop (mkF m 21 #[.val (.ref a), .val (.long x0), .second, .val (.long x1), .second, .val (.long x2), .second, .val (.double x3), .second, .val (.double x4), .second, .val (.double x5), .second, .val (.ref x6)] [(.ref a)]))) (fun t_ k_ => XS.aloadN Xi4.here hx rfl (hb hby d3_20) rfl rfl k_) ?_
  refine Go.st (U := (Ti4.setTop (mkF m 23 #[.val (.ref a), .val (.long x0), .second, .val (.long x1), .second, .val (.long x2), .second, .val (.double x3), .second, .val (.double x4), .second, .val (.double x5), .second, .val (.ref x6)] [(.double x3), (.ref a)]))) (fun t_ k_ => XS.dload Xi4.here hx rfl (hb hby d3_21) rfl k_) ?_
  obtain ⟨Ti5, hi5, Xi5, ei5, Wi5, sti5⟩ := putF Xi4 hx hZ hown (host := "") (Or.inl (hw _ (List.mem_of_getElem? (i := 42) rfl))) Via.refl ei4 Fi4_a_activeHours Ei4_a (Or.inr ⟨(hw _ (List.mem_of_getElem? (i := 43) rfl)), rfl, hnm⟩) (hw _ (List.mem_of_getElem? (i := 30) rfl)) (ty := .double) (by decide) rfl rfl (g := (mkF m 23 #[.val (.ref a), .val (.long x0), .second, .val (.long x1), .second, .val (.long x2), .second, .val (.double x3), .second, .val (.double x4), .second, .val (.double x5), .second, .val (.ref x6)] [(.double x3), (.ref a)])) rfl rfl (hb hby d3_23)
  have Ni5 := Fr.snoc Xi5 Ni4 ge_a
  have Zi5 : n0 ≤ hi5.size := by rw [Wi5.size]; exact Zi4
  have Fi5_a_requests := Fld.other Wi5 Fi4_a_requests (Or.inr (slot_ne (Or.inr (hw _ (List.mem_of_getElem? (i := 37) rfl))) (Or.inr (hw _ (List.mem_of_getElem? (i := 43) rfl))) (by decide) (t := .long) (t' := .double) (by decide) (by decide)))
  have Fi5_a_blocked := Fld.other Wi5 Fi4_a_blocked (Or.inr (slot_ne (Or.inr (hw _ (List.mem_of_getElem? (i := 39) rfl))) (Or.inr (hw _ (List.mem_of_getElem? (i := 43) rfl))) (by decide) (t := .long) (t' := .double) (by decide) (by decide)))
  have Fi5_a_carriedHops := Fld.other Wi5 Fi4_a_carriedHops (Or.inr (slot_ne (Or.inr (hw _ (List.mem_of_getElem? (i := 41) rfl))) (Or.inr (hw _ (List.mem_of_getElem? (i := 43) rfl))) (by decide) (t := .long) (t' := .double) (by decide) (by decide)))
  have Fi5_a_activeHours := Fld.same Wi5 Fi4_a_activeHours
  have Fi5_a_routeWattHours := Fld.other Wi5 Fi4_a_routeWattHours (Or.inr (slot_ne (Or.inr (hw _ (List.mem_of_getElem? (i := 45) rfl))) (Or.inr (hw _ (List.mem_of_getElem? (i := 43) rfl))) (by decide) (t := .double) (t' := .double) (by decide) (by decide)))
  have Fi5_a_hours := Fld.other Wi5 Fi4_a_hours (Or.inr (slot_ne (Or.inr (hw _ (List.mem_of_getElem? (i := 47) rfl))) (Or.inr (hw _ (List.mem_of_getElem? (i := 43) rfl))) (by decide) (t := .double) (t' := .double) (by decide) (by decide)))
  have Fi5_a_energy := Fld.other Wi5 Fi4_a_energy (Or.inr (slot_ne (Or.inr (hw _ (List.mem_of_getElem? (i := 49) rfl))) (Or.inr (hw _ (List.mem_of_getElem? (i := 43) rfl))) (by decide) (t := .object "com/example/lumenwatt/lumenwatt/energy/EnergyUse") (t' := .double) (by decide) (by decide)))
  have Ei5_a := Exa.wr Wi5 Ei4_a
  have Ki5 := Keep.wr Ki4 Wi5 (Or.inl (List.mem_of_getElem? (i := 0) rfl))
  refine Go.st (U := (Ti5.setTop (mkF m 26 #[.val (.ref a), .val (.long x0), .second, .val (.long x1), .second, .val (.long x2), .second, .val (.double x3), .second, .val (.double x4), .second, .val (.double x5), .second, .val (.ref x6)] []))) sti5 ?_
  refine Go.st (U := (Ti5.setTop (mkF m 27 #[.val (.ref a), .val (.long x0), .second, .val (.long x1), .second, .val (.long x2), .second, .val (.double x3), .second, .val (.double x4), .second, .val (.double x5), .second, .val (.ref x6)] [(.ref a)]))) (fun t_ k_ => XS.aloadN Xi5.here hx rfl (hb hby d3_26) rfl rfl k_) ?_
  refine Go.st (U := (Ti5.setTop (mkF m 29 #[.val (.ref a), .val (.long x0), .second, .val (.long x1), .second, .val (.long x2), .second, .val (.double x3), .second, .val (.double x4), .second, .val (.double x5), .second, .val (.ref x6)] [(.double x4), (.ref a)]))) (fun t_ k_ => XS.dload Xi5.here hx rfl (hb hby d3_27) rfl k_) ?_
  obtain ⟨Ti6, hi6, Xi6, ei6, Wi6, sti6⟩ := putF Xi5 hx hZ hown (host := "") (Or.inl (hw _ (List.mem_of_getElem? (i := 44) rfl))) Via.refl ei5 Fi5_a_routeWattHours Ei5_a (Or.inr ⟨(hw _ (List.mem_of_getElem? (i := 45) rfl)), rfl, hnm⟩) (hw _ (List.mem_of_getElem? (i := 30) rfl)) (ty := .double) (by decide) rfl rfl (g := (mkF m 29 #[.val (.ref a), .val (.long x0), .second, .val (.long x1), .second, .val (.long x2), .second, .val (.double x3), .second, .val (.double x4), .second, .val (.double x5), .second, .val (.ref x6)] [(.double x4), (.ref a)])) rfl rfl (hb hby d3_29)
  have Ni6 := Fr.snoc Xi6 Ni5 ge_a
  have Zi6 : n0 ≤ hi6.size := by rw [Wi6.size]; exact Zi5
  have Fi6_a_requests := Fld.other Wi6 Fi5_a_requests (Or.inr (slot_ne (Or.inr (hw _ (List.mem_of_getElem? (i := 37) rfl))) (Or.inr (hw _ (List.mem_of_getElem? (i := 45) rfl))) (by decide) (t := .long) (t' := .double) (by decide) (by decide)))
  have Fi6_a_blocked := Fld.other Wi6 Fi5_a_blocked (Or.inr (slot_ne (Or.inr (hw _ (List.mem_of_getElem? (i := 39) rfl))) (Or.inr (hw _ (List.mem_of_getElem? (i := 45) rfl))) (by decide) (t := .long) (t' := .double) (by decide) (by decide)))
  have Fi6_a_carriedHops := Fld.other Wi6 Fi5_a_carriedHops (Or.inr (slot_ne (Or.inr (hw _ (List.mem_of_getElem? (i := 41) rfl))) (Or.inr (hw _ (List.mem_of_getElem? (i := 45) rfl))) (by decide) (t := .long) (t' := .double) (by decide) (by decide)))
  have Fi6_a_activeHours := Fld.other Wi6 Fi5_a_activeHours (Or.inr (slot_ne (Or.inr (hw _ (List.mem_of_getElem? (i := 43) rfl))) (Or.inr (hw _ (List.mem_of_getElem? (i := 45) rfl))) (by decide) (t := .double) (t' := .double) (by decide) (by decide)))
  have Fi6_a_routeWattHours := Fld.same Wi6 Fi5_a_routeWattHours
  have Fi6_a_hours := Fld.other Wi6 Fi5_a_hours (Or.inr (slot_ne (Or.inr (hw _ (List.mem_of_getElem? (i := 47) rfl))) (Or.inr (hw _ (List.mem_of_getElem? (i := 45) rfl))) (by decide) (t := .double) (t' := .double) (by decide) (by decide)))
  have Fi6_a_energy := Fld.other Wi6 Fi5_a_energy (Or.inr (slot_ne (Or.inr (hw _ (List.mem_of_getElem? (i := 49) rfl))) (Or.inr (hw _ (List.mem_of_getElem? (i := 45) rfl))) (by decide) (t := .object "com/example/lumenwatt/lumenwatt/energy/EnergyUse") (t' := .double) (by decide) (by decide)))
  have Ei6_a := Exa.wr Wi6 Ei5_a
  have Ki6 := Keep.wr Ki5 Wi6 (Or.inl (List.mem_of_getElem? (i := 0) rfl))
  refine Go.st (U := (Ti6.setTop (mkF m 32 #[.val (.ref a), .val (.long x0), .second, .val (.long x1), .second, .val (.long x2), .second, .val (.double x3), .second, .val (.double x4), .second, .val (.double x5), .second, .val (.ref x6)] []))) sti6 ?_
  refine Go.st (U := (Ti6.setTop (mkF m 33 #[.val (.ref a), .val (.long x0), .second, .val (.long x1), .second, .val (.long x2), .second, .val (.double x3), .second, .val (.double x4), .second, .val (.double x5), .second, .val (.ref x6)] [(.ref a)]))) (fun t_ k_ => XS.aloadN Xi6.here hx rfl (hb hby d3_32) rfl rfl k_) ?_
  refine Go.st (U := (Ti6.setTop (mkF m 35 #[.val (.ref a), .val (.long x0), .second, .val (.long x1), .second, .val (.long x2), .second, .val (.double x3), .second, .val (.double x4), .second, .val (.double x5), .second, .val (.ref x6)] [(.double x5), (.ref a)]))) (fun t_ k_ => XS.dload Xi6.here hx rfl (hb hby d3_33) rfl k_) ?_
  obtain ⟨Ti7, hi7, Xi7, ei7, Wi7, sti7⟩ := putF Xi6 hx hZ hown (host := "") (Or.inl (hw _ (List.mem_of_getElem? (i := 46) rfl))) Via.refl ei6 Fi6_a_hours Ei6_a (Or.inr ⟨(hw _ (List.mem_of_getElem? (i := 47) rfl)), rfl, hnm⟩) (hw _ (List.mem_of_getElem? (i := 30) rfl)) (ty := .double) (by decide) rfl rfl (g := (mkF m 35 #[.val (.ref a), .val (.long x0), .second, .val (.long x1), .second, .val (.long x2), .second, .val (.double x3), .second, .val (.double x4), .second, .val (.double x5), .second, .val (.ref x6)] [(.double x5), (.ref a)])) rfl rfl (hb hby d3_35)
  have Ni7 := Fr.snoc Xi7 Ni6 ge_a
  have Zi7 : n0 ≤ hi7.size := by rw [Wi7.size]; exact Zi6
  have Fi7_a_requests := Fld.other Wi7 Fi6_a_requests (Or.inr (slot_ne (Or.inr (hw _ (List.mem_of_getElem? (i := 37) rfl))) (Or.inr (hw _ (List.mem_of_getElem? (i := 47) rfl))) (by decide) (t := .long) (t' := .double) (by decide) (by decide)))
  have Fi7_a_blocked := Fld.other Wi7 Fi6_a_blocked (Or.inr (slot_ne (Or.inr (hw _ (List.mem_of_getElem? (i := 39) rfl))) (Or.inr (hw _ (List.mem_of_getElem? (i := 47) rfl))) (by decide) (t := .long) (t' := .double) (by decide) (by decide)))
  have Fi7_a_carriedHops := Fld.other Wi7 Fi6_a_carriedHops (Or.inr (slot_ne (Or.inr (hw _ (List.mem_of_getElem? (i := 41) rfl))) (Or.inr (hw _ (List.mem_of_getElem? (i := 47) rfl))) (by decide) (t := .long) (t' := .double) (by decide) (by decide)))
  have Fi7_a_activeHours := Fld.other Wi7 Fi6_a_activeHours (Or.inr (slot_ne (Or.inr (hw _ (List.mem_of_getElem? (i := 43) rfl))) (Or.inr (hw _ (List.mem_of_getElem? (i := 47) rfl))) (by decide) (t := .double) (t' := .double) (by decide) (by decide)))
  have Fi7_a_routeWattHours := Fld.other Wi7 Fi6_a_routeWattHours (Or.inr (slot_ne (Or.inr (hw _ (List.mem_of_getElem? (i := 45) rfl))) (Or.inr (hw _ (List.mem_of_getElem? (i := 47) rfl))) (by decide) (t := .double) (t' := .double) (by decide) (by decide)))
  have Fi7_a_hours := Fld.same Wi7 Fi6_a_hours
  have Fi7_a_energy := Fld.other Wi7 Fi6_a_energy (Or.inr (slot_ne (Or.inr (hw _ (List.mem_of_getElem? (i := 49) rfl))) (Or.inr (hw _ (List.mem_of_getElem? (i := 47) rfl))) (by decide) (t := .object "com/example/lumenwatt/lumenwatt/energy/EnergyUse") (t' := .double) (by decide) (by decide)))
  have Ei7_a := Exa.wr Wi7 Ei6_a
  have Ki7 := Keep.wr Ki6 Wi7 (Or.inl (List.mem_of_getElem? (i := 0) rfl))
  refine Go.st (U := (Ti7.setTop (mkF m 38 #[.val (.ref a), .val (.long x0), .second, .val (.long x1), .second, .val (.long x2), .second, .val (.double x3), .second, .val (.double x4), .second, .val (.double x5), .second, .val (.ref x6)] []))) sti7 ?_
  refine Go.st (U := (Ti7.setTop (mkF m 39 #[.val (.ref a), .val (.long x0), .second, .val (.long x1), .second, .val (.long x2), .second, .val (.double x3), .second, .val (.double x4), .second, .val (.double x5), .second, .val (.ref x6)] [(.ref a)]))) (fun t_ k_ => XS.aloadN Xi7.here hx rfl (hb hby d3_38) rfl rfl k_) ?_
  refine Go.st (U := (Ti7.setTop (mkF m 41 #[.val (.ref a), .val (.long x0), .second, .val (.long x1), .second, .val (.long x2), .second, .val (.double x3), .second, .val (.double x4), .second, .val (.double x5), .second, .val (.ref x6)] [(.ref x6), (.ref a)]))) (fun t_ k_ => XS.aload Xi7.here hx rfl (hb hby d3_39) rfl rfl k_) ?_
  obtain ⟨Ti8, hi8, Xi8, ei8, Wi8, sti8⟩ := putF Xi7 hx hZ hown (host := "") (Or.inl (hw _ (List.mem_of_getElem? (i := 48) rfl))) Via.refl ei7 Fi7_a_energy Ei7_a (Or.inr ⟨(hw _ (List.mem_of_getElem? (i := 49) rfl)), rfl, hnm⟩) (hw _ (List.mem_of_getElem? (i := 30) rfl)) (ty := .object "com/example/lumenwatt/lumenwatt/energy/EnergyUse") (by decide) rfl rfl (g := (mkF m 41 #[.val (.ref a), .val (.long x0), .second, .val (.long x1), .second, .val (.long x2), .second, .val (.double x3), .second, .val (.double x4), .second, .val (.double x5), .second, .val (.ref x6)] [(.ref x6), (.ref a)])) rfl rfl (hb hby d3_41)
  have Ni8 := Fr.snoc Xi8 Ni7 ge_a
  have Zi8 : n0 ≤ hi8.size := by rw [Wi8.size]; exact Zi7
  have Fi8_a_requests := Fld.other Wi8 Fi7_a_requests (Or.inr (slot_ne (Or.inr (hw _ (List.mem_of_getElem? (i := 37) rfl))) (Or.inr (hw _ (List.mem_of_getElem? (i := 49) rfl))) (by decide) (t := .long) (t' := .object "com/example/lumenwatt/lumenwatt/energy/EnergyUse") (by decide) (by decide)))
  have Fi8_a_blocked := Fld.other Wi8 Fi7_a_blocked (Or.inr (slot_ne (Or.inr (hw _ (List.mem_of_getElem? (i := 39) rfl))) (Or.inr (hw _ (List.mem_of_getElem? (i := 49) rfl))) (by decide) (t := .long) (t' := .object "com/example/lumenwatt/lumenwatt/energy/EnergyUse") (by decide) (by decide)))
  have Fi8_a_carriedHops := Fld.other Wi8 Fi7_a_carriedHops (Or.inr (slot_ne (Or.inr (hw _ (List.mem_of_getElem? (i := 41) rfl))) (Or.inr (hw _ (List.mem_of_getElem? (i := 49) rfl))) (by decide) (t := .long) (t' := .object "com/example/lumenwatt/lumenwatt/energy/EnergyUse") (by decide) (by decide)))
  have Fi8_a_activeHours := Fld.other Wi8 Fi7_a_activeHours (Or.inr (slot_ne (Or.inr (hw _ (List.mem_of_getElem? (i := 43) rfl))) (Or.inr (hw _ (List.mem_of_getElem? (i := 49) rfl))) (by decide) (t := .double) (t' := .object "com/example/lumenwatt/lumenwatt/energy/EnergyUse") (by decide) (by decide)))
  have Fi8_a_routeWattHours := Fld.other Wi8 Fi7_a_routeWattHours (Or.inr (slot_ne (Or.inr (hw _ (List.mem_of_getElem? (i := 45) rfl))) (Or.inr (hw _ (List.mem_of_getElem? (i := 49) rfl))) (by decide) (t := .double) (t' := .object "com/example/lumenwatt/lumenwatt/energy/EnergyUse") (by decide) (by decide)))
  have Fi8_a_hours := Fld.other Wi8 Fi7_a_hours (Or.inr (slot_ne (Or.inr (hw _ (List.mem_of_getElem? (i := 47) rfl))) (Or.inr (hw _ (List.mem_of_getElem? (i := 49) rfl))) (by decide) (t := .double) (t' := .object "com/example/lumenwatt/lumenwatt/energy/EnergyUse") (by decide) (by decide)))
  have Fi8_a_energy := Fld.same Wi8 Fi7_a_energy
  have Ei8_a := Exa.wr Wi8 Ei7_a
  have Ki8 := Keep.wr Ki7 Wi8 (Or.inl (List.mem_of_getElem? (i := 0) rfl))
  refine Go.st (U := (Ti8.setTop (mkF m 44 #[.val (.ref a), .val (.long x0), .second, .val (.long x1), .second, .val (.long x2), .second, .val (.double x3), .second, .val (.double x4), .second, .val (.double x5), .second, .val (.ref x6)] []))) sti8 ?_
  refine Go.retV (st := []) Xi8 hx hlk hret (hb hby d3_44) (by decide) (by decide) ?_
  show Q_rep Z a x0 x1 x2 x3 x4 x5 x6 o0 o1 o2 o3 o4 o5 o6 h0 n0 _ Ti8.heap _
  rw [ei8]
  exact ⟨rfl, Ni8, Ki8, Ei8_a, Fi8_a_requests, Fi8_a_blocked, Fi8_a_carriedHops, Fi8_a_activeHours, Fi8_a_routeWattHours, Fi8_a_hours, Fi8_a_energy⟩
theorem d4_0 : decode prog_55_method_3_code 0 = .ok (.aload_n 0, 1) := by decide +kernel
theorem d4_1 : decode prog_55_method_3_code 1 = .ok (.getfield 7, 3) := by decide +kernel
theorem d4_4 : decode prog_55_method_3_code 4 = .ok (.aload_n 0, 1) := by decide +kernel
theorem d4_5 : decode prog_55_method_3_code 5 = .ok (.getfield 13, 3) := by decide +kernel
theorem d4_8 : decode prog_55_method_3_code 8 = .ok (.lsub, 1) := by decide +kernel
theorem d4_9 : decode prog_55_method_3_code 9 = .ok (.lstore_n 1, 1) := by decide +kernel
theorem d4_10 : decode prog_55_method_3_code 10 = .ok (.lload_n 1, 1) := by decide +kernel
theorem d4_11 : decode prog_55_method_3_code 11 = .ok (.lconst 0, 1) := by decide +kernel
theorem d4_12 : decode prog_55_method_3_code 12 = .ok (.lcmp, 1) := by decide +kernel
theorem d4_13 : decode prog_55_method_3_code 13 = .ok (.ifCond .ne 7, 3) := by decide +kernel
theorem d4_16 : decode prog_55_method_3_code 16 = .ok (.dconst 0, 1) := by decide +kernel
theorem d4_17 : decode prog_55_method_3_code 17 = .ok (.goto 11, 3) := by decide +kernel
theorem d4_20 : decode prog_55_method_3_code 20 = .ok (.aload_n 0, 1) := by decide +kernel
theorem d4_21 : decode prog_55_method_3_code 21 = .ok (.getfield 16, 3) := by decide +kernel
theorem d4_24 : decode prog_55_method_3_code 24 = .ok (.l2d, 1) := by decide +kernel
theorem d4_25 : decode prog_55_method_3_code 25 = .ok (.lload_n 1, 1) := by decide +kernel
theorem d4_26 : decode prog_55_method_3_code 26 = .ok (.l2d, 1) := by decide +kernel
theorem d4_27 : decode prog_55_method_3_code 27 = .ok (.ddiv, 1) := by decide +kernel
theorem d4_28 : decode prog_55_method_3_code 28 = .ok (.dreturn, 1) := by decide +kernel
def Q_mh0 (Z : State) (a : Addr) (r : Int64) (b : Int64) (k : Int64) (h0 : Heap) (n0 : Nat) (v : Option Value) (h : Heap) (L : List Loc) : Prop := v = some (.double (0 : UInt64)) ∧ Fr n0 L ∧ h = h0
theorem ef_mh0 (m : MethodId) (y0 : Addr) : entryFrame m #[(.ref y0)] 3 = mkF m 0 #[.val (.ref y0), .unset, .unset] [] := by first | (simp [entryFrame, mkF, argsToLocals, Value.category, maxLocals]; done) | rfl
set_option maxRecDepth 65536 in
set_option maxHeartbeats 40000000 in
theorem rm_mh0 (l : Launch) (Z : State) (a0 : Array Value) (hw : ∀ d ∈ tables_1, d.before a0 Z = true) (ws : List Jvm.Cond) (a : Addr) (r : Int64) (b : Int64) (k : Int64) (h0 : Heap) (n0 : Nat) (Z0 : n0 ≤ h0.size) (F0_a_requests : Fld Z h0 a "com/example/lumenwatt/lumenwatt/simulation/ReplicationResult" "requests" "J" (.long r)) (F0_a_blocked : Fld Z h0 a "com/example/lumenwatt/lumenwatt/simulation/ReplicationResult" "blocked" "J" (.long b)) (F0_a_carriedHops : Fld Z h0 a "com/example/lumenwatt/lumenwatt/simulation/ReplicationResult" "carriedHops" "J" (.long k)) (c13 : lcmpW (r - b) (0 : Int64) = (0 : Int32)) :
    MetFree l (⟨"com/example/lumenwatt/lumenwatt/simulation/ReplicationResult", "meanHops", "()D"⟩ : MethodName) (head1 (Jvm.Cond.code (⟨"com/example/lumenwatt/lumenwatt/simulation/ReplicationResult", "meanHops", "()D"⟩ : MethodName) prog_55_method_3_code 3 (some .double) :: ws) ({ frames := 0, cells := 0, slots := 0, locals := 0 } : Room)) (fun aa_ U => aa_ = #[(.ref a)] ∧ Z.Warmed39 U.vm ∧ U.heap = h0) (fun _ _ _ _ _ => True) (fun _ U o U' => ∃ v L, o = .returned v ∧ Q_mh0 Z a r b k h0 n0 v U'.heap L ∧ FrameEnd U o U' L (({ frames := 0, cells := 0, slots := 0, locals := 0 } : Room)).cells (({ frames := 0, cells := 0, slots := 0, locals := 0 } : Room)).slots) := by
  refine Go.met (plainFor_of_name pn2) ?_
  intro p e s m below meth c s₁ hx hby hml hown hnm hret hlk hZ e0 X0
  have N0 := Fr.nil n0
  refine Go.cast (ef_mh0 m a) ?_
  refine Go.st (U := (s₁.setTop (mkF m 1 #[.val (.ref a), .unset, .unset] [(.ref a)]))) (fun t_ k_ => XS.aloadN X0.here hx rfl (hb hby d4_0) rfl rfl k_) ?_
  obtain ⟨Ti1, Xi1, ei1, sti1⟩ := getF X0 hx hZ hown (host := "") (Or.inl (hw _ (List.mem_of_getElem? (i := 36) rfl))) Via.refl e0 F0_a_requests (g := (mkF m 1 #[.val (.ref a), .unset, .unset] [(.ref a)])) rfl rfl (hb hby d4_1)
  refine Go.st (U := (Ti1.setTop (mkF m 4 #[.val (.ref a), .unset, .unset] [(.long r)]))) sti1 ?_
  refine Go.st (U := (Ti1.setTop (mkF m 5 #[.val (.ref a), .unset, .unset] [(.ref a), (.long r)]))) (fun t_ k_ => XS.aloadN Xi1.here hx rfl (hb hby d4_4) rfl rfl k_) ?_
  obtain ⟨Ti2, Xi2, ei2, sti2⟩ := getF Xi1 hx hZ hown (host := "") (Or.inl (hw _ (List.mem_of_getElem? (i := 38) rfl))) Via.refl ei1 F0_a_blocked (g := (mkF m 5 #[.val (.ref a), .unset, .unset] [(.ref a), (.long r)])) rfl rfl (hb hby d4_5)
  refine Go.st (U := (Ti2.setTop (mkF m 8 #[.val (.ref a), .unset, .unset] [(.long b), (.long r)]))) sti2 ?_
  refine Go.st (U := (Ti2.setTop (mkF m 9 #[.val (.ref a), .unset, .unset] [(.long (r - b))]))) (fun t_ k_ => XS.lsub Xi2.here hx rfl (hb hby d4_8) rfl k_) ?_
  refine Go.st (U := (Ti2.setTop (mkF m 10 #[.val (.ref a), .val (.long (r - b)), .second] []))) (fun t_ k_ => XS.lstoreN Xi2.here hx rfl (hb hby d4_9) rfl (l' := #[.val (.ref a), .val (.long (r - b)), .second]) rfl k_) ?_
  refine Go.st (U := (Ti2.setTop (mkF m 11 #[.val (.ref a), .val (.long (r - b)), .second] [(.long (r - b))]))) (fun t_ k_ => XS.lloadN Xi2.here hx rfl (hb hby d4_10) rfl k_) ?_
  refine Go.st (U := (Ti2.setTop (mkF m 12 #[.val (.ref a), .val (.long (r - b)), .second] [(.long (0 : Int64)), (.long (r - b))]))) (fun t_ k_ => XS.lconst Xi2.here hx rfl (hb hby d4_11) k_) ?_
  refine Go.st (U := (Ti2.setTop (mkF m 13 #[.val (.ref a), .val (.long (r - b)), .second] [(.int (lcmpW (r - b) (0 : Int64)))]))) (fun t_ k_ => XS.lcmp Xi2.here hx rfl (hb hby d4_12) rfl k_) ?_
  refine Go.st (U := (Ti2.setTop (mkF m 16 #[.val (.ref a), .val (.long (r - b)), .second] []))) (fun t_ k_ => XS.ifNo Xi2.here hx rfl (hb hby d4_13) rfl ((if0 _ _).trans (teq c13).2) k_) ?_
  refine Go.st (U := (Ti2.setTop (mkF m 17 #[.val (.ref a), .val (.long (r - b)), .second] [(.double (0 : UInt64))]))) (fun t_ k_ => XS.dconst0 Xi2.here hx rfl (hb hby d4_16) rfl k_) ?_
  refine Go.st (U := (Ti2.setTop (mkF m 28 #[.val (.ref a), .val (.long (r - b)), .second] [(.double (0 : UInt64))]))) (fun t_ k_ => XS.goto Xi2.here hx rfl (pc0 := 17) (pc' := 28) rfl (hb hby d4_17) (by decide) (by decide) k_) ?_
  refine Go.retD Xi2 hx hlk hret (hb hby d4_28) (by decide) (by decide) ?_
  show Q_mh0 Z a r b k h0 n0 _ Ti2.heap _
  rw [ei2]
  exact ⟨rfl, N0, rfl⟩
def Q_mh1 (Z : State) (a : Addr) (r : Int64) (b : Int64) (k : Int64) (h0 : Heap) (n0 : Nat) (v : Option Value) (h : Heap) (L : List Loc) : Prop := v = some (.double (FP.ddiv (FP.l2d k) (FP.l2d (r - b)))) ∧ Fr n0 L ∧ h = h0
theorem ef_mh1 (m : MethodId) (y0 : Addr) : entryFrame m #[(.ref y0)] 3 = mkF m 0 #[.val (.ref y0), .unset, .unset] [] := by first | (simp [entryFrame, mkF, argsToLocals, Value.category, maxLocals]; done) | rfl
set_option maxRecDepth 65536 in
set_option maxHeartbeats 40000000 in
theorem rm_mh1 (l : Launch) (Z : State) (a0 : Array Value) (hw : ∀ d ∈ tables_1, d.before a0 Z = true) (ws : List Jvm.Cond) (a : Addr) (r : Int64) (b : Int64) (k : Int64) (h0 : Heap) (n0 : Nat) (Z0 : n0 ≤ h0.size) (F0_a_requests : Fld Z h0 a "com/example/lumenwatt/lumenwatt/simulation/ReplicationResult" "requests" "J" (.long r)) (F0_a_blocked : Fld Z h0 a "com/example/lumenwatt/lumenwatt/simulation/ReplicationResult" "blocked" "J" (.long b)) (F0_a_carriedHops : Fld Z h0 a "com/example/lumenwatt/lumenwatt/simulation/ReplicationResult" "carriedHops" "J" (.long k)) (c13 : ¬ (lcmpW (r - b) (0 : Int64) = (0 : Int32))) (nn : Jvm.Free.Fl.NoNaN64 (FP.ddiv (FP.l2d k) (FP.l2d (r - b)))) :
    MetFree l (⟨"com/example/lumenwatt/lumenwatt/simulation/ReplicationResult", "meanHops", "()D"⟩ : MethodName) (head1 (Jvm.Cond.code (⟨"com/example/lumenwatt/lumenwatt/simulation/ReplicationResult", "meanHops", "()D"⟩ : MethodName) prog_55_method_3_code 3 (some .double) :: ws) ({ frames := 0, cells := 0, slots := 0, locals := 0 } : Room)) (fun aa_ U => aa_ = #[(.ref a)] ∧ Z.Warmed39 U.vm ∧ U.heap = h0) (fun _ _ _ _ _ => True) (fun _ U o U' => ∃ v L, o = .returned v ∧ Q_mh1 Z a r b k h0 n0 v U'.heap L ∧ FrameEnd U o U' L (({ frames := 0, cells := 0, slots := 0, locals := 0 } : Room)).cells (({ frames := 0, cells := 0, slots := 0, locals := 0 } : Room)).slots) := by
  refine Go.met (plainFor_of_name pn2) ?_
  intro p e s m below meth c s₁ hx hby hml hown hnm hret hlk hZ e0 X0
  have N0 := Fr.nil n0
  refine Go.cast (ef_mh1 m a) ?_
  refine Go.st (U := (s₁.setTop (mkF m 1 #[.val (.ref a), .unset, .unset] [(.ref a)]))) (fun t_ k_ => XS.aloadN X0.here hx rfl (hb hby d4_0) rfl rfl k_) ?_
  obtain ⟨Ti1, Xi1, ei1, sti1⟩ := getF X0 hx hZ hown (host := "") (Or.inl (hw _ (List.mem_of_getElem? (i := 36) rfl))) Via.refl e0 F0_a_requests (g := (mkF m 1 #[.val (.ref a), .unset, .unset] [(.ref a)])) rfl rfl (hb hby d4_1)
  refine Go.st (U := (Ti1.setTop (mkF m 4 #[.val (.ref a), .unset, .unset] [(.long r)]))) sti1 ?_
  refine Go.st (U := (Ti1.setTop (mkF m 5 #[.val (.ref a), .unset, .unset] [(.ref a), (.long r)]))) (fun t_ k_ => XS.aloadN Xi1.here hx rfl (hb hby d4_4) rfl rfl k_) ?_
  obtain ⟨Ti2, Xi2, ei2, sti2⟩ := getF Xi1 hx hZ hown (host := "") (Or.inl (hw _ (List.mem_of_getElem? (i := 38) rfl))) Via.refl ei1 F0_a_blocked (g := (mkF m 5 #[.val (.ref a), .unset, .unset] [(.ref a), (.long r)])) rfl rfl (hb hby d4_5)
  refine Go.st (U := (Ti2.setTop (mkF m 8 #[.val (.ref a), .unset, .unset] [(.long b), (.long r)]))) sti2 ?_
  refine Go.st (U := (Ti2.setTop (mkF m 9 #[.val (.ref a), .unset, .unset] [(.long (r - b))]))) (fun t_ k_ => XS.lsub Xi2.here hx rfl (hb hby d4_8) rfl k_) ?_
  refine Go.st (U := (Ti2.setTop (mkF m 10 #[.val (.ref a), .val (.long (r - b)), .second] []))) (fun t_ k_ => XS.lstoreN Xi2.here hx rfl (hb hby d4_9) rfl (l' := #[.val (.ref a), .val (.long (r - b)), .second]) rfl k_) ?_
  refine Go.st (U := (Ti2.setTop (mkF m 11 #[.val (.ref a), .val (.long (r - b)), .second] [(.long (r - b))]))) (fun t_ k_ => XS.lloadN Xi2.here hx rfl (hb hby d4_10) rfl k_) ?_
  refine Go.st (U := (Ti2.setTop (mkF m 12 #[.val (.ref a), .val (.long (r - b)), .second] [(.long (0 : Int64)), (.long (r - b))]))) (fun t_ k_ => XS.lconst Xi2.here hx rfl (hb hby d4_11) k_) ?_
  refine Go.st (U := (Ti2.setTop (mkF m 13 #[.val (.ref a), .val (.long (r - b)), .second] [(.int (lcmpW (r - b) (0 : Int64)))]))) (fun t_ k_ => XS.lcmp Xi2.here hx rfl (hb hby d4_12) rfl k_) ?_
  refine Go.st (U := (Ti2.setTop (mkF m 20 #[.val (.ref a), .val (.long (r - b)), .second] []))) (fun t_ k_ => XS.ifYes Xi2.here hx rfl (pc0 := 13) (pc' := 20) rfl (hb hby d4_13) rfl ((if0 _ _).trans (feq c13).2) (by decide) (by decide) k_) ?_
  refine Go.st (U := (Ti2.setTop (mkF m 21 #[.val (.ref a), .val (.long (r - b)), .second] [(.ref a)]))) (fun t_ k_ => XS.aloadN Xi2.here hx rfl (hb hby d4_20) rfl rfl k_) ?_
  obtain ⟨Ti3, Xi3, ei3, sti3⟩ := getF Xi2 hx hZ hown (host := "") (Or.inl (hw _ (List.mem_of_getElem? (i := 40) rfl))) Via.refl ei2 F0_a_carriedHops (g := (mkF m 21 #[.val (.ref a), .val (.long (r - b)), .second] [(.ref a)])) rfl rfl (hb hby d4_21)
  refine Go.st (U := (Ti3.setTop (mkF m 24 #[.val (.ref a), .val (.long (r - b)), .second] [(.long k)]))) sti3 ?_
  refine Go.st (U := (Ti3.setTop (mkF m 25 #[.val (.ref a), .val (.long (r - b)), .second] [(.double (FP.l2d k))]))) (fun t_ k_ => XS.l2dS Xi3.here hx rfl (hb hby d4_24) rfl rfl k_) ?_
  refine Go.st (U := (Ti3.setTop (mkF m 26 #[.val (.ref a), .val (.long (r - b)), .second] [(.long (r - b)), (.double (FP.l2d k))]))) (fun t_ k_ => XS.lloadN Xi3.here hx rfl (hb hby d4_25) rfl k_) ?_
  refine Go.st (U := (Ti3.setTop (mkF m 27 #[.val (.ref a), .val (.long (r - b)), .second] [(.double (FP.l2d (r - b))), (.double (FP.l2d k))]))) (fun t_ k_ => XS.l2dS Xi3.here hx rfl (hb hby d4_26) rfl rfl k_) ?_
  refine Go.st (U := (Ti3.setTop (mkF m 28 #[.val (.ref a), .val (.long (r - b)), .second] [(.double (FP.ddiv (FP.l2d k) (FP.l2d (r - b))))]))) (fun t_ k_ => XS.ddivS Xi3.here hx rfl (hb hby d4_27) rfl nn rfl k_) ?_
  refine Go.retD Xi3 hx hlk hret (hb hby d4_28) (by decide) (by decide) ?_
  show Q_mh1 Z a r b k h0 n0 _ Ti3.heap _
  rw [ei3]
  exact ⟨rfl, N0, rfl⟩
theorem pn3 : plainName "com/example/lumenwatt/lumenwatt/simulation/ReplicationResultMeanHopsPinLaw" = true := by first | (simp [plainName, overriddenIn]; done) | decide +kernel
def Q_law (Z : State) (p0 : Int64) (p1 : Int32) (p2 : Int32) (p3 : Int32) (p4 : Int64) (h0 : Heap) (n0 : Nat) (v : Option Value) (h : Heap) (L : List Loc) : Prop := v = some (.int 1) ∧ Fr n0 L
theorem ef_law (m : MethodId) (y0 : Int64) (y1 : Int32) (y2 : Int32) (y3 : Int32) (y4 : Int64) : entryFrame m #[(.long y0), (.int y1), (.int y2), (.int y3), (.long y4)] maxLocals = mkF m 0 #[.val (.long y0), .second, .val (.int y1), .val (.int y2), .val (.int y3), .val (.long y4), .second, .unset, .unset, .unset, .unset, .unset, .unset, .unset, .unset, .unset, .unset, .unset, .unset, .unset, .unset, .unset, .unset, .unset, .unset, .unset, .unset, .unset, .unset, .unset, .unset, .unset] [] := by first | (simp [entryFrame, mkF, argsToLocals, Value.category, maxLocals]; done) | rfl
theorem pd1 : parseMethodDescriptor "(DDDDDD)V" = some ⟨[.double, .double, .double, .double, .double, .double], none⟩ := by decide +kernel
theorem pd2 : parseMethodDescriptor "(JJJDDDLcom/example/lumenwatt/lumenwatt/energy/EnergyUse;)V" = some ⟨[.long, .long, .long, .double, .double, .double, .object "com/example/lumenwatt/lumenwatt/energy/EnergyUse"], none⟩ := by decide +kernel
theorem pd3 : parseMethodDescriptor "()D" = some ⟨[], some .double⟩ := by decide +kernel
set_option maxRecDepth 65536 in
set_option maxHeartbeats 40000000 in
theorem rm_law (l : Launch) (Z : State) (a0 : Array Value) (hw : ∀ d ∈ tables_1, d.before a0 Z = true) (ws : List Jvm.Cond) (p0 : Int64) (p1 : Int32) (p2 : Int32) (p3 : Int32) (p4 : Int64) (h0 : Heap) (n0 : Nat) (Z0 : n0 ≤ h0.size)  :
    MetFree l x (head1 (Jvm.Cond.code x code maxLocals ret :: ws) room_1) (fun aa_ U => aa_ = #[(.long p0), (.int p1), (.int p2), (.int p3), (.long p4)] ∧ Z.Warmed39 U.vm ∧ U.heap = h0) (fun _ _ _ _ _ => True) (fun _ U o U' => ∃ v L, o = .returned v ∧ Q_law Z p0 p1 p2 p3 p4 h0 n0 v U'.heap L ∧ FrameEnd U o U' L (room_1).cells (room_1).slots) := by
  refine Go.met (plainFor_of_name pn3) ?_
  intro p e s m below meth c s₁ hx hby hml hown hnm hret hlk hZ e0 X0
  have hml : c.maxLocals = 32 := hml
  have N0 := Fr.nil n0
  refine Go.cast (ef_law m p0 p1 p2 p3 p4) ?_
  refine Go.st (U := (s₁.setTop (mkF m 1 #[.val (.long p0), .second, .val (.int p1), .val (.int p2), .val (.int p3), .val (.long p4), .second, .unset, .unset, .unset, .unset, .unset, .unset, .unset, .unset, .unset, .unset, .unset, .unset, .unset, .unset, .unset, .unset, .unset, .unset, .unset, .unset, .unset, .unset, .unset, .unset, .unset] [(.long p0)]))) (fun t_ k_ => XS.lloadN X0.here hx rfl (hb hby at_0) rfl k_) ?_
  refine Go.st (U := (s₁.setTop (mkF m 4 #[.val (.long p0), .second, .val (.int p1), .val (.int p2), .val (.int p3), .val (.long p4), .second, .unset, .unset, .unset, .unset, .unset, .unset, .unset, .unset, .unset, .unset, .unset, .unset, .unset, .unset, .unset, .unset, .unset, .unset, .unset, .unset, .unset, .unset, .unset, .unset, .unset] [(.long (4611686018427387903 : Int64)), (.long p0)]))) (X0.ldc2Long hx hown (mvT hZ (hw _ (List.mem_of_getElem? (i := 0) rfl))) (g := (mkF m 1 #[.val (.long p0), .second, .val (.int p1), .val (.int p2), .val (.int p3), .val (.long p4), .second, .unset, .unset, .unset, .unset, .unset, .unset, .unset, .unset, .unset, .unset, .unset, .unset, .unset, .unset, .unset, .unset, .unset, .unset, .unset, .unset, .unset, .unset, .unset, .unset, .unset] [(.long p0)])) rfl (hb hby at_1)) ?_
  refine Go.st (U := (s₁.setTop (mkF m 5 #[.val (.long p0), .second, .val (.int p1), .val (.int p2), .val (.int p3), .val (.long p4), .second, .unset, .unset, .unset, .unset, .unset, .unset, .unset, .unset, .unset, .unset, .unset, .unset, .unset, .unset, .unset, .unset, .unset, .unset, .unset, .unset, .unset, .unset, .unset, .unset, .unset] [(.long (p0 &&& (4611686018427387903 : Int64)))]))) (fun t_ k_ => XS.land X0.here hx rfl (hb hby at_4) rfl k_) ?_
  generalize q_bl : (p0 &&& (4611686018427387903 : Int64)) = bl
  refine Go.st (U := (s₁.setTop (mkF m 7 #[.val (.long p0), .second, .val (.int p1), .val (.int p2), .val (.int p3), .val (.long p4), .second, .val (.long bl), .second, .unset, .unset, .unset, .unset, .unset, .unset, .unset, .unset, .unset, .unset, .unset, .unset, .unset, .unset, .unset, .unset, .unset, .unset, .unset, .unset, .unset, .unset, .unset] []))) (fun t_ k_ => XS.lstore X0.here hx rfl (hb hby at_5) rfl (l' := #[.val (.long p0), .second, .val (.int p1), .val (.int p2), .val (.int p3), .val (.long p4), .second, .val (.long bl), .second, .unset, .unset, .unset, .unset, .unset, .unset, .unset, .unset, .unset, .unset, .unset, .unset, .unset, .unset, .unset, .unset, .unset, .unset, .unset, .unset, .unset, .unset, .unset]) rfl k_) ?_
  refine Go.st (U := (s₁.setTop (mkF m 8 #[.val (.long p0), .second, .val (.int p1), .val (.int p2), .val (.int p3), .val (.long p4), .second, .val (.long bl), .second, .unset, .unset, .unset, .unset, .unset, .unset, .unset, .unset, .unset, .unset, .unset, .unset, .unset, .unset, .unset, .unset, .unset, .unset, .unset, .unset, .unset, .unset, .unset] [(.int p1)]))) (fun t_ k_ => XS.iloadN X0.here hx rfl (hb hby at_7) rfl k_) ?_
  refine Go.st (U := (s₁.setTop (mkF m 10 #[.val (.long p0), .second, .val (.int p1), .val (.int p2), .val (.int p3), .val (.long p4), .second, .val (.long bl), .second, .unset, .unset, .unset, .unset, .unset, .unset, .unset, .unset, .unset, .unset, .unset, .unset, .unset, .unset, .unset, .unset, .unset, .unset, .unset, .unset, .unset, .unset, .unset] [(.int (1048575 : Int32)), (.int p1)]))) (X0.ldcInt hx hown (mvT hZ (hw _ (List.mem_of_getElem? (i := 1) rfl))) (g := (mkF m 8 #[.val (.long p0), .second, .val (.int p1), .val (.int p2), .val (.int p3), .val (.long p4), .second, .val (.long bl), .second, .unset, .unset, .unset, .unset, .unset, .unset, .unset, .unset, .unset, .unset, .unset, .unset, .unset, .unset, .unset, .unset, .unset, .unset, .unset, .unset, .unset, .unset, .unset] [(.int p1)])) rfl (hb hby at_8)) ?_
  refine Go.st (U := (s₁.setTop (mkF m 11 #[.val (.long p0), .second, .val (.int p1), .val (.int p2), .val (.int p3), .val (.long p4), .second, .val (.long bl), .second, .unset, .unset, .unset, .unset, .unset, .unset, .unset, .unset, .unset, .unset, .unset, .unset, .unset, .unset, .unset, .unset, .unset, .unset, .unset, .unset, .unset, .unset, .unset] [(.int (p1 &&& (1048575 : Int32)))]))) (fun t_ k_ => XS.iand X0.here hx rfl (hb hby at_10) rfl k_) ?_
  refine Go.st (U := (s₁.setTop (mkF m 12 #[.val (.long p0), .second, .val (.int p1), .val (.int p2), .val (.int p3), .val (.long p4), .second, .val (.long bl), .second, .unset, .unset, .unset, .unset, .unset, .unset, .unset, .unset, .unset, .unset, .unset, .unset, .unset, .unset, .unset, .unset, .unset, .unset, .unset, .unset, .unset, .unset, .unset] [(.long ((p1 &&& (1048575 : Int32)).toInt64))]))) (fun t_ k_ => XS.i2l X0.here hx rfl (hb hby at_11) rfl k_) ?_
  generalize q_kc : ((p1 &&& (1048575 : Int32)).toInt64) = kc
  refine Go.st (U := (s₁.setTop (mkF m 14 #[.val (.long p0), .second, .val (.int p1), .val (.int p2), .val (.int p3), .val (.long p4), .second, .val (.long bl), .second, .val (.long kc), .second, .unset, .unset, .unset, .unset, .unset, .unset, .unset, .unset, .unset, .unset, .unset, .unset, .unset, .unset, .unset, .unset, .unset, .unset, .unset, .unset, .unset] []))) (fun t_ k_ => XS.lstore X0.here hx rfl (hb hby at_12) rfl (l' := #[.val (.long p0), .second, .val (.int p1), .val (.int p2), .val (.int p3), .val (.long p4), .second, .val (.long bl), .second, .val (.long kc), .second, .unset, .unset, .unset, .unset, .unset, .unset, .unset, .unset, .unset, .unset, .unset, .unset, .unset, .unset, .unset, .unset, .unset, .unset, .unset, .unset, .unset]) rfl k_) ?_
  refine Go.st (U := (s₁.setTop (mkF m 15 #[.val (.long p0), .second, .val (.int p1), .val (.int p2), .val (.int p3), .val (.long p4), .second, .val (.long bl), .second, .val (.long kc), .second, .unset, .unset, .unset, .unset, .unset, .unset, .unset, .unset, .unset, .unset, .unset, .unset, .unset, .unset, .unset, .unset, .unset, .unset, .unset, .unset, .unset] [(.int p2)]))) (fun t_ k_ => XS.iloadN X0.here hx rfl (hb hby at_14) rfl k_) ?_
  refine Go.st (U := (s₁.setTop (mkF m 16 #[.val (.long p0), .second, .val (.int p1), .val (.int p2), .val (.int p3), .val (.long p4), .second, .val (.long bl), .second, .val (.long kc), .second, .unset, .unset, .unset, .unset, .unset, .unset, .unset, .unset, .unset, .unset, .unset, .unset, .unset, .unset, .unset, .unset, .unset, .unset, .unset, .unset, .unset] [(.long (p2.toInt64))]))) (fun t_ k_ => XS.i2l X0.here hx rfl (hb hby at_15) rfl k_) ?_
  refine Go.st (U := (s₁.setTop (mkF m 19 #[.val (.long p0), .second, .val (.int p1), .val (.int p2), .val (.int p3), .val (.long p4), .second, .val (.long bl), .second, .val (.long kc), .second, .unset, .unset, .unset, .unset, .unset, .unset, .unset, .unset, .unset, .unset, .unset, .unset, .unset, .unset, .unset, .unset, .unset, .unset, .unset, .unset, .unset] [(.long (2147483647 : Int64)), (.long (p2.toInt64))]))) (X0.ldc2Long hx hown (mvT hZ (hw _ (List.mem_of_getElem? (i := 2) rfl))) (g := (mkF m 16 #[.val (.long p0), .second, .val (.int p1), .val (.int p2), .val (.int p3), .val (.long p4), .second, .val (.long bl), .second, .val (.long kc), .second, .unset, .unset, .unset, .unset, .unset, .unset, .unset, .unset, .unset, .unset, .unset, .unset, .unset, .unset, .unset, .unset, .unset, .unset, .unset, .unset, .unset] [(.long (p2.toInt64))])) rfl (hb hby at_16)) ?_
  refine Go.st (U := (s₁.setTop (mkF m 20 #[.val (.long p0), .second, .val (.int p1), .val (.int p2), .val (.int p3), .val (.long p4), .second, .val (.long bl), .second, .val (.long kc), .second, .unset, .unset, .unset, .unset, .unset, .unset, .unset, .unset, .unset, .unset, .unset, .unset, .unset, .unset, .unset, .unset, .unset, .unset, .unset, .unset, .unset] [(.long ((p2.toInt64) &&& (2147483647 : Int64)))]))) (fun t_ k_ => XS.land X0.here hx rfl (hb hby at_19) rfl k_) ?_
  generalize q_qq : ((p2.toInt64) &&& (2147483647 : Int64)) = qq
  refine Go.st (U := (s₁.setTop (mkF m 22 #[.val (.long p0), .second, .val (.int p1), .val (.int p2), .val (.int p3), .val (.long p4), .second, .val (.long bl), .second, .val (.long kc), .second, .val (.long qq), .second, .unset, .unset, .unset, .unset, .unset, .unset, .unset, .unset, .unset, .unset, .unset, .unset, .unset, .unset, .unset, .unset, .unset, .unset, .unset] []))) (fun t_ k_ => XS.lstore X0.here hx rfl (hb hby at_20) rfl (l' := #[.val (.long p0), .second, .val (.int p1), .val (.int p2), .val (.int p3), .val (.long p4), .second, .val (.long bl), .second, .val (.long kc), .second, .val (.long qq), .second, .unset, .unset, .unset, .unset, .unset, .unset, .unset, .unset, .unset, .unset, .unset, .unset, .unset, .unset, .unset, .unset, .unset, .unset, .unset]) rfl k_) ?_
  have B_k := own_c q_kc
  have B_q : 0 ≤ qq.toInt ∧ qq.toInt ≤ 2147483647 := by rw [← q_qq]; exact own_m31 _
  obtain ⟨Ti1, hi1, Xi1, ei1, Gi1, Ai1, Di1, -, sti1⟩ := newO X0 hx hZ hown (hw _ (List.mem_of_getElem? (i := 3) rfl)) (hw _ (List.mem_of_getElem? (i := 4) rfl)) (hw _ (List.mem_of_getElem? (i := 5) rfl)) e0 (g := (mkF m 22 #[.val (.long p0), .second, .val (.int p1), .val (.int p2), .val (.int p3), .val (.long p4), .second, .val (.long bl), .second, .val (.long kc), .second, .val (.long qq), .second, .unset, .unset, .unset, .unset, .unset, .unset, .unset, .unset, .unset, .unset, .unset, .unset, .unset, .unset, .unset, .unset, .unset, .unset, .unset] [])) rfl (hb hby at_22) (by decide) (by decide)
  obtain ⟨bi1, gi1⟩ : ∃ z, z = h0.size := ⟨_, rfl⟩
  rw [← gi1] at Ai1 Di1 sti1
  have ge_bi1 : n0 ≤ bi1 := Nat.le_trans Z0 (Nat.le_of_eq gi1.symm)
  have sz_bi1 : h0.size ≤ bi1 := Nat.le_of_eq gi1.symm
  have sz0_bi1 : h0.size ≤ bi1 := Nat.le_trans (Keep.size_le (Keep.refl h0 [])) sz_bi1
  have Fi1_bi1_wattHours : Fld Z hi1 bi1 "com/example/lumenwatt/lumenwatt/energy/EnergyUse" "wattHours" "D" (.double 0) := Di1 (Or.inr (hw _ (List.mem_of_getElem? (i := 18) rfl))) (ty := .double) (by decide)
  have Fi1_bi1_trafficWattHours : Fld Z hi1 bi1 "com/example/lumenwatt/lumenwatt/energy/EnergyUse" "trafficWattHours" "D" (.double 0) := Di1 (Or.inr (hw _ (List.mem_of_getElem? (i := 20) rfl))) (ty := .double) (by decide)
  have Fi1_bi1_co2Grams : Fld Z hi1 bi1 "com/example/lumenwatt/lumenwatt/energy/EnergyUse" "co2Grams" "D" (.double 0) := Di1 (Or.inr (hw _ (List.mem_of_getElem? (i := 22) rfl))) (ty := .double) (by decide)
  have Fi1_bi1_trafficCo2Grams : Fld Z hi1 bi1 "com/example/lumenwatt/lumenwatt/energy/EnergyUse" "trafficCo2Grams" "D" (.double 0) := Di1 (Or.inr (hw _ (List.mem_of_getElem? (i := 24) rfl))) (ty := .double) (by decide)
  have Fi1_bi1_greenWattHours : Fld Z hi1 bi1 "com/example/lumenwatt/lumenwatt/energy/EnergyUse" "greenWattHours" "D" (.double 0) := Di1 (Or.inr (hw _ (List.mem_of_getElem? (i := 26) rfl))) (ty := .double) (by decide)
  have Fi1_bi1_trafficGreenWattHours : Fld Z hi1 bi1 "com/example/lumenwatt/lumenwatt/energy/EnergyUse" "trafficGreenWattHours" "D" (.double 0) := Di1 (Or.inr (hw _ (List.mem_of_getElem? (i := 28) rfl))) (ty := .double) (by decide)
  have Zi1 : n0 ≤ hi1.size := Nat.le_trans Z0 Gi1.1
  have Ki1 := Keep.ext (Keep.refl h0 []) Gi1
  refine Go.st (U := (Ti1.setTop (mkF m 25 #[.val (.long p0), .second, .val (.int p1), .val (.int p2), .val (.int p3), .val (.long p4), .second, .val (.long bl), .second, .val (.long kc), .second, .val (.long qq), .second, .unset, .unset, .unset, .unset, .unset, .unset, .unset, .unset, .unset, .unset, .unset, .unset, .unset, .unset, .unset, .unset, .unset, .unset, .unset] [(.ref bi1)]))) sti1 ?_
  refine Go.st (U := (Ti1.setTop (mkF m 26 #[.val (.long p0), .second, .val (.int p1), .val (.int p2), .val (.int p3), .val (.long p4), .second, .val (.long bl), .second, .val (.long kc), .second, .val (.long qq), .second, .unset, .unset, .unset, .unset, .unset, .unset, .unset, .unset, .unset, .unset, .unset, .unset, .unset, .unset, .unset, .unset, .unset, .unset, .unset] [(.ref bi1), (.ref bi1)]))) (fun t_ k_ => XS.dup Xi1.here hx rfl (hb hby at_25) rfl rfl k_) ?_
  refine Go.st (U := (Ti1.setTop (mkF m 27 #[.val (.long p0), .second, .val (.int p1), .val (.int p2), .val (.int p3), .val (.long p4), .second, .val (.long bl), .second, .val (.long kc), .second, .val (.long qq), .second, .unset, .unset, .unset, .unset, .unset, .unset, .unset, .unset, .unset, .unset, .unset, .unset, .unset, .unset, .unset, .unset, .unset, .unset, .unset] [(.double (0 : UInt64)), (.ref bi1), (.ref bi1)]))) (fun t_ k_ => XS.dconst0 Xi1.here hx rfl (hb hby at_26) rfl k_) ?_
  refine Go.st (U := (Ti1.setTop (mkF m 28 #[.val (.long p0), .second, .val (.int p1), .val (.int p2), .val (.int p3), .val (.long p4), .second, .val (.long bl), .second, .val (.long kc), .second, .val (.long qq), .second, .unset, .unset, .unset, .unset, .unset, .unset, .unset, .unset, .unset, .unset, .unset, .unset, .unset, .unset, .unset, .unset, .unset, .unset, .unset] [(.double (0 : UInt64)), (.double (0 : UInt64)), (.ref bi1), (.ref bi1)]))) (fun t_ k_ => XS.dconst0 Xi1.here hx rfl (hb hby at_27) rfl k_) ?_
  refine Go.st (U := (Ti1.setTop (mkF m 29 #[.val (.long p0), .second, .val (.int p1), .val (.int p2), .val (.int p3), .val (.long p4), .second, .val (.long bl), .second, .val (.long kc), .second, .val (.long qq), .second, .unset, .unset, .unset, .unset, .unset, .unset, .unset, .unset, .unset, .unset, .unset, .unset, .unset, .unset, .unset, .unset, .unset, .unset, .unset] [(.double (0 : UInt64)), (.double (0 : UInt64)), (.double (0 : UInt64)), (.ref bi1), (.ref bi1)]))) (fun t_ k_ => XS.dconst0 Xi1.here hx rfl (hb hby at_28) rfl k_) ?_
  refine Go.st (U := (Ti1.setTop (mkF m 30 #[.val (.long p0), .second, .val (.int p1), .val (.int p2), .val (.int p3), .val (.long p4), .second, .val (.long bl), .second, .val (.long kc), .second, .val (.long qq), .second, .unset, .unset, .unset, .unset, .unset, .unset, .unset, .unset, .unset, .unset, .unset, .unset, .unset, .unset, .unset, .unset, .unset, .unset, .unset] [(.double (0 : UInt64)), (.double (0 : UInt64)), (.double (0 : UInt64)), (.double (0 : UInt64)), (.ref bi1), (.ref bi1)]))) (fun t_ k_ => XS.dconst0 Xi1.here hx rfl (hb hby at_29) rfl k_) ?_
  refine Go.st (U := (Ti1.setTop (mkF m 31 #[.val (.long p0), .second, .val (.int p1), .val (.int p2), .val (.int p3), .val (.long p4), .second, .val (.long bl), .second, .val (.long kc), .second, .val (.long qq), .second, .unset, .unset, .unset, .unset, .unset, .unset, .unset, .unset, .unset, .unset, .unset, .unset, .unset, .unset, .unset, .unset, .unset, .unset, .unset] [(.double (0 : UInt64)), (.double (0 : UInt64)), (.double (0 : UInt64)), (.double (0 : UInt64)), (.double (0 : UInt64)), (.ref bi1), (.ref bi1)]))) (fun t_ k_ => XS.dconst0 Xi1.here hx rfl (hb hby at_30) rfl k_) ?_
  refine Go.st (U := (Ti1.setTop (mkF m 32 #[.val (.long p0), .second, .val (.int p1), .val (.int p2), .val (.int p3), .val (.long p4), .second, .val (.long bl), .second, .val (.long kc), .second, .val (.long qq), .second, .unset, .unset, .unset, .unset, .unset, .unset, .unset, .unset, .unset, .unset, .unset, .unset, .unset, .unset, .unset, .unset, .unset, .unset, .unset] [(.double (0 : UInt64)), (.double (0 : UInt64)), (.double (0 : UInt64)), (.double (0 : UInt64)), (.double (0 : UInt64)), (.double (0 : UInt64)), (.ref bi1), (.ref bi1)]))) (fun t_ k_ => XS.dconst0 Xi1.here hx rfl (hb hby at_31) rfl k_) ?_
  refine Go.callI Xi1 hx hZ hown rfl (hw _ (List.mem_of_getElem? (i := 6) rfl)) (hw _ (List.mem_of_getElem? (i := 7) rfl)) (hw _ (List.mem_of_getElem? (i := 5) rfl)) (hw _ (List.mem_of_getElem? (i := 8) rfl)) (by decide) (rm_eng l Z a0 hw [] bi1 (0 : UInt64) (0 : UInt64) (0 : UInt64) (0 : UInt64) (0 : UInt64) (0 : UInt64) (.double 0) (.double 0) (.double 0) (.double 0) (.double 0) (.double 0) hi1 n0 Zi1 Ai1 ge_bi1 Fi1_bi1_wattHours Fi1_bi1_trafficWattHours Fi1_bi1_co2Grams Fi1_bi1_trafficCo2Grams Fi1_bi1_greenWattHours Fi1_bi1_trafficGreenWattHours) ei1 1 (by decide) (by decide) (g := (mkF m 32 #[.val (.long p0), .second, .val (.int p1), .val (.int p2), .val (.int p3), .val (.long p4), .second, .val (.long bl), .second, .val (.long kc), .second, .val (.long qq), .second, .unset, .unset, .unset, .unset, .unset, .unset, .unset, .unset, .unset, .unset, .unset, .unset, .unset, .unset, .unset, .unset, .unset, .unset, .unset] [(.double (0 : UInt64)), (.double (0 : UInt64)), (.double (0 : UInt64)), (.double (0 : UInt64)), (.double (0 : UInt64)), (.double (0 : UInt64)), (.ref bi1), (.ref bi1)])) rfl (by rw [hml]; rfl) bi1 [(.double (0 : UInt64)), (.double (0 : UInt64)), (.double (0 : UInt64)), (.double (0 : UInt64)), (.double (0 : UInt64)), (.double (0 : UInt64))] [(.ref bi1)] rfl (lenOf pd1 rfl) rfl (by show 2 * 0 + _ ≤ _; exact Nat.le_of_eq rfl) (hb hby at_32) (by decide) (by decide) ?_
  intro vi2 Ti2 Li2 hQi2 Xi2
  obtain ⟨rfl, Ni2, Ki2, Ei2_bi1, Fi2_bi1_wattHours, Fi2_bi1_trafficWattHours, Fi2_bi1_co2Grams, Fi2_bi1_trafficCo2Grams, Fi2_bi1_greenWattHours, Fi2_bi1_trafficGreenWattHours⟩ := hQi2
  have Ni2 := Fr.app N0 Ni2
  have Zi2 : n0 ≤ Ti2.heap.size := Nat.le_trans Zi1 Ki2.1
  have Ki2 := Keep.trans Ki1 Ki2 (allS (Or.inr sz0_bi1) all0)
  show Go p e below s _ _ (Ti2.setTop (mkF m 35 #[.val (.long p0), .second, .val (.int p1), .val (.int p2), .val (.int p3), .val (.long p4), .second, .val (.long bl), .second, .val (.long kc), .second, .val (.long qq), .second, .unset, .unset, .unset, .unset, .unset, .unset, .unset, .unset, .unset, .unset, .unset, .unset, .unset, .unset, .unset, .unset, .unset, .unset, .unset] [(.ref bi1)]))
  refine Go.st (U := (Ti2.setTop (mkF m 37 #[.val (.long p0), .second, .val (.int p1), .val (.int p2), .val (.int p3), .val (.long p4), .second, .val (.long bl), .second, .val (.long kc), .second, .val (.long qq), .second, .val (.ref bi1), .unset, .unset, .unset, .unset, .unset, .unset, .unset, .unset, .unset, .unset, .unset, .unset, .unset, .unset, .unset, .unset, .unset, .unset] []))) (fun t_ k_ => XS.astore Xi2.here hx rfl (hb hby at_35) rfl rfl (l' := #[.val (.long p0), .second, .val (.int p1), .val (.int p2), .val (.int p3), .val (.long p4), .second, .val (.long bl), .second, .val (.long kc), .second, .val (.long qq), .second, .val (.ref bi1), .unset, .unset, .unset, .unset, .unset, .unset, .unset, .unset, .unset, .unset, .unset, .unset, .unset, .unset, .unset, .unset, .unset, .unset]) rfl k_) ?_
  obtain ⟨Ti3, hi3, Xi3, ei3, Gi3, Ai3, Di3, -, sti3⟩ := newO Xi2 hx hZ hown (hw _ (List.mem_of_getElem? (i := 29) rfl)) (hw _ (List.mem_of_getElem? (i := 30) rfl)) (hw _ (List.mem_of_getElem? (i := 31) rfl)) (rfl : Ti2.heap = Ti2.heap) (g := (mkF m 37 #[.val (.long p0), .second, .val (.int p1), .val (.int p2), .val (.int p3), .val (.long p4), .second, .val (.long bl), .second, .val (.long kc), .second, .val (.long qq), .second, .val (.ref bi1), .unset, .unset, .unset, .unset, .unset, .unset, .unset, .unset, .unset, .unset, .unset, .unset, .unset, .unset, .unset, .unset, .unset, .unset] [])) rfl (hb hby at_37) (by decide) (by decide)
  obtain ⟨bi3, gi3⟩ : ∃ z, z = Ti2.heap.size := ⟨_, rfl⟩
  rw [← gi3] at Ai3 Di3 sti3
  have ge_bi3 : n0 ≤ bi3 := Nat.le_trans Zi2 (Nat.le_of_eq gi3.symm)
  have sz_bi3 : Ti2.heap.size ≤ bi3 := Nat.le_of_eq gi3.symm
  have sz0_bi3 : h0.size ≤ bi3 := Nat.le_trans (Keep.size_le Ki2) sz_bi3
  have ne_bi1_bi3 : bi1 ≠ bi3 := Nat.ne_of_lt (Nat.lt_of_lt_of_le (Exa.lt Ei2_bi1) sz_bi3)
  have Ei3_bi1 := Exa.ext Gi3 Ei2_bi1
  have Fi3_bi3_requests : Fld Z hi3 bi3 "com/example/lumenwatt/lumenwatt/simulation/ReplicationResult" "requests" "J" (.long 0) := Di3 (Or.inr (hw _ (List.mem_of_getElem? (i := 37) rfl))) (ty := .long) (by decide)
  have Fi3_bi3_blocked : Fld Z hi3 bi3 "com/example/lumenwatt/lumenwatt/simulation/ReplicationResult" "blocked" "J" (.long 0) := Di3 (Or.inr (hw _ (List.mem_of_getElem? (i := 39) rfl))) (ty := .long) (by decide)
  have Fi3_bi3_carriedHops : Fld Z hi3 bi3 "com/example/lumenwatt/lumenwatt/simulation/ReplicationResult" "carriedHops" "J" (.long 0) := Di3 (Or.inr (hw _ (List.mem_of_getElem? (i := 41) rfl))) (ty := .long) (by decide)
  have Fi3_bi3_activeHours : Fld Z hi3 bi3 "com/example/lumenwatt/lumenwatt/simulation/ReplicationResult" "activeHours" "D" (.double 0) := Di3 (Or.inr (hw _ (List.mem_of_getElem? (i := 43) rfl))) (ty := .double) (by decide)
  have Fi3_bi3_routeWattHours : Fld Z hi3 bi3 "com/example/lumenwatt/lumenwatt/simulation/ReplicationResult" "routeWattHours" "D" (.double 0) := Di3 (Or.inr (hw _ (List.mem_of_getElem? (i := 45) rfl))) (ty := .double) (by decide)
  have Fi3_bi3_hours : Fld Z hi3 bi3 "com/example/lumenwatt/lumenwatt/simulation/ReplicationResult" "hours" "D" (.double 0) := Di3 (Or.inr (hw _ (List.mem_of_getElem? (i := 47) rfl))) (ty := .double) (by decide)
  have Fi3_bi3_energy : Fld Z hi3 bi3 "com/example/lumenwatt/lumenwatt/simulation/ReplicationResult" "energy" "Lcom/example/lumenwatt/lumenwatt/energy/EnergyUse;" .null := Di3 (Or.inr (hw _ (List.mem_of_getElem? (i := 49) rfl))) (ty := .object "com/example/lumenwatt/lumenwatt/energy/EnergyUse") (by decide)
  have Zi3 : n0 ≤ hi3.size := Nat.le_trans Zi2 Gi3.1
  have Ki3 := Keep.ext Ki2 Gi3
  refine Go.st (U := (Ti3.setTop (mkF m 40 #[.val (.long p0), .second, .val (.int p1), .val (.int p2), .val (.int p3), .val (.long p4), .second, .val (.long bl), .second, .val (.long kc), .second, .val (.long qq), .second, .val (.ref bi1), .unset, .unset, .unset, .unset, .unset, .unset, .unset, .unset, .unset, .unset, .unset, .unset, .unset, .unset, .unset, .unset, .unset, .unset] [(.ref bi3)]))) sti3 ?_
  refine Go.st (U := (Ti3.setTop (mkF m 41 #[.val (.long p0), .second, .val (.int p1), .val (.int p2), .val (.int p3), .val (.long p4), .second, .val (.long bl), .second, .val (.long kc), .second, .val (.long qq), .second, .val (.ref bi1), .unset, .unset, .unset, .unset, .unset, .unset, .unset, .unset, .unset, .unset, .unset, .unset, .unset, .unset, .unset, .unset, .unset, .unset] [(.ref bi3), (.ref bi3)]))) (fun t_ k_ => XS.dup Xi3.here hx rfl (hb hby at_40) rfl rfl k_) ?_
  refine Go.st (U := (Ti3.setTop (mkF m 43 #[.val (.long p0), .second, .val (.int p1), .val (.int p2), .val (.int p3), .val (.long p4), .second, .val (.long bl), .second, .val (.long kc), .second, .val (.long qq), .second, .val (.ref bi1), .unset, .unset, .unset, .unset, .unset, .unset, .unset, .unset, .unset, .unset, .unset, .unset, .unset, .unset, .unset, .unset, .unset, .unset] [(.long bl), (.ref bi3), (.ref bi3)]))) (fun t_ k_ => XS.lload Xi3.here hx rfl (hb hby at_41) rfl k_) ?_
  refine Go.st (U := (Ti3.setTop (mkF m 45 #[.val (.long p0), .second, .val (.int p1), .val (.int p2), .val (.int p3), .val (.long p4), .second, .val (.long bl), .second, .val (.long kc), .second, .val (.long qq), .second, .val (.ref bi1), .unset, .unset, .unset, .unset, .unset, .unset, .unset, .unset, .unset, .unset, .unset, .unset, .unset, .unset, .unset, .unset, .unset, .unset] [(.long bl), (.long bl), (.ref bi3), (.ref bi3)]))) (fun t_ k_ => XS.lload Xi3.here hx rfl (hb hby at_43) rfl k_) ?_
  refine Go.st (U := (Ti3.setTop (mkF m 47 #[.val (.long p0), .second, .val (.int p1), .val (.int p2), .val (.int p3), .val (.long p4), .second, .val (.long bl), .second, .val (.long kc), .second, .val (.long qq), .second, .val (.ref bi1), .unset, .unset, .unset, .unset, .unset, .unset, .unset, .unset, .unset, .unset, .unset, .unset, .unset, .unset, .unset, .unset, .unset, .unset] [(.long p4), (.long bl), (.long bl), (.ref bi3), (.ref bi3)]))) (fun t_ k_ => XS.lload Xi3.here hx rfl (hb hby at_45) rfl k_) ?_
  refine Go.st (U := (Ti3.setTop (mkF m 48 #[.val (.long p0), .second, .val (.int p1), .val (.int p2), .val (.int p3), .val (.long p4), .second, .val (.long bl), .second, .val (.long kc), .second, .val (.long qq), .second, .val (.ref bi1), .unset, .unset, .unset, .unset, .unset, .unset, .unset, .unset, .unset, .unset, .unset, .unset, .unset, .unset, .unset, .unset, .unset, .unset] [(.double (0 : UInt64)), (.long p4), (.long bl), (.long bl), (.ref bi3), (.ref bi3)]))) (fun t_ k_ => XS.dconst0 Xi3.here hx rfl (hb hby at_47) rfl k_) ?_
  refine Go.st (U := (Ti3.setTop (mkF m 49 #[.val (.long p0), .second, .val (.int p1), .val (.int p2), .val (.int p3), .val (.long p4), .second, .val (.long bl), .second, .val (.long kc), .second, .val (.long qq), .second, .val (.ref bi1), .unset, .unset, .unset, .unset, .unset, .unset, .unset, .unset, .unset, .unset, .unset, .unset, .unset, .unset, .unset, .unset, .unset, .unset] [(.double (0 : UInt64)), (.double (0 : UInt64)), (.long p4), (.long bl), (.long bl), (.ref bi3), (.ref bi3)]))) (fun t_ k_ => XS.dconst0 Xi3.here hx rfl (hb hby at_48) rfl k_) ?_
  refine Go.st (U := (Ti3.setTop (mkF m 50 #[.val (.long p0), .second, .val (.int p1), .val (.int p2), .val (.int p3), .val (.long p4), .second, .val (.long bl), .second, .val (.long kc), .second, .val (.long qq), .second, .val (.ref bi1), .unset, .unset, .unset, .unset, .unset, .unset, .unset, .unset, .unset, .unset, .unset, .unset, .unset, .unset, .unset, .unset, .unset, .unset] [(.double (0 : UInt64)), (.double (0 : UInt64)), (.double (0 : UInt64)), (.long p4), (.long bl), (.long bl), (.ref bi3), (.ref bi3)]))) (fun t_ k_ => XS.dconst0 Xi3.here hx rfl (hb hby at_49) rfl k_) ?_
  refine Go.st (U := (Ti3.setTop (mkF m 52 #[.val (.long p0), .second, .val (.int p1), .val (.int p2), .val (.int p3), .val (.long p4), .second, .val (.long bl), .second, .val (.long kc), .second, .val (.long qq), .second, .val (.ref bi1), .unset, .unset, .unset, .unset, .unset, .unset, .unset, .unset, .unset, .unset, .unset, .unset, .unset, .unset, .unset, .unset, .unset, .unset] [(.ref bi1), (.double (0 : UInt64)), (.double (0 : UInt64)), (.double (0 : UInt64)), (.long p4), (.long bl), (.long bl), (.ref bi3), (.ref bi3)]))) (fun t_ k_ => XS.aload Xi3.here hx rfl (hb hby at_50) rfl rfl k_) ?_
  refine Go.callI Xi3 hx hZ hown rfl (hw _ (List.mem_of_getElem? (i := 32) rfl)) (hw _ (List.mem_of_getElem? (i := 33) rfl)) (hw _ (List.mem_of_getElem? (i := 31) rfl)) (hw _ (List.mem_of_getElem? (i := 34) rfl)) (by decide) (rm_rep l Z a0 hw [] bi3 bl bl p4 (0 : UInt64) (0 : UInt64) (0 : UInt64) bi1 (.long 0) (.long 0) (.long 0) (.double 0) (.double 0) (.double 0) (.null) hi3 n0 Zi3 Ai3 ge_bi3 Fi3_bi3_requests Fi3_bi3_blocked Fi3_bi3_carriedHops Fi3_bi3_activeHours Fi3_bi3_routeWattHours Fi3_bi3_hours Fi3_bi3_energy) ei3 1 (by decide) (by decide) (g := (mkF m 52 #[.val (.long p0), .second, .val (.int p1), .val (.int p2), .val (.int p3), .val (.long p4), .second, .val (.long bl), .second, .val (.long kc), .second, .val (.long qq), .second, .val (.ref bi1), .unset, .unset, .unset, .unset, .unset, .unset, .unset, .unset, .unset, .unset, .unset, .unset, .unset, .unset, .unset, .unset, .unset, .unset] [(.ref bi1), (.double (0 : UInt64)), (.double (0 : UInt64)), (.double (0 : UInt64)), (.long p4), (.long bl), (.long bl), (.ref bi3), (.ref bi3)])) rfl (by rw [hml]; rfl) bi3 [(.long bl), (.long bl), (.long p4), (.double (0 : UInt64)), (.double (0 : UInt64)), (.double (0 : UInt64)), (.ref bi1)] [(.ref bi3)] rfl (lenOf pd2 rfl) rfl (by show 2 * 0 + _ ≤ _; exact Nat.le_of_eq rfl) (hb hby at_52) (by decide) (by decide) ?_
  intro vi4 Ti4 Li4 hQi4 Xi4
  obtain ⟨rfl, Ni4, Ki4, Ei4_bi3, Fi4_bi3_requests, Fi4_bi3_blocked, Fi4_bi3_carriedHops, Fi4_bi3_activeHours, Fi4_bi3_routeWattHours, Fi4_bi3_hours, Fi4_bi3_energy⟩ := hQi4
  have Ni4 := Fr.app Ni2 Ni4
  have Zi4 : n0 ≤ Ti4.heap.size := Nat.le_trans Zi3 Ki4.1
  have Ei4_bi1 := Exa.keep Ei3_bi1 Ki4
  have Ki4 := Keep.trans Ki3 Ki4 (allS (Or.inr sz0_bi3) all0)
  show Go p e below s _ _ (Ti4.setTop (mkF m 55 #[.val (.long p0), .second, .val (.int p1), .val (.int p2), .val (.int p3), .val (.long p4), .second, .val (.long bl), .second, .val (.long kc), .second, .val (.long qq), .second, .val (.ref bi1), .unset, .unset, .unset, .unset, .unset, .unset, .unset, .unset, .unset, .unset, .unset, .unset, .unset, .unset, .unset, .unset, .unset, .unset] [(.ref bi3)]))
  refine Go.st (U := (Ti4.setTop (mkF m 57 #[.val (.long p0), .second, .val (.int p1), .val (.int p2), .val (.int p3), .val (.long p4), .second, .val (.long bl), .second, .val (.long kc), .second, .val (.long qq), .second, .val (.ref bi1), .val (.ref bi3), .unset, .unset, .unset, .unset, .unset, .unset, .unset, .unset, .unset, .unset, .unset, .unset, .unset, .unset, .unset, .unset, .unset] []))) (fun t_ k_ => XS.astore Xi4.here hx rfl (hb hby at_55) rfl rfl (l' := #[.val (.long p0), .second, .val (.int p1), .val (.int p2), .val (.int p3), .val (.long p4), .second, .val (.long bl), .second, .val (.long kc), .second, .val (.long qq), .second, .val (.ref bi1), .val (.ref bi3), .unset, .unset, .unset, .unset, .unset, .unset, .unset, .unset, .unset, .unset, .unset, .unset, .unset, .unset, .unset, .unset, .unset]) rfl k_) ?_
  refine Go.st (U := (Ti4.setTop (mkF m 59 #[.val (.long p0), .second, .val (.int p1), .val (.int p2), .val (.int p3), .val (.long p4), .second, .val (.long bl), .second, .val (.long kc), .second, .val (.long qq), .second, .val (.ref bi1), .val (.ref bi3), .unset, .unset, .unset, .unset, .unset, .unset, .unset, .unset, .unset, .unset, .unset, .unset, .unset, .unset, .unset, .unset, .unset] [(.ref bi3)]))) (fun t_ k_ => XS.aload Xi4.here hx rfl (hb hby at_57) rfl rfl k_) ?_
  refine Go.callV Xi4 hx hZ hown (hw _ (List.mem_of_getElem? (i := 50) rfl)) (hw _ (List.mem_of_getElem? (i := 51) rfl)) (hw _ (List.mem_of_getElem? (i := 53) rfl)) (hw _ (List.mem_of_getElem? (i := 52) rfl)) (hw _ (List.mem_of_getElem? (i := 31) rfl)) (hw _ (List.mem_of_getElem? (i := 54) rfl)) (by decide) (rm_mh0 l Z a0 hw [] bi3 bl bl p4 Ti4.heap n0 Zi4 Fi4_bi3_requests Fi4_bi3_blocked Fi4_bi3_carriedHops own_zero) (rfl : Ti4.heap = Ti4.heap) bi3 Ei4_bi3 0 (by decide) (by decide) (g := (mkF m 59 #[.val (.long p0), .second, .val (.int p1), .val (.int p2), .val (.int p3), .val (.long p4), .second, .val (.long bl), .second, .val (.long kc), .second, .val (.long qq), .second, .val (.ref bi1), .val (.ref bi3), .unset, .unset, .unset, .unset, .unset, .unset, .unset, .unset, .unset, .unset, .unset, .unset, .unset, .unset, .unset, .unset, .unset] [(.ref bi3)])) rfl (by rw [hml]; rfl) [] [] rfl (lenOf pd3 rfl) rfl (by show 2 * 0 + _ ≤ _; exact Nat.le_of_eq rfl) (hb hby at_59) (by decide) (by decide) ?_
  intro vi5 Ti5 Li5 hQi5 Xi5
  obtain ⟨rfl, Ni5, ei5⟩ := hQi5
  have Ni5 := Fr.app Ni4 Ni5
  show Go p e below s _ _ (Ti5.setTop (mkF m 62 #[.val (.long p0), .second, .val (.int p1), .val (.int p2), .val (.int p3), .val (.long p4), .second, .val (.long bl), .second, .val (.long kc), .second, .val (.long qq), .second, .val (.ref bi1), .val (.ref bi3), .unset, .unset, .unset, .unset, .unset, .unset, .unset, .unset, .unset, .unset, .unset, .unset, .unset, .unset, .unset, .unset, .unset] [(.double (0 : UInt64))]))
  refine Go.st (U := (Ti5.setTop (mkF m 63 #[.val (.long p0), .second, .val (.int p1), .val (.int p2), .val (.int p3), .val (.long p4), .second, .val (.long bl), .second, .val (.long kc), .second, .val (.long qq), .second, .val (.ref bi1), .val (.ref bi3), .unset, .unset, .unset, .unset, .unset, .unset, .unset, .unset, .unset, .unset, .unset, .unset, .unset, .unset, .unset, .unset, .unset] [(.double (0 : UInt64)), (.double (0 : UInt64))]))) (fun t_ k_ => XS.dconst0 Xi5.here hx rfl (hb hby at_62) rfl k_) ?_
  refine Go.st (U := (Ti5.setTop (mkF m 64 #[.val (.long p0), .second, .val (.int p1), .val (.int p2), .val (.int p3), .val (.long p4), .second, .val (.long bl), .second, .val (.long kc), .second, .val (.long qq), .second, .val (.ref bi1), .val (.ref bi3), .unset, .unset, .unset, .unset, .unset, .unset, .unset, .unset, .unset, .unset, .unset, .unset, .unset, .unset, .unset, .unset, .unset] [(.int (cmpValue (FP.dcmp (0 : UInt64) (0 : UInt64)) .l))]))) (fun t_ k_ => XS.dcmpS Xi5.here hx rfl (hb hby at_63) rfl rfl k_) ?_
  refine Go.st (U := (Ti5.setTop (mkF m 67 #[.val (.long p0), .second, .val (.int p1), .val (.int p2), .val (.int p3), .val (.long p4), .second, .val (.long bl), .second, .val (.long kc), .second, .val (.long qq), .second, .val (.ref bi1), .val (.ref bi3), .unset, .unset, .unset, .unset, .unset, .unset, .unset, .unset, .unset, .unset, .unset, .unset, .unset, .unset, .unset, .unset, .unset] []))) (fun t_ k_ => XS.ifNo Xi5.here hx rfl (hb hby at_64) rfl ((if0 _ _).trans (teq (Jvm.OwnFl.cvi_eq Jvm.OwnFl.zint Jvm.OwnFl.zint rfl .l)).2) k_) ?_
  refine Go.st (U := (Ti5.setTop (mkF m 68 #[.val (.long p0), .second, .val (.int p1), .val (.int p2), .val (.int p3), .val (.long p4), .second, .val (.long bl), .second, .val (.long kc), .second, .val (.long qq), .second, .val (.ref bi1), .val (.ref bi3), .unset, .unset, .unset, .unset, .unset, .unset, .unset, .unset, .unset, .unset, .unset, .unset, .unset, .unset, .unset, .unset, .unset] [(.int (1 : Int32))]))) (fun t_ k_ => XS.iconst Xi5.here hx rfl (hb hby at_67) k_) ?_
  refine Go.st (U := (Ti5.setTop (mkF m 72 #[.val (.long p0), .second, .val (.int p1), .val (.int p2), .val (.int p3), .val (.long p4), .second, .val (.long bl), .second, .val (.long kc), .second, .val (.long qq), .second, .val (.ref bi1), .val (.ref bi3), .unset, .unset, .unset, .unset, .unset, .unset, .unset, .unset, .unset, .unset, .unset, .unset, .unset, .unset, .unset, .unset, .unset] [(.int (1 : Int32))]))) (fun t_ k_ => XS.goto Xi5.here hx rfl (pc0 := 68) (pc' := 72) rfl (hb hby at_68) (by decide) (by decide) k_) ?_
  refine Go.st (U := (Ti5.setTop (mkF m 74 #[.val (.long p0), .second, .val (.int p1), .val (.int p2), .val (.int p3), .val (.long p4), .second, .val (.long bl), .second, .val (.long kc), .second, .val (.long qq), .second, .val (.ref bi1), .val (.ref bi3), .val (.int (1 : Int32)), .unset, .unset, .unset, .unset, .unset, .unset, .unset, .unset, .unset, .unset, .unset, .unset, .unset, .unset, .unset, .unset] []))) (fun t_ k_ => XS.istore Xi5.here hx rfl (hb hby at_72) rfl (l' := #[.val (.long p0), .second, .val (.int p1), .val (.int p2), .val (.int p3), .val (.long p4), .second, .val (.long bl), .second, .val (.long kc), .second, .val (.long qq), .second, .val (.ref bi1), .val (.ref bi3), .val (.int (1 : Int32)), .unset, .unset, .unset, .unset, .unset, .unset, .unset, .unset, .unset, .unset, .unset, .unset, .unset, .unset, .unset, .unset]) rfl k_) ?_
  refine Go.st (U := (Ti5.setTop (mkF m 76 #[.val (.long p0), .second, .val (.int p1), .val (.int p2), .val (.int p3), .val (.long p4), .second, .val (.long bl), .second, .val (.long kc), .second, .val (.long qq), .second, .val (.ref bi1), .val (.ref bi3), .val (.int (1 : Int32)), .unset, .unset, .unset, .unset, .unset, .unset, .unset, .unset, .unset, .unset, .unset, .unset, .unset, .unset, .unset, .unset] [(.long kc)]))) (fun t_ k_ => XS.lload Xi5.here hx rfl (hb hby at_74) rfl k_) ?_
  refine Go.st (U := (Ti5.setTop (mkF m 77 #[.val (.long p0), .second, .val (.int p1), .val (.int p2), .val (.int p3), .val (.long p4), .second, .val (.long bl), .second, .val (.long kc), .second, .val (.long qq), .second, .val (.ref bi1), .val (.ref bi3), .val (.int (1 : Int32)), .unset, .unset, .unset, .unset, .unset, .unset, .unset, .unset, .unset, .unset, .unset, .unset, .unset, .unset, .unset, .unset] [(.long (0 : Int64)), (.long kc)]))) (fun t_ k_ => XS.lconst Xi5.here hx rfl (hb hby at_76) k_) ?_
  refine Go.st (U := (Ti5.setTop (mkF m 78 #[.val (.long p0), .second, .val (.int p1), .val (.int p2), .val (.int p3), .val (.long p4), .second, .val (.long bl), .second, .val (.long kc), .second, .val (.long qq), .second, .val (.ref bi1), .val (.ref bi3), .val (.int (1 : Int32)), .unset, .unset, .unset, .unset, .unset, .unset, .unset, .unset, .unset, .unset, .unset, .unset, .unset, .unset, .unset, .unset] [(.int (lcmpW kc (0 : Int64)))]))) (fun t_ k_ => XS.lcmp Xi5.here hx rfl (hb hby at_77) rfl k_) ?_
  by_cases h78 : (lcmpW kc (0 : Int64)) = (0 : Int32)
  · refine Go.st (U := (Ti5.setTop (mkF m 81 #[.val (.long p0), .second, .val (.int p1), .val (.int p2), .val (.int p3), .val (.long p4), .second, .val (.long bl), .second, .val (.long kc), .second, .val (.long qq), .second, .val (.ref bi1), .val (.ref bi3), .val (.int (1 : Int32)), .unset, .unset, .unset, .unset, .unset, .unset, .unset, .unset, .unset, .unset, .unset, .unset, .unset, .unset, .unset, .unset] []))) (fun t_ k_ => XS.ifNo Xi5.here hx rfl (hb hby at_78) rfl ((if0 _ _).trans (teq h78).2) k_) ?_
    refine Go.st (U := (Ti5.setTop (mkF m 83 #[.val (.long p0), .second, .val (.int p1), .val (.int p2), .val (.int p3), .val (.long p4), .second, .val (.long bl), .second, .val (.long kc), .second, .val (.long qq), .second, .val (.ref bi1), .val (.ref bi3), .val (.int (1 : Int32)), .unset, .unset, .unset, .unset, .unset, .unset, .unset, .unset, .unset, .unset, .unset, .unset, .unset, .unset, .unset, .unset] [(.int (1 : Int32))]))) (fun t_ k_ => XS.iload Xi5.here hx rfl (hb hby at_81) rfl k_) ?_
    refine Go.retZ Xi5 hx hlk hret (hb hby at_83) (by decide) (by decide) ?_
    exact ⟨rfl, Ni5⟩
  · refine Go.st (U := (Ti5.setTop (mkF m 84 #[.val (.long p0), .second, .val (.int p1), .val (.int p2), .val (.int p3), .val (.long p4), .second, .val (.long bl), .second, .val (.long kc), .second, .val (.long qq), .second, .val (.ref bi1), .val (.ref bi3), .val (.int (1 : Int32)), .unset, .unset, .unset, .unset, .unset, .unset, .unset, .unset, .unset, .unset, .unset, .unset, .unset, .unset, .unset, .unset] []))) (fun t_ k_ => XS.ifYes Xi5.here hx rfl (pc0 := 78) (pc' := 84) rfl (hb hby at_78) rfl ((if0 _ _).trans (feq h78).2) (by decide) (by decide) k_) ?_
    have B_k : 1 ≤ kc.toInt ∧ kc.toInt ≤ 1048575 := by
      have h0 : kc.toInt ≠ 0 := fun q => h78 (Jvm.OwnFl.lc_eq.mpr q)
      omega
    refine Go.st (U := (Ti5.setTop (mkF m 86 #[.val (.long p0), .second, .val (.int p1), .val (.int p2), .val (.int p3), .val (.long p4), .second, .val (.long bl), .second, .val (.long kc), .second, .val (.long qq), .second, .val (.ref bi1), .val (.ref bi3), .val (.int (1 : Int32)), .unset, .unset, .unset, .unset, .unset, .unset, .unset, .unset, .unset, .unset, .unset, .unset, .unset, .unset, .unset, .unset] [(.int p3)]))) (fun t_ k_ => XS.iload Xi5.here hx rfl (hb hby at_84) rfl k_) ?_
    refine Go.st (U := (Ti5.setTop (mkF m 87 #[.val (.long p0), .second, .val (.int p1), .val (.int p2), .val (.int p3), .val (.long p4), .second, .val (.long bl), .second, .val (.long kc), .second, .val (.long qq), .second, .val (.ref bi1), .val (.ref bi3), .val (.int (1 : Int32)), .unset, .unset, .unset, .unset, .unset, .unset, .unset, .unset, .unset, .unset, .unset, .unset, .unset, .unset, .unset, .unset] [(.long (p3.toInt64))]))) (fun t_ k_ => XS.i2l Xi5.here hx rfl (hb hby at_86) rfl k_) ?_
    refine Go.st (U := (Ti5.setTop (mkF m 90 #[.val (.long p0), .second, .val (.int p1), .val (.int p2), .val (.int p3), .val (.long p4), .second, .val (.long bl), .second, .val (.long kc), .second, .val (.long qq), .second, .val (.ref bi1), .val (.ref bi3), .val (.int (1 : Int32)), .unset, .unset, .unset, .unset, .unset, .unset, .unset, .unset, .unset, .unset, .unset, .unset, .unset, .unset, .unset, .unset] [(.long (2147483647 : Int64)), (.long (p3.toInt64))]))) (Xi5.ldc2Long hx hown (mvT hZ (hw _ (List.mem_of_getElem? (i := 2) rfl))) (g := (mkF m 87 #[.val (.long p0), .second, .val (.int p1), .val (.int p2), .val (.int p3), .val (.long p4), .second, .val (.long bl), .second, .val (.long kc), .second, .val (.long qq), .second, .val (.ref bi1), .val (.ref bi3), .val (.int (1 : Int32)), .unset, .unset, .unset, .unset, .unset, .unset, .unset, .unset, .unset, .unset, .unset, .unset, .unset, .unset, .unset, .unset] [(.long (p3.toInt64))])) rfl (hb hby at_87)) ?_
    refine Go.st (U := (Ti5.setTop (mkF m 91 #[.val (.long p0), .second, .val (.int p1), .val (.int p2), .val (.int p3), .val (.long p4), .second, .val (.long bl), .second, .val (.long kc), .second, .val (.long qq), .second, .val (.ref bi1), .val (.ref bi3), .val (.int (1 : Int32)), .unset, .unset, .unset, .unset, .unset, .unset, .unset, .unset, .unset, .unset, .unset, .unset, .unset, .unset, .unset, .unset] [(.long ((p3.toInt64) &&& (2147483647 : Int64)))]))) (fun t_ k_ => XS.land Xi5.here hx rfl (hb hby at_90) rfl k_) ?_
    refine Go.st (U := (Ti5.setTop (mkF m 93 #[.val (.long p0), .second, .val (.int p1), .val (.int p2), .val (.int p3), .val (.long p4), .second, .val (.long bl), .second, .val (.long kc), .second, .val (.long qq), .second, .val (.ref bi1), .val (.ref bi3), .val (.int (1 : Int32)), .unset, .unset, .unset, .unset, .unset, .unset, .unset, .unset, .unset, .unset, .unset, .unset, .unset, .unset, .unset, .unset] [(.long kc), (.long ((p3.toInt64) &&& (2147483647 : Int64)))]))) (fun t_ k_ => XS.lload Xi5.here hx rfl (hb hby at_91) rfl k_) ?_
    refine Go.st (U := (Ti5.setTop (mkF m 94 #[.val (.long p0), .second, .val (.int p1), .val (.int p2), .val (.int p3), .val (.long p4), .second, .val (.long bl), .second, .val (.long kc), .second, .val (.long qq), .second, .val (.ref bi1), .val (.ref bi3), .val (.int (1 : Int32)), .unset, .unset, .unset, .unset, .unset, .unset, .unset, .unset, .unset, .unset, .unset, .unset, .unset, .unset, .unset, .unset] [(.long (((p3.toInt64) &&& (2147483647 : Int64)) - ((p3.toInt64) &&& (2147483647 : Int64)) / kc * kc))]))) (fun t_ k_ => XS.lrem Xi5.here hx rfl (hb hby at_93) rfl (fun q => h78 (by rw [q]; rfl)) k_) ?_
    generalize q_rr : (((p3.toInt64) &&& (2147483647 : Int64)) - ((p3.toInt64) &&& (2147483647 : Int64)) / kc * kc) = rr
    refine Go.st (U := (Ti5.setTop (mkF m 96 #[.val (.long p0), .second, .val (.int p1), .val (.int p2), .val (.int p3), .val (.long p4), .second, .val (.long bl), .second, .val (.long kc), .second, .val (.long qq), .second, .val (.ref bi1), .val (.ref bi3), .val (.int (1 : Int32)), .val (.long rr), .second, .unset, .unset, .unset, .unset, .unset, .unset, .unset, .unset, .unset, .unset, .unset, .unset, .unset, .unset] []))) (fun t_ k_ => XS.lstore Xi5.here hx rfl (hb hby at_94) rfl (l' := #[.val (.long p0), .second, .val (.int p1), .val (.int p2), .val (.int p3), .val (.long p4), .second, .val (.long bl), .second, .val (.long kc), .second, .val (.long qq), .second, .val (.ref bi1), .val (.ref bi3), .val (.int (1 : Int32)), .val (.long rr), .second, .unset, .unset, .unset, .unset, .unset, .unset, .unset, .unset, .unset, .unset, .unset, .unset, .unset, .unset]) rfl k_) ?_
    have B_r := own_rem (own_m31 _).1 B_k.1 q_rr
    refine Go.st (U := (Ti5.setTop (mkF m 98 #[.val (.long p0), .second, .val (.int p1), .val (.int p2), .val (.int p3), .val (.long p4), .second, .val (.long bl), .second, .val (.long kc), .second, .val (.long qq), .second, .val (.ref bi1), .val (.ref bi3), .val (.int (1 : Int32)), .val (.long rr), .second, .unset, .unset, .unset, .unset, .unset, .unset, .unset, .unset, .unset, .unset, .unset, .unset, .unset, .unset] [(.long qq)]))) (fun t_ k_ => XS.lload Xi5.here hx rfl (hb hby at_96) rfl k_) ?_
    refine Go.st (U := (Ti5.setTop (mkF m 100 #[.val (.long p0), .second, .val (.int p1), .val (.int p2), .val (.int p3), .val (.long p4), .second, .val (.long bl), .second, .val (.long kc), .second, .val (.long qq), .second, .val (.ref bi1), .val (.ref bi3), .val (.int (1 : Int32)), .val (.long rr), .second, .unset, .unset, .unset, .unset, .unset, .unset, .unset, .unset, .unset, .unset, .unset, .unset, .unset, .unset] [(.long kc), (.long qq)]))) (fun t_ k_ => XS.lload Xi5.here hx rfl (hb hby at_98) rfl k_) ?_
    refine Go.st (U := (Ti5.setTop (mkF m 101 #[.val (.long p0), .second, .val (.int p1), .val (.int p2), .val (.int p3), .val (.long p4), .second, .val (.long bl), .second, .val (.long kc), .second, .val (.long qq), .second, .val (.ref bi1), .val (.ref bi3), .val (.int (1 : Int32)), .val (.long rr), .second, .unset, .unset, .unset, .unset, .unset, .unset, .unset, .unset, .unset, .unset, .unset, .unset, .unset, .unset] [(.long (qq * kc))]))) (fun t_ k_ => XS.lmul Xi5.here hx rfl (hb hby at_100) rfl k_) ?_
    refine Go.st (U := (Ti5.setTop (mkF m 103 #[.val (.long p0), .second, .val (.int p1), .val (.int p2), .val (.int p3), .val (.long p4), .second, .val (.long bl), .second, .val (.long kc), .second, .val (.long qq), .second, .val (.ref bi1), .val (.ref bi3), .val (.int (1 : Int32)), .val (.long rr), .second, .unset, .unset, .unset, .unset, .unset, .unset, .unset, .unset, .unset, .unset, .unset, .unset, .unset, .unset] [(.long rr), (.long (qq * kc))]))) (fun t_ k_ => XS.lload Xi5.here hx rfl (hb hby at_101) rfl k_) ?_
    refine Go.st (U := (Ti5.setTop (mkF m 104 #[.val (.long p0), .second, .val (.int p1), .val (.int p2), .val (.int p3), .val (.long p4), .second, .val (.long bl), .second, .val (.long kc), .second, .val (.long qq), .second, .val (.ref bi1), .val (.ref bi3), .val (.int (1 : Int32)), .val (.long rr), .second, .unset, .unset, .unset, .unset, .unset, .unset, .unset, .unset, .unset, .unset, .unset, .unset, .unset, .unset] [(.long ((qq * kc) + rr))]))) (fun t_ k_ => XS.ladd Xi5.here hx rfl (hb hby at_103) rfl k_) ?_
    generalize q_hp : ((qq * kc) + rr) = hp
    refine Go.st (U := (Ti5.setTop (mkF m 106 #[.val (.long p0), .second, .val (.int p1), .val (.int p2), .val (.int p3), .val (.long p4), .second, .val (.long bl), .second, .val (.long kc), .second, .val (.long qq), .second, .val (.ref bi1), .val (.ref bi3), .val (.int (1 : Int32)), .val (.long rr), .second, .val (.long hp), .second, .unset, .unset, .unset, .unset, .unset, .unset, .unset, .unset, .unset, .unset, .unset, .unset] []))) (fun t_ k_ => XS.lstore Xi5.here hx rfl (hb hby at_104) rfl (l' := #[.val (.long p0), .second, .val (.int p1), .val (.int p2), .val (.int p3), .val (.long p4), .second, .val (.long bl), .second, .val (.long kc), .second, .val (.long qq), .second, .val (.ref bi1), .val (.ref bi3), .val (.int (1 : Int32)), .val (.long rr), .second, .val (.long hp), .second, .unset, .unset, .unset, .unset, .unset, .unset, .unset, .unset, .unset, .unset, .unset, .unset]) rfl k_) ?_
    obtain ⟨Ti6, hi6, Xi6, ei6, Gi6, Ai6, Di6, -, sti6⟩ := newO Xi5 hx hZ hown (hw _ (List.mem_of_getElem? (i := 29) rfl)) (hw _ (List.mem_of_getElem? (i := 30) rfl)) (hw _ (List.mem_of_getElem? (i := 31) rfl)) ei5 (g := (mkF m 106 #[.val (.long p0), .second, .val (.int p1), .val (.int p2), .val (.int p3), .val (.long p4), .second, .val (.long bl), .second, .val (.long kc), .second, .val (.long qq), .second, .val (.ref bi1), .val (.ref bi3), .val (.int (1 : Int32)), .val (.long rr), .second, .val (.long hp), .second, .unset, .unset, .unset, .unset, .unset, .unset, .unset, .unset, .unset, .unset, .unset, .unset] [])) rfl (hb hby at_106) (by decide) (by decide)
    obtain ⟨bi6, gi6⟩ : ∃ z, z = Ti4.heap.size := ⟨_, rfl⟩
    rw [← gi6] at Ai6 Di6 sti6
    have ge_bi6 : n0 ≤ bi6 := Nat.le_trans Zi4 (Nat.le_of_eq gi6.symm)
    have sz_bi6 : Ti4.heap.size ≤ bi6 := Nat.le_of_eq gi6.symm
    have sz0_bi6 : h0.size ≤ bi6 := Nat.le_trans (Keep.size_le Ki4) sz_bi6
    have ne_bi1_bi6 : bi1 ≠ bi6 := Nat.ne_of_lt (Nat.lt_of_lt_of_le (Exa.lt Ei4_bi1) sz_bi6)
    have Ei6_bi1 := Exa.ext Gi6 Ei4_bi1
    have Fi6_bi6_requests : Fld Z hi6 bi6 "com/example/lumenwatt/lumenwatt/simulation/ReplicationResult" "requests" "J" (.long 0) := Di6 (Or.inr (hw _ (List.mem_of_getElem? (i := 37) rfl))) (ty := .long) (by decide)
    have Fi6_bi6_blocked : Fld Z hi6 bi6 "com/example/lumenwatt/lumenwatt/simulation/ReplicationResult" "blocked" "J" (.long 0) := Di6 (Or.inr (hw _ (List.mem_of_getElem? (i := 39) rfl))) (ty := .long) (by decide)
    have Fi6_bi6_carriedHops : Fld Z hi6 bi6 "com/example/lumenwatt/lumenwatt/simulation/ReplicationResult" "carriedHops" "J" (.long 0) := Di6 (Or.inr (hw _ (List.mem_of_getElem? (i := 41) rfl))) (ty := .long) (by decide)
    have Fi6_bi6_activeHours : Fld Z hi6 bi6 "com/example/lumenwatt/lumenwatt/simulation/ReplicationResult" "activeHours" "D" (.double 0) := Di6 (Or.inr (hw _ (List.mem_of_getElem? (i := 43) rfl))) (ty := .double) (by decide)
    have Fi6_bi6_routeWattHours : Fld Z hi6 bi6 "com/example/lumenwatt/lumenwatt/simulation/ReplicationResult" "routeWattHours" "D" (.double 0) := Di6 (Or.inr (hw _ (List.mem_of_getElem? (i := 45) rfl))) (ty := .double) (by decide)
    have Fi6_bi6_hours : Fld Z hi6 bi6 "com/example/lumenwatt/lumenwatt/simulation/ReplicationResult" "hours" "D" (.double 0) := Di6 (Or.inr (hw _ (List.mem_of_getElem? (i := 47) rfl))) (ty := .double) (by decide)
    have Fi6_bi6_energy : Fld Z hi6 bi6 "com/example/lumenwatt/lumenwatt/simulation/ReplicationResult" "energy" "Lcom/example/lumenwatt/lumenwatt/energy/EnergyUse;" .null := Di6 (Or.inr (hw _ (List.mem_of_getElem? (i := 49) rfl))) (ty := .object "com/example/lumenwatt/lumenwatt/energy/EnergyUse") (by decide)
    have Zi6 : n0 ≤ hi6.size := Nat.le_trans Zi4 Gi6.1
    have Ki6 := Keep.ext Ki4 Gi6
    refine Go.st (U := (Ti6.setTop (mkF m 109 #[.val (.long p0), .second, .val (.int p1), .val (.int p2), .val (.int p3), .val (.long p4), .second, .val (.long bl), .second, .val (.long kc), .second, .val (.long qq), .second, .val (.ref bi1), .val (.ref bi3), .val (.int (1 : Int32)), .val (.long rr), .second, .val (.long hp), .second, .unset, .unset, .unset, .unset, .unset, .unset, .unset, .unset, .unset, .unset, .unset, .unset] [(.ref bi6)]))) sti6 ?_
    refine Go.st (U := (Ti6.setTop (mkF m 110 #[.val (.long p0), .second, .val (.int p1), .val (.int p2), .val (.int p3), .val (.long p4), .second, .val (.long bl), .second, .val (.long kc), .second, .val (.long qq), .second, .val (.ref bi1), .val (.ref bi3), .val (.int (1 : Int32)), .val (.long rr), .second, .val (.long hp), .second, .unset, .unset, .unset, .unset, .unset, .unset, .unset, .unset, .unset, .unset, .unset, .unset] [(.ref bi6), (.ref bi6)]))) (fun t_ k_ => XS.dup Xi6.here hx rfl (hb hby at_109) rfl rfl k_) ?_
    refine Go.st (U := (Ti6.setTop (mkF m 112 #[.val (.long p0), .second, .val (.int p1), .val (.int p2), .val (.int p3), .val (.long p4), .second, .val (.long bl), .second, .val (.long kc), .second, .val (.long qq), .second, .val (.ref bi1), .val (.ref bi3), .val (.int (1 : Int32)), .val (.long rr), .second, .val (.long hp), .second, .unset, .unset, .unset, .unset, .unset, .unset, .unset, .unset, .unset, .unset, .unset, .unset] [(.long bl), (.ref bi6), (.ref bi6)]))) (fun t_ k_ => XS.lload Xi6.here hx rfl (hb hby at_110) rfl k_) ?_
    refine Go.st (U := (Ti6.setTop (mkF m 114 #[.val (.long p0), .second, .val (.int p1), .val (.int p2), .val (.int p3), .val (.long p4), .second, .val (.long bl), .second, .val (.long kc), .second, .val (.long qq), .second, .val (.ref bi1), .val (.ref bi3), .val (.int (1 : Int32)), .val (.long rr), .second, .val (.long hp), .second, .unset, .unset, .unset, .unset, .unset, .unset, .unset, .unset, .unset, .unset, .unset, .unset] [(.long kc), (.long bl), (.ref bi6), (.ref bi6)]))) (fun t_ k_ => XS.lload Xi6.here hx rfl (hb hby at_112) rfl k_) ?_
    refine Go.st (U := (Ti6.setTop (mkF m 115 #[.val (.long p0), .second, .val (.int p1), .val (.int p2), .val (.int p3), .val (.long p4), .second, .val (.long bl), .second, .val (.long kc), .second, .val (.long qq), .second, .val (.ref bi1), .val (.ref bi3), .val (.int (1 : Int32)), .val (.long rr), .second, .val (.long hp), .second, .unset, .unset, .unset, .unset, .unset, .unset, .unset, .unset, .unset, .unset, .unset, .unset] [(.long (bl + kc)), (.ref bi6), (.ref bi6)]))) (fun t_ k_ => XS.ladd Xi6.here hx rfl (hb hby at_114) rfl k_) ?_
    refine Go.st (U := (Ti6.setTop (mkF m 117 #[.val (.long p0), .second, .val (.int p1), .val (.int p2), .val (.int p3), .val (.long p4), .second, .val (.long bl), .second, .val (.long kc), .second, .val (.long qq), .second, .val (.ref bi1), .val (.ref bi3), .val (.int (1 : Int32)), .val (.long rr), .second, .val (.long hp), .second, .unset, .unset, .unset, .unset, .unset, .unset, .unset, .unset, .unset, .unset, .unset, .unset] [(.long bl), (.long (bl + kc)), (.ref bi6), (.ref bi6)]))) (fun t_ k_ => XS.lload Xi6.here hx rfl (hb hby at_115) rfl k_) ?_
    refine Go.st (U := (Ti6.setTop (mkF m 119 #[.val (.long p0), .second, .val (.int p1), .val (.int p2), .val (.int p3), .val (.long p4), .second, .val (.long bl), .second, .val (.long kc), .second, .val (.long qq), .second, .val (.ref bi1), .val (.ref bi3), .val (.int (1 : Int32)), .val (.long rr), .second, .val (.long hp), .second, .unset, .unset, .unset, .unset, .unset, .unset, .unset, .unset, .unset, .unset, .unset, .unset] [(.long hp), (.long bl), (.long (bl + kc)), (.ref bi6), (.ref bi6)]))) (fun t_ k_ => XS.lload Xi6.here hx rfl (hb hby at_117) rfl k_) ?_
    refine Go.st (U := (Ti6.setTop (mkF m 120 #[.val (.long p0), .second, .val (.int p1), .val (.int p2), .val (.int p3), .val (.long p4), .second, .val (.long bl), .second, .val (.long kc), .second, .val (.long qq), .second, .val (.ref bi1), .val (.ref bi3), .val (.int (1 : Int32)), .val (.long rr), .second, .val (.long hp), .second, .unset, .unset, .unset, .unset, .unset, .unset, .unset, .unset, .unset, .unset, .unset, .unset] [(.double (0 : UInt64)), (.long hp), (.long bl), (.long (bl + kc)), (.ref bi6), (.ref bi6)]))) (fun t_ k_ => XS.dconst0 Xi6.here hx rfl (hb hby at_119) rfl k_) ?_
    refine Go.st (U := (Ti6.setTop (mkF m 121 #[.val (.long p0), .second, .val (.int p1), .val (.int p2), .val (.int p3), .val (.long p4), .second, .val (.long bl), .second, .val (.long kc), .second, .val (.long qq), .second, .val (.ref bi1), .val (.ref bi3), .val (.int (1 : Int32)), .val (.long rr), .second, .val (.long hp), .second, .unset, .unset, .unset, .unset, .unset, .unset, .unset, .unset, .unset, .unset, .unset, .unset] [(.double (0 : UInt64)), (.double (0 : UInt64)), (.long hp), (.long bl), (.long (bl + kc)), (.ref bi6), (.ref bi6)]))) (fun t_ k_ => XS.dconst0 Xi6.here hx rfl (hb hby at_120) rfl k_) ?_
    refine Go.st (U := (Ti6.setTop (mkF m 122 #[.val (.long p0), .second, .val (.int p1), .val (.int p2), .val (.int p3), .val (.long p4), .second, .val (.long bl), .second, .val (.long kc), .second, .val (.long qq), .second, .val (.ref bi1), .val (.ref bi3), .val (.int (1 : Int32)), .val (.long rr), .second, .val (.long hp), .second, .unset, .unset, .unset, .unset, .unset, .unset, .unset, .unset, .unset, .unset, .unset, .unset] [(.double (0 : UInt64)), (.double (0 : UInt64)), (.double (0 : UInt64)), (.long hp), (.long bl), (.long (bl + kc)), (.ref bi6), (.ref bi6)]))) (fun t_ k_ => XS.dconst0 Xi6.here hx rfl (hb hby at_121) rfl k_) ?_
    refine Go.st (U := (Ti6.setTop (mkF m 124 #[.val (.long p0), .second, .val (.int p1), .val (.int p2), .val (.int p3), .val (.long p4), .second, .val (.long bl), .second, .val (.long kc), .second, .val (.long qq), .second, .val (.ref bi1), .val (.ref bi3), .val (.int (1 : Int32)), .val (.long rr), .second, .val (.long hp), .second, .unset, .unset, .unset, .unset, .unset, .unset, .unset, .unset, .unset, .unset, .unset, .unset] [(.ref bi1), (.double (0 : UInt64)), (.double (0 : UInt64)), (.double (0 : UInt64)), (.long hp), (.long bl), (.long (bl + kc)), (.ref bi6), (.ref bi6)]))) (fun t_ k_ => XS.aload Xi6.here hx rfl (hb hby at_122) rfl rfl k_) ?_
    refine Go.callI Xi6 hx hZ hown rfl (hw _ (List.mem_of_getElem? (i := 32) rfl)) (hw _ (List.mem_of_getElem? (i := 33) rfl)) (hw _ (List.mem_of_getElem? (i := 31) rfl)) (hw _ (List.mem_of_getElem? (i := 34) rfl)) (by decide) (rm_rep l Z a0 hw [] bi6 (bl + kc) bl hp (0 : UInt64) (0 : UInt64) (0 : UInt64) bi1 (.long 0) (.long 0) (.long 0) (.double 0) (.double 0) (.double 0) (.null) hi6 n0 Zi6 Ai6 ge_bi6 Fi6_bi6_requests Fi6_bi6_blocked Fi6_bi6_carriedHops Fi6_bi6_activeHours Fi6_bi6_routeWattHours Fi6_bi6_hours Fi6_bi6_energy) ei6 1 (by decide) (by decide) (g := (mkF m 124 #[.val (.long p0), .second, .val (.int p1), .val (.int p2), .val (.int p3), .val (.long p4), .second, .val (.long bl), .second, .val (.long kc), .second, .val (.long qq), .second, .val (.ref bi1), .val (.ref bi3), .val (.int (1 : Int32)), .val (.long rr), .second, .val (.long hp), .second, .unset, .unset, .unset, .unset, .unset, .unset, .unset, .unset, .unset, .unset, .unset, .unset] [(.ref bi1), (.double (0 : UInt64)), (.double (0 : UInt64)), (.double (0 : UInt64)), (.long hp), (.long bl), (.long (bl + kc)), (.ref bi6), (.ref bi6)])) rfl (by rw [hml]; rfl) bi6 [(.long (bl + kc)), (.long bl), (.long hp), (.double (0 : UInt64)), (.double (0 : UInt64)), (.double (0 : UInt64)), (.ref bi1)] [(.ref bi6)] rfl (lenOf pd2 rfl) rfl (by show 2 * 0 + _ ≤ _; exact Nat.le_of_eq rfl) (hb hby at_124) (by decide) (by decide) ?_
    intro vi7 Ti7 Li7 hQi7 Xi7
    obtain ⟨rfl, Ni7, Ki7, Ei7_bi6, Fi7_bi6_requests, Fi7_bi6_blocked, Fi7_bi6_carriedHops, Fi7_bi6_activeHours, Fi7_bi6_routeWattHours, Fi7_bi6_hours, Fi7_bi6_energy⟩ := hQi7
    have Ni7 := Fr.app Ni5 Ni7
    have Zi7 : n0 ≤ Ti7.heap.size := Nat.le_trans Zi6 Ki7.1
    have Ei7_bi1 := Exa.keep Ei6_bi1 Ki7
    have Ki7 := Keep.trans Ki6 Ki7 (allS (Or.inr sz0_bi6) all0)
    show Go p e below s _ _ (Ti7.setTop (mkF m 127 #[.val (.long p0), .second, .val (.int p1), .val (.int p2), .val (.int p3), .val (.long p4), .second, .val (.long bl), .second, .val (.long kc), .second, .val (.long qq), .second, .val (.ref bi1), .val (.ref bi3), .val (.int (1 : Int32)), .val (.long rr), .second, .val (.long hp), .second, .unset, .unset, .unset, .unset, .unset, .unset, .unset, .unset, .unset, .unset, .unset, .unset] [(.ref bi6)]))
    refine Go.st (U := (Ti7.setTop (mkF m 129 #[.val (.long p0), .second, .val (.int p1), .val (.int p2), .val (.int p3), .val (.long p4), .second, .val (.long bl), .second, .val (.long kc), .second, .val (.long qq), .second, .val (.ref bi1), .val (.ref bi3), .val (.int (1 : Int32)), .val (.long rr), .second, .val (.long hp), .second, .val (.ref bi6), .unset, .unset, .unset, .unset, .unset, .unset, .unset, .unset, .unset, .unset, .unset] []))) (fun t_ k_ => XS.astore Xi7.here hx rfl (hb hby at_127) rfl rfl (l' := #[.val (.long p0), .second, .val (.int p1), .val (.int p2), .val (.int p3), .val (.long p4), .second, .val (.long bl), .second, .val (.long kc), .second, .val (.long qq), .second, .val (.ref bi1), .val (.ref bi3), .val (.int (1 : Int32)), .val (.long rr), .second, .val (.long hp), .second, .val (.ref bi6), .unset, .unset, .unset, .unset, .unset, .unset, .unset, .unset, .unset, .unset, .unset]) rfl k_) ?_
    refine Go.st (U := (Ti7.setTop (mkF m 131 #[.val (.long p0), .second, .val (.int p1), .val (.int p2), .val (.int p3), .val (.long p4), .second, .val (.long bl), .second, .val (.long kc), .second, .val (.long qq), .second, .val (.ref bi1), .val (.ref bi3), .val (.int (1 : Int32)), .val (.long rr), .second, .val (.long hp), .second, .val (.ref bi6), .unset, .unset, .unset, .unset, .unset, .unset, .unset, .unset, .unset, .unset, .unset] [(.ref bi6)]))) (fun t_ k_ => XS.aload Xi7.here hx rfl (hb hby at_129) rfl rfl k_) ?_
    refine Go.callV Xi7 hx hZ hown (hw _ (List.mem_of_getElem? (i := 50) rfl)) (hw _ (List.mem_of_getElem? (i := 51) rfl)) (hw _ (List.mem_of_getElem? (i := 53) rfl)) (hw _ (List.mem_of_getElem? (i := 52) rfl)) (hw _ (List.mem_of_getElem? (i := 31) rfl)) (hw _ (List.mem_of_getElem? (i := 54) rfl)) (by decide) (rm_mh1 l Z a0 hw [] bi6 (bl + kc) bl hp Ti7.heap n0 Zi7 Fi7_bi6_requests Fi7_bi6_blocked Fi7_bi6_carriedHops (by rw [own_sub]; exact h78) ((own_mm B_q B_k B_r q_hp).1)) (rfl : Ti7.heap = Ti7.heap) bi6 Ei7_bi6 0 (by decide) (by decide) (g := (mkF m 131 #[.val (.long p0), .second, .val (.int p1), .val (.int p2), .val (.int p3), .val (.long p4), .second, .val (.long bl), .second, .val (.long kc), .second, .val (.long qq), .second, .val (.ref bi1), .val (.ref bi3), .val (.int (1 : Int32)), .val (.long rr), .second, .val (.long hp), .second, .val (.ref bi6), .unset, .unset, .unset, .unset, .unset, .unset, .unset, .unset, .unset, .unset, .unset] [(.ref bi6)])) rfl (by rw [hml]; rfl) [] [] rfl (lenOf pd3 rfl) rfl (by show 2 * 0 + _ ≤ _; exact Nat.le_of_eq rfl) (hb hby at_131) (by decide) (by decide) ?_
    intro vi8 Ti8 Li8 hQi8 Xi8
    obtain ⟨rfl, Ni8, ei8⟩ := hQi8
    have Ni8 := Fr.app Ni7 Ni8
    show Go p e below s _ _ (Ti8.setTop (mkF m 134 #[.val (.long p0), .second, .val (.int p1), .val (.int p2), .val (.int p3), .val (.long p4), .second, .val (.long bl), .second, .val (.long kc), .second, .val (.long qq), .second, .val (.ref bi1), .val (.ref bi3), .val (.int (1 : Int32)), .val (.long rr), .second, .val (.long hp), .second, .val (.ref bi6), .unset, .unset, .unset, .unset, .unset, .unset, .unset, .unset, .unset, .unset, .unset] [(.double (FP.ddiv (FP.l2d hp) (FP.l2d ((bl + kc) - bl))))]))
    generalize q_mm : (FP.ddiv (FP.l2d hp) (FP.l2d ((bl + kc) - bl))) = mm
    refine Go.st (U := (Ti8.setTop (mkF m 136 #[.val (.long p0), .second, .val (.int p1), .val (.int p2), .val (.int p3), .val (.long p4), .second, .val (.long bl), .second, .val (.long kc), .second, .val (.long qq), .second, .val (.ref bi1), .val (.ref bi3), .val (.int (1 : Int32)), .val (.long rr), .second, .val (.long hp), .second, .val (.ref bi6), .val (.double mm), .second, .unset, .unset, .unset, .unset, .unset, .unset, .unset, .unset, .unset] []))) (fun t_ k_ => XS.dstore Xi8.here hx rfl (hb hby at_134) rfl (l' := #[.val (.long p0), .second, .val (.int p1), .val (.int p2), .val (.int p3), .val (.long p4), .second, .val (.long bl), .second, .val (.long kc), .second, .val (.long qq), .second, .val (.ref bi1), .val (.ref bi3), .val (.int (1 : Int32)), .val (.long rr), .second, .val (.long hp), .second, .val (.ref bi6), .val (.double mm), .second, .unset, .unset, .unset, .unset, .unset, .unset, .unset, .unset, .unset]) rfl k_) ?_
    obtain ⟨G1, G2, G3, G4, G5, G6, G7⟩ := own_all B_q B_k B_r (mm := mm) (by rw [← q_mm]; exact (own_mm B_q B_k B_r q_hp).1) (by rw [← q_mm]; exact (own_mm B_q B_k B_r q_hp).2)
    refine Go.st (U := (Ti8.setTop (mkF m 138 #[.val (.long p0), .second, .val (.int p1), .val (.int p2), .val (.int p3), .val (.long p4), .second, .val (.long bl), .second, .val (.long kc), .second, .val (.long qq), .second, .val (.ref bi1), .val (.ref bi3), .val (.int (1 : Int32)), .val (.long rr), .second, .val (.long hp), .second, .val (.ref bi6), .val (.double mm), .second, .unset, .unset, .unset, .unset, .unset, .unset, .unset, .unset, .unset] [(.long qq)]))) (fun t_ k_ => XS.lload Xi8.here hx rfl (hb hby at_136) rfl k_) ?_
    refine Go.st (U := (Ti8.setTop (mkF m 139 #[.val (.long p0), .second, .val (.int p1), .val (.int p2), .val (.int p3), .val (.long p4), .second, .val (.long bl), .second, .val (.long kc), .second, .val (.long qq), .second, .val (.ref bi1), .val (.ref bi3), .val (.int (1 : Int32)), .val (.long rr), .second, .val (.long hp), .second, .val (.ref bi6), .val (.double mm), .second, .unset, .unset, .unset, .unset, .unset, .unset, .unset, .unset, .unset] [(.double (FP.l2d qq))]))) (fun t_ k_ => XS.l2dS Xi8.here hx rfl (hb hby at_138) rfl rfl k_) ?_
    refine Go.st (U := (Ti8.setTop (mkF m 141 #[.val (.long p0), .second, .val (.int p1), .val (.int p2), .val (.int p3), .val (.long p4), .second, .val (.long bl), .second, .val (.long kc), .second, .val (.long qq), .second, .val (.ref bi1), .val (.ref bi3), .val (.int (1 : Int32)), .val (.long rr), .second, .val (.long hp), .second, .val (.ref bi6), .val (.double mm), .second, .val (.double (FP.l2d qq)), .second, .unset, .unset, .unset, .unset, .unset, .unset, .unset] []))) (fun t_ k_ => XS.dstore Xi8.here hx rfl (hb hby at_139) rfl (l' := #[.val (.long p0), .second, .val (.int p1), .val (.int p2), .val (.int p3), .val (.long p4), .second, .val (.long bl), .second, .val (.long kc), .second, .val (.long qq), .second, .val (.ref bi1), .val (.ref bi3), .val (.int (1 : Int32)), .val (.long rr), .second, .val (.long hp), .second, .val (.ref bi6), .val (.double mm), .second, .val (.double (FP.l2d qq)), .second, .unset, .unset, .unset, .unset, .unset, .unset, .unset]) rfl k_) ?_
    refine Go.st (U := (Ti8.setTop (mkF m 143 #[.val (.long p0), .second, .val (.int p1), .val (.int p2), .val (.int p3), .val (.long p4), .second, .val (.long bl), .second, .val (.long kc), .second, .val (.long qq), .second, .val (.ref bi1), .val (.ref bi3), .val (.int (1 : Int32)), .val (.long rr), .second, .val (.long hp), .second, .val (.ref bi6), .val (.double mm), .second, .val (.double (FP.l2d qq)), .second, .unset, .unset, .unset, .unset, .unset, .unset, .unset] [(.double (FP.l2d qq))]))) (fun t_ k_ => XS.dload Xi8.here hx rfl (hb hby at_141) rfl k_) ?_
    refine Go.st (U := (Ti8.setTop (mkF m 145 #[.val (.long p0), .second, .val (.int p1), .val (.int p2), .val (.int p3), .val (.long p4), .second, .val (.long bl), .second, .val (.long kc), .second, .val (.long qq), .second, .val (.ref bi1), .val (.ref bi3), .val (.int (1 : Int32)), .val (.long rr), .second, .val (.long hp), .second, .val (.ref bi6), .val (.double mm), .second, .val (.double (FP.l2d qq)), .second, .unset, .unset, .unset, .unset, .unset, .unset, .unset] [(.double mm), (.double (FP.l2d qq))]))) (fun t_ k_ => XS.dload Xi8.here hx rfl (hb hby at_143) rfl k_) ?_
    refine Go.st (U := (Ti8.setTop (mkF m 146 #[.val (.long p0), .second, .val (.int p1), .val (.int p2), .val (.int p3), .val (.long p4), .second, .val (.long bl), .second, .val (.long kc), .second, .val (.long qq), .second, .val (.ref bi1), .val (.ref bi3), .val (.int (1 : Int32)), .val (.long rr), .second, .val (.long hp), .second, .val (.ref bi6), .val (.double mm), .second, .val (.double (FP.l2d qq)), .second, .unset, .unset, .unset, .unset, .unset, .unset, .unset] [(.int (cmpValue (FP.dcmp (FP.l2d qq) mm) .g))]))) (fun t_ k_ => XS.dcmpS Xi8.here hx rfl (hb hby at_145) rfl rfl k_) ?_
    refine Go.st (U := (Ti8.setTop (mkF m 149 #[.val (.long p0), .second, .val (.int p1), .val (.int p2), .val (.int p3), .val (.long p4), .second, .val (.long bl), .second, .val (.long kc), .second, .val (.long qq), .second, .val (.ref bi1), .val (.ref bi3), .val (.int (1 : Int32)), .val (.long rr), .second, .val (.long hp), .second, .val (.ref bi6), .val (.double mm), .second, .val (.double (FP.l2d qq)), .second, .unset, .unset, .unset, .unset, .unset, .unset, .unset] []))) (fun t_ k_ => XS.ifNo Xi8.here hx rfl (hb hby at_146) rfl ((if0 _ _).trans (flt G1).2.2.1) k_) ?_
    refine Go.st (U := (Ti8.setTop (mkF m 151 #[.val (.long p0), .second, .val (.int p1), .val (.int p2), .val (.int p3), .val (.long p4), .second, .val (.long bl), .second, .val (.long kc), .second, .val (.long qq), .second, .val (.ref bi1), .val (.ref bi3), .val (.int (1 : Int32)), .val (.long rr), .second, .val (.long hp), .second, .val (.ref bi6), .val (.double mm), .second, .val (.double (FP.l2d qq)), .second, .unset, .unset, .unset, .unset, .unset, .unset, .unset] [(.double mm)]))) (fun t_ k_ => XS.dload Xi8.here hx rfl (hb hby at_149) rfl k_) ?_
    refine Go.st (U := (Ti8.setTop (mkF m 153 #[.val (.long p0), .second, .val (.int p1), .val (.int p2), .val (.int p3), .val (.long p4), .second, .val (.long bl), .second, .val (.long kc), .second, .val (.long qq), .second, .val (.ref bi1), .val (.ref bi3), .val (.int (1 : Int32)), .val (.long rr), .second, .val (.long hp), .second, .val (.ref bi6), .val (.double mm), .second, .val (.double (FP.l2d qq)), .second, .unset, .unset, .unset, .unset, .unset, .unset, .unset] [(.double (FP.l2d qq)), (.double mm)]))) (fun t_ k_ => XS.dload Xi8.here hx rfl (hb hby at_151) rfl k_) ?_
    refine Go.st (U := (Ti8.setTop (mkF m 154 #[.val (.long p0), .second, .val (.int p1), .val (.int p2), .val (.int p3), .val (.long p4), .second, .val (.long bl), .second, .val (.long kc), .second, .val (.long qq), .second, .val (.ref bi1), .val (.ref bi3), .val (.int (1 : Int32)), .val (.long rr), .second, .val (.long hp), .second, .val (.ref bi6), .val (.double mm), .second, .val (.double (FP.l2d qq)), .second, .unset, .unset, .unset, .unset, .unset, .unset, .unset] [(.double (4607182418800017408 : UInt64)), (.double (FP.l2d qq)), (.double mm)]))) (fun t_ k_ => XS.dconst1 Xi8.here hx rfl (hb hby at_153) rfl k_) ?_
    refine Go.st (U := (Ti8.setTop (mkF m 155 #[.val (.long p0), .second, .val (.int p1), .val (.int p2), .val (.int p3), .val (.long p4), .second, .val (.long bl), .second, .val (.long kc), .second, .val (.long qq), .second, .val (.ref bi1), .val (.ref bi3), .val (.int (1 : Int32)), .val (.long rr), .second, .val (.long hp), .second, .val (.ref bi6), .val (.double mm), .second, .val (.double (FP.l2d qq)), .second, .unset, .unset, .unset, .unset, .unset, .unset, .unset] [(.double (FP.dadd (FP.l2d qq) (4607182418800017408 : UInt64))), (.double mm)]))) (fun t_ k_ => XS.daddS Xi8.here hx rfl (hb hby at_154) rfl G2 rfl k_) ?_
    refine Go.st (U := (Ti8.setTop (mkF m 156 #[.val (.long p0), .second, .val (.int p1), .val (.int p2), .val (.int p3), .val (.long p4), .second, .val (.long bl), .second, .val (.long kc), .second, .val (.long qq), .second, .val (.ref bi1), .val (.ref bi3), .val (.int (1 : Int32)), .val (.long rr), .second, .val (.long hp), .second, .val (.ref bi6), .val (.double mm), .second, .val (.double (FP.l2d qq)), .second, .unset, .unset, .unset, .unset, .unset, .unset, .unset] [(.int (cmpValue (FP.dcmp mm (FP.dadd (FP.l2d qq) (4607182418800017408 : UInt64))) .g))]))) (fun t_ k_ => XS.dcmpS Xi8.here hx rfl (hb hby at_155) rfl rfl k_) ?_
    refine Go.st (U := (Ti8.setTop (mkF m 159 #[.val (.long p0), .second, .val (.int p1), .val (.int p2), .val (.int p3), .val (.long p4), .second, .val (.long bl), .second, .val (.long kc), .second, .val (.long qq), .second, .val (.ref bi1), .val (.ref bi3), .val (.int (1 : Int32)), .val (.long rr), .second, .val (.long hp), .second, .val (.ref bi6), .val (.double mm), .second, .val (.double (FP.l2d qq)), .second, .unset, .unset, .unset, .unset, .unset, .unset, .unset] []))) (fun t_ k_ => XS.ifNo Xi8.here hx rfl (hb hby at_156) rfl ((if0 _ _).trans (tlt G3).2.1) k_) ?_
    refine Go.st (U := (Ti8.setTop (mkF m 160 #[.val (.long p0), .second, .val (.int p1), .val (.int p2), .val (.int p3), .val (.long p4), .second, .val (.long bl), .second, .val (.long kc), .second, .val (.long qq), .second, .val (.ref bi1), .val (.ref bi3), .val (.int (1 : Int32)), .val (.long rr), .second, .val (.long hp), .second, .val (.ref bi6), .val (.double mm), .second, .val (.double (FP.l2d qq)), .second, .unset, .unset, .unset, .unset, .unset, .unset, .unset] [(.int (1 : Int32))]))) (fun t_ k_ => XS.iconst Xi8.here hx rfl (hb hby at_159) k_) ?_
    refine Go.st (U := (Ti8.setTop (mkF m 164 #[.val (.long p0), .second, .val (.int p1), .val (.int p2), .val (.int p3), .val (.long p4), .second, .val (.long bl), .second, .val (.long kc), .second, .val (.long qq), .second, .val (.ref bi1), .val (.ref bi3), .val (.int (1 : Int32)), .val (.long rr), .second, .val (.long hp), .second, .val (.ref bi6), .val (.double mm), .second, .val (.double (FP.l2d qq)), .second, .unset, .unset, .unset, .unset, .unset, .unset, .unset] [(.int (1 : Int32))]))) (fun t_ k_ => XS.goto Xi8.here hx rfl (pc0 := 160) (pc' := 164) rfl (hb hby at_160) (by decide) (by decide) k_) ?_
    refine Go.st (U := (Ti8.setTop (mkF m 166 #[.val (.long p0), .second, .val (.int p1), .val (.int p2), .val (.int p3), .val (.long p4), .second, .val (.long bl), .second, .val (.long kc), .second, .val (.long qq), .second, .val (.ref bi1), .val (.ref bi3), .val (.int (1 : Int32)), .val (.long rr), .second, .val (.long hp), .second, .val (.ref bi6), .val (.double mm), .second, .val (.double (FP.l2d qq)), .second, .val (.int (1 : Int32)), .unset, .unset, .unset, .unset, .unset, .unset] []))) (fun t_ k_ => XS.istore Xi8.here hx rfl (hb hby at_164) rfl (l' := #[.val (.long p0), .second, .val (.int p1), .val (.int p2), .val (.int p3), .val (.long p4), .second, .val (.long bl), .second, .val (.long kc), .second, .val (.long qq), .second, .val (.ref bi1), .val (.ref bi3), .val (.int (1 : Int32)), .val (.long rr), .second, .val (.long hp), .second, .val (.ref bi6), .val (.double mm), .second, .val (.double (FP.l2d qq)), .second, .val (.int (1 : Int32)), .unset, .unset, .unset, .unset, .unset, .unset]) rfl k_) ?_
    have J202 : Go p e below s room_1 (Q_law Z p0 p1 p2 p3 p4 h0 n0) (Ti8.setTop (mkF m 202 #[.val (.long p0), .second, .val (.int p1), .val (.int p2), .val (.int p3), .val (.long p4), .second, .val (.long bl), .second, .val (.long kc), .second, .val (.long qq), .second, .val (.ref bi1), .val (.ref bi3), .val (.int (1 : Int32)), .val (.long rr), .second, .val (.long hp), .second, .val (.ref bi6), .val (.double mm), .second, .val (.double (FP.l2d qq)), .second, .val (.int (1 : Int32)), .unset, .unset, .unset, .unset, .unset, .unset] [(.int (1 : Int32))])) := by
      refine Go.st (U := (Ti8.setTop (mkF m 204 #[.val (.long p0), .second, .val (.int p1), .val (.int p2), .val (.int p3), .val (.long p4), .second, .val (.long bl), .second, .val (.long kc), .second, .val (.long qq), .second, .val (.ref bi1), .val (.ref bi3), .val (.int (1 : Int32)), .val (.long rr), .second, .val (.long hp), .second, .val (.ref bi6), .val (.double mm), .second, .val (.double (FP.l2d qq)), .second, .val (.int (1 : Int32)), .val (.int (1 : Int32)), .unset, .unset, .unset, .unset, .unset] []))) (fun t_ k_ => XS.istore Xi8.here hx rfl (hb hby at_202) rfl (l' := #[.val (.long p0), .second, .val (.int p1), .val (.int p2), .val (.int p3), .val (.long p4), .second, .val (.long bl), .second, .val (.long kc), .second, .val (.long qq), .second, .val (.ref bi1), .val (.ref bi3), .val (.int (1 : Int32)), .val (.long rr), .second, .val (.long hp), .second, .val (.ref bi6), .val (.double mm), .second, .val (.double (FP.l2d qq)), .second, .val (.int (1 : Int32)), .val (.int (1 : Int32)), .unset, .unset, .unset, .unset, .unset]) rfl k_) ?_
      refine Go.st (U := (Ti8.setTop (mkF m 206 #[.val (.long p0), .second, .val (.int p1), .val (.int p2), .val (.int p3), .val (.long p4), .second, .val (.long bl), .second, .val (.long kc), .second, .val (.long qq), .second, .val (.ref bi1), .val (.ref bi3), .val (.int (1 : Int32)), .val (.long rr), .second, .val (.long hp), .second, .val (.ref bi6), .val (.double mm), .second, .val (.double (FP.l2d qq)), .second, .val (.int (1 : Int32)), .val (.int (1 : Int32)), .unset, .unset, .unset, .unset, .unset] [(.double mm)]))) (fun t_ k_ => XS.dload Xi8.here hx rfl (hb hby at_204) rfl k_) ?_
      refine Go.st (U := (Ti8.setTop (mkF m 208 #[.val (.long p0), .second, .val (.int p1), .val (.int p2), .val (.int p3), .val (.long p4), .second, .val (.long bl), .second, .val (.long kc), .second, .val (.long qq), .second, .val (.ref bi1), .val (.ref bi3), .val (.int (1 : Int32)), .val (.long rr), .second, .val (.long hp), .second, .val (.ref bi6), .val (.double mm), .second, .val (.double (FP.l2d qq)), .second, .val (.int (1 : Int32)), .val (.int (1 : Int32)), .unset, .unset, .unset, .unset, .unset] [(.double (FP.l2d qq)), (.double mm)]))) (fun t_ k_ => XS.dload Xi8.here hx rfl (hb hby at_206) rfl k_) ?_
      refine Go.st (U := (Ti8.setTop (mkF m 209 #[.val (.long p0), .second, .val (.int p1), .val (.int p2), .val (.int p3), .val (.long p4), .second, .val (.long bl), .second, .val (.long kc), .second, .val (.long qq), .second, .val (.ref bi1), .val (.ref bi3), .val (.int (1 : Int32)), .val (.long rr), .second, .val (.long hp), .second, .val (.ref bi6), .val (.double mm), .second, .val (.double (FP.l2d qq)), .second, .val (.int (1 : Int32)), .val (.int (1 : Int32)), .unset, .unset, .unset, .unset, .unset] [(.double (FP.dsub mm (FP.l2d qq)))]))) (fun t_ k_ => XS.dsubS Xi8.here hx rfl (hb hby at_208) rfl G6 rfl k_) ?_
      refine Go.st (U := (Ti8.setTop (mkF m 211 #[.val (.long p0), .second, .val (.int p1), .val (.int p2), .val (.int p3), .val (.long p4), .second, .val (.long bl), .second, .val (.long kc), .second, .val (.long qq), .second, .val (.ref bi1), .val (.ref bi3), .val (.int (1 : Int32)), .val (.long rr), .second, .val (.long hp), .second, .val (.ref bi6), .val (.double mm), .second, .val (.double (FP.l2d qq)), .second, .val (.int (1 : Int32)), .val (.int (1 : Int32)), .val (.double (FP.dsub mm (FP.l2d qq))), .second, .unset, .unset, .unset] []))) (fun t_ k_ => XS.dstore Xi8.here hx rfl (hb hby at_209) rfl (l' := #[.val (.long p0), .second, .val (.int p1), .val (.int p2), .val (.int p3), .val (.long p4), .second, .val (.long bl), .second, .val (.long kc), .second, .val (.long qq), .second, .val (.ref bi1), .val (.ref bi3), .val (.int (1 : Int32)), .val (.long rr), .second, .val (.long hp), .second, .val (.ref bi6), .val (.double mm), .second, .val (.double (FP.l2d qq)), .second, .val (.int (1 : Int32)), .val (.int (1 : Int32)), .val (.double (FP.dsub mm (FP.l2d qq))), .second, .unset, .unset, .unset]) rfl k_) ?_
      refine Go.st (U := (Ti8.setTop (mkF m 214 #[.val (.long p0), .second, .val (.int p1), .val (.int p2), .val (.int p3), .val (.long p4), .second, .val (.long bl), .second, .val (.long kc), .second, .val (.long qq), .second, .val (.ref bi1), .val (.ref bi3), .val (.int (1 : Int32)), .val (.long rr), .second, .val (.long hp), .second, .val (.ref bi6), .val (.double mm), .second, .val (.double (FP.l2d qq)), .second, .val (.int (1 : Int32)), .val (.int (1 : Int32)), .val (.double (FP.dsub mm (FP.l2d qq))), .second, .unset, .unset, .unset] [(.long (2 : Int64))]))) (Xi8.ldc2Long hx hown (mvT hZ (hw _ (List.mem_of_getElem? (i := 55) rfl))) (g := (mkF m 211 #[.val (.long p0), .second, .val (.int p1), .val (.int p2), .val (.int p3), .val (.long p4), .second, .val (.long bl), .second, .val (.long kc), .second, .val (.long qq), .second, .val (.ref bi1), .val (.ref bi3), .val (.int (1 : Int32)), .val (.long rr), .second, .val (.long hp), .second, .val (.ref bi6), .val (.double mm), .second, .val (.double (FP.l2d qq)), .second, .val (.int (1 : Int32)), .val (.int (1 : Int32)), .val (.double (FP.dsub mm (FP.l2d qq))), .second, .unset, .unset, .unset] [])) rfl (hb hby at_211)) ?_
      refine Go.st (U := (Ti8.setTop (mkF m 216 #[.val (.long p0), .second, .val (.int p1), .val (.int p2), .val (.int p3), .val (.long p4), .second, .val (.long bl), .second, .val (.long kc), .second, .val (.long qq), .second, .val (.ref bi1), .val (.ref bi3), .val (.int (1 : Int32)), .val (.long rr), .second, .val (.long hp), .second, .val (.ref bi6), .val (.double mm), .second, .val (.double (FP.l2d qq)), .second, .val (.int (1 : Int32)), .val (.int (1 : Int32)), .val (.double (FP.dsub mm (FP.l2d qq))), .second, .unset, .unset, .unset] [(.long rr), (.long (2 : Int64))]))) (fun t_ k_ => XS.lload Xi8.here hx rfl (hb hby at_214) rfl k_) ?_
      refine Go.st (U := (Ti8.setTop (mkF m 217 #[.val (.long p0), .second, .val (.int p1), .val (.int p2), .val (.int p3), .val (.long p4), .second, .val (.long bl), .second, .val (.long kc), .second, .val (.long qq), .second, .val (.ref bi1), .val (.ref bi3), .val (.int (1 : Int32)), .val (.long rr), .second, .val (.long hp), .second, .val (.ref bi6), .val (.double mm), .second, .val (.double (FP.l2d qq)), .second, .val (.int (1 : Int32)), .val (.int (1 : Int32)), .val (.double (FP.dsub mm (FP.l2d qq))), .second, .unset, .unset, .unset] [(.long ((2 : Int64) * rr))]))) (fun t_ k_ => XS.lmul Xi8.here hx rfl (hb hby at_216) rfl k_) ?_
      generalize q_tw : ((2 : Int64) * rr) = tw
      refine Go.st (U := (Ti8.setTop (mkF m 219 #[.val (.long p0), .second, .val (.int p1), .val (.int p2), .val (.int p3), .val (.long p4), .second, .val (.long bl), .second, .val (.long kc), .second, .val (.long qq), .second, .val (.ref bi1), .val (.ref bi3), .val (.int (1 : Int32)), .val (.long rr), .second, .val (.long hp), .second, .val (.ref bi6), .val (.double mm), .second, .val (.double (FP.l2d qq)), .second, .val (.int (1 : Int32)), .val (.int (1 : Int32)), .val (.double (FP.dsub mm (FP.l2d qq))), .second, .val (.long tw), .second, .unset] []))) (fun t_ k_ => XS.lstore Xi8.here hx rfl (hb hby at_217) rfl (l' := #[.val (.long p0), .second, .val (.int p1), .val (.int p2), .val (.int p3), .val (.long p4), .second, .val (.long bl), .second, .val (.long kc), .second, .val (.long qq), .second, .val (.ref bi1), .val (.ref bi3), .val (.int (1 : Int32)), .val (.long rr), .second, .val (.long hp), .second, .val (.ref bi6), .val (.double mm), .second, .val (.double (FP.l2d qq)), .second, .val (.int (1 : Int32)), .val (.int (1 : Int32)), .val (.double (FP.dsub mm (FP.l2d qq))), .second, .val (.long tw), .second, .unset]) rfl k_) ?_
      obtain ⟨H1, H2, H3⟩ := G7 tw q_tw
      have J283 : Go p e below s room_1 (Q_law Z p0 p1 p2 p3 p4 h0 n0) (Ti8.setTop (mkF m 283 #[.val (.long p0), .second, .val (.int p1), .val (.int p2), .val (.int p3), .val (.long p4), .second, .val (.long bl), .second, .val (.long kc), .second, .val (.long qq), .second, .val (.ref bi1), .val (.ref bi3), .val (.int (1 : Int32)), .val (.long rr), .second, .val (.long hp), .second, .val (.ref bi6), .val (.double mm), .second, .val (.double (FP.l2d qq)), .second, .val (.int (1 : Int32)), .val (.int (1 : Int32)), .val (.double (FP.dsub mm (FP.l2d qq))), .second, .val (.long tw), .second, .unset] [(.int (1 : Int32))])) := by
        refine Go.st (U := (Ti8.setTop (mkF m 285 #[.val (.long p0), .second, .val (.int p1), .val (.int p2), .val (.int p3), .val (.long p4), .second, .val (.long bl), .second, .val (.long kc), .second, .val (.long qq), .second, .val (.ref bi1), .val (.ref bi3), .val (.int (1 : Int32)), .val (.long rr), .second, .val (.long hp), .second, .val (.ref bi6), .val (.double mm), .second, .val (.double (FP.l2d qq)), .second, .val (.int (1 : Int32)), .val (.int (1 : Int32)), .val (.double (FP.dsub mm (FP.l2d qq))), .second, .val (.long tw), .second, .val (.int (1 : Int32))] []))) (fun t_ k_ => XS.istore Xi8.here hx rfl (hb hby at_283) rfl (l' := #[.val (.long p0), .second, .val (.int p1), .val (.int p2), .val (.int p3), .val (.long p4), .second, .val (.long bl), .second, .val (.long kc), .second, .val (.long qq), .second, .val (.ref bi1), .val (.ref bi3), .val (.int (1 : Int32)), .val (.long rr), .second, .val (.long hp), .second, .val (.ref bi6), .val (.double mm), .second, .val (.double (FP.l2d qq)), .second, .val (.int (1 : Int32)), .val (.int (1 : Int32)), .val (.double (FP.dsub mm (FP.l2d qq))), .second, .val (.long tw), .second, .val (.int (1 : Int32))]) rfl k_) ?_
        refine Go.st (U := (Ti8.setTop (mkF m 287 #[.val (.long p0), .second, .val (.int p1), .val (.int p2), .val (.int p3), .val (.long p4), .second, .val (.long bl), .second, .val (.long kc), .second, .val (.long qq), .second, .val (.ref bi1), .val (.ref bi3), .val (.int (1 : Int32)), .val (.long rr), .second, .val (.long hp), .second, .val (.ref bi6), .val (.double mm), .second, .val (.double (FP.l2d qq)), .second, .val (.int (1 : Int32)), .val (.int (1 : Int32)), .val (.double (FP.dsub mm (FP.l2d qq))), .second, .val (.long tw), .second, .val (.int (1 : Int32))] [(.int (1 : Int32))]))) (fun t_ k_ => XS.iload Xi8.here hx rfl (hb hby at_285) rfl k_) ?_
        refine Go.st (U := (Ti8.setTop (mkF m 290 #[.val (.long p0), .second, .val (.int p1), .val (.int p2), .val (.int p3), .val (.long p4), .second, .val (.long bl), .second, .val (.long kc), .second, .val (.long qq), .second, .val (.ref bi1), .val (.ref bi3), .val (.int (1 : Int32)), .val (.long rr), .second, .val (.long hp), .second, .val (.ref bi6), .val (.double mm), .second, .val (.double (FP.l2d qq)), .second, .val (.int (1 : Int32)), .val (.int (1 : Int32)), .val (.double (FP.dsub mm (FP.l2d qq))), .second, .val (.long tw), .second, .val (.int (1 : Int32))] []))) (fun t_ k_ => XS.ifNo Xi8.here hx rfl (hb hby at_287) rfl ((if0 _ _).trans (feq (by decide)).1) k_) ?_
        refine Go.st (U := (Ti8.setTop (mkF m 292 #[.val (.long p0), .second, .val (.int p1), .val (.int p2), .val (.int p3), .val (.long p4), .second, .val (.long bl), .second, .val (.long kc), .second, .val (.long qq), .second, .val (.ref bi1), .val (.ref bi3), .val (.int (1 : Int32)), .val (.long rr), .second, .val (.long hp), .second, .val (.ref bi6), .val (.double mm), .second, .val (.double (FP.l2d qq)), .second, .val (.int (1 : Int32)), .val (.int (1 : Int32)), .val (.double (FP.dsub mm (FP.l2d qq))), .second, .val (.long tw), .second, .val (.int (1 : Int32))] [(.int (1 : Int32))]))) (fun t_ k_ => XS.iload Xi8.here hx rfl (hb hby at_290) rfl k_) ?_
        refine Go.st (U := (Ti8.setTop (mkF m 295 #[.val (.long p0), .second, .val (.int p1), .val (.int p2), .val (.int p3), .val (.long p4), .second, .val (.long bl), .second, .val (.long kc), .second, .val (.long qq), .second, .val (.ref bi1), .val (.ref bi3), .val (.int (1 : Int32)), .val (.long rr), .second, .val (.long hp), .second, .val (.ref bi6), .val (.double mm), .second, .val (.double (FP.l2d qq)), .second, .val (.int (1 : Int32)), .val (.int (1 : Int32)), .val (.double (FP.dsub mm (FP.l2d qq))), .second, .val (.long tw), .second, .val (.int (1 : Int32))] []))) (fun t_ k_ => XS.ifNo Xi8.here hx rfl (hb hby at_292) rfl ((if0 _ _).trans (feq (by decide)).1) k_) ?_
        refine Go.st (U := (Ti8.setTop (mkF m 297 #[.val (.long p0), .second, .val (.int p1), .val (.int p2), .val (.int p3), .val (.long p4), .second, .val (.long bl), .second, .val (.long kc), .second, .val (.long qq), .second, .val (.ref bi1), .val (.ref bi3), .val (.int (1 : Int32)), .val (.long rr), .second, .val (.long hp), .second, .val (.ref bi6), .val (.double mm), .second, .val (.double (FP.l2d qq)), .second, .val (.int (1 : Int32)), .val (.int (1 : Int32)), .val (.double (FP.dsub mm (FP.l2d qq))), .second, .val (.long tw), .second, .val (.int (1 : Int32))] [(.int (1 : Int32))]))) (fun t_ k_ => XS.iload Xi8.here hx rfl (hb hby at_295) rfl k_) ?_
        refine Go.st (U := (Ti8.setTop (mkF m 300 #[.val (.long p0), .second, .val (.int p1), .val (.int p2), .val (.int p3), .val (.long p4), .second, .val (.long bl), .second, .val (.long kc), .second, .val (.long qq), .second, .val (.ref bi1), .val (.ref bi3), .val (.int (1 : Int32)), .val (.long rr), .second, .val (.long hp), .second, .val (.ref bi6), .val (.double mm), .second, .val (.double (FP.l2d qq)), .second, .val (.int (1 : Int32)), .val (.int (1 : Int32)), .val (.double (FP.dsub mm (FP.l2d qq))), .second, .val (.long tw), .second, .val (.int (1 : Int32))] []))) (fun t_ k_ => XS.ifNo Xi8.here hx rfl (hb hby at_297) rfl ((if0 _ _).trans (feq (by decide)).1) k_) ?_
        refine Go.st (U := (Ti8.setTop (mkF m 302 #[.val (.long p0), .second, .val (.int p1), .val (.int p2), .val (.int p3), .val (.long p4), .second, .val (.long bl), .second, .val (.long kc), .second, .val (.long qq), .second, .val (.ref bi1), .val (.ref bi3), .val (.int (1 : Int32)), .val (.long rr), .second, .val (.long hp), .second, .val (.ref bi6), .val (.double mm), .second, .val (.double (FP.l2d qq)), .second, .val (.int (1 : Int32)), .val (.int (1 : Int32)), .val (.double (FP.dsub mm (FP.l2d qq))), .second, .val (.long tw), .second, .val (.int (1 : Int32))] [(.int (1 : Int32))]))) (fun t_ k_ => XS.iload Xi8.here hx rfl (hb hby at_300) rfl k_) ?_
        refine Go.st (U := (Ti8.setTop (mkF m 305 #[.val (.long p0), .second, .val (.int p1), .val (.int p2), .val (.int p3), .val (.long p4), .second, .val (.long bl), .second, .val (.long kc), .second, .val (.long qq), .second, .val (.ref bi1), .val (.ref bi3), .val (.int (1 : Int32)), .val (.long rr), .second, .val (.long hp), .second, .val (.ref bi6), .val (.double mm), .second, .val (.double (FP.l2d qq)), .second, .val (.int (1 : Int32)), .val (.int (1 : Int32)), .val (.double (FP.dsub mm (FP.l2d qq))), .second, .val (.long tw), .second, .val (.int (1 : Int32))] []))) (fun t_ k_ => XS.ifNo Xi8.here hx rfl (hb hby at_302) rfl ((if0 _ _).trans (feq (by decide)).1) k_) ?_
        refine Go.st (U := (Ti8.setTop (mkF m 306 #[.val (.long p0), .second, .val (.int p1), .val (.int p2), .val (.int p3), .val (.long p4), .second, .val (.long bl), .second, .val (.long kc), .second, .val (.long qq), .second, .val (.ref bi1), .val (.ref bi3), .val (.int (1 : Int32)), .val (.long rr), .second, .val (.long hp), .second, .val (.ref bi6), .val (.double mm), .second, .val (.double (FP.l2d qq)), .second, .val (.int (1 : Int32)), .val (.int (1 : Int32)), .val (.double (FP.dsub mm (FP.l2d qq))), .second, .val (.long tw), .second, .val (.int (1 : Int32))] [(.int (1 : Int32))]))) (fun t_ k_ => XS.iconst Xi8.here hx rfl (hb hby at_305) k_) ?_
        refine Go.st (U := (Ti8.setTop (mkF m 310 #[.val (.long p0), .second, .val (.int p1), .val (.int p2), .val (.int p3), .val (.long p4), .second, .val (.long bl), .second, .val (.long kc), .second, .val (.long qq), .second, .val (.ref bi1), .val (.ref bi3), .val (.int (1 : Int32)), .val (.long rr), .second, .val (.long hp), .second, .val (.ref bi6), .val (.double mm), .second, .val (.double (FP.l2d qq)), .second, .val (.int (1 : Int32)), .val (.int (1 : Int32)), .val (.double (FP.dsub mm (FP.l2d qq))), .second, .val (.long tw), .second, .val (.int (1 : Int32))] [(.int (1 : Int32))]))) (fun t_ k_ => XS.goto Xi8.here hx rfl (pc0 := 306) (pc' := 310) rfl (hb hby at_306) (by decide) (by decide) k_) ?_
        refine Go.retZ Xi8 hx hlk hret (hb hby at_310) (by decide) (by decide) ?_
        exact ⟨rfl, Ni8⟩
      refine Go.st (U := (Ti8.setTop (mkF m 221 #[.val (.long p0), .second, .val (.int p1), .val (.int p2), .val (.int p3), .val (.long p4), .second, .val (.long bl), .second, .val (.long kc), .second, .val (.long qq), .second, .val (.ref bi1), .val (.ref bi3), .val (.int (1 : Int32)), .val (.long rr), .second, .val (.long hp), .second, .val (.ref bi6), .val (.double mm), .second, .val (.double (FP.l2d qq)), .second, .val (.int (1 : Int32)), .val (.int (1 : Int32)), .val (.double (FP.dsub mm (FP.l2d qq))), .second, .val (.long tw), .second, .unset] [(.long tw)]))) (fun t_ k_ => XS.lload Xi8.here hx rfl (hb hby at_219) rfl k_) ?_
      refine Go.st (U := (Ti8.setTop (mkF m 223 #[.val (.long p0), .second, .val (.int p1), .val (.int p2), .val (.int p3), .val (.long p4), .second, .val (.long bl), .second, .val (.long kc), .second, .val (.long qq), .second, .val (.ref bi1), .val (.ref bi3), .val (.int (1 : Int32)), .val (.long rr), .second, .val (.long hp), .second, .val (.ref bi6), .val (.double mm), .second, .val (.double (FP.l2d qq)), .second, .val (.int (1 : Int32)), .val (.int (1 : Int32)), .val (.double (FP.dsub mm (FP.l2d qq))), .second, .val (.long tw), .second, .unset] [(.long kc), (.long tw)]))) (fun t_ k_ => XS.lload Xi8.here hx rfl (hb hby at_221) rfl k_) ?_
      refine Go.st (U := (Ti8.setTop (mkF m 224 #[.val (.long p0), .second, .val (.int p1), .val (.int p2), .val (.int p3), .val (.long p4), .second, .val (.long bl), .second, .val (.long kc), .second, .val (.long qq), .second, .val (.ref bi1), .val (.ref bi3), .val (.int (1 : Int32)), .val (.long rr), .second, .val (.long hp), .second, .val (.ref bi6), .val (.double mm), .second, .val (.double (FP.l2d qq)), .second, .val (.int (1 : Int32)), .val (.int (1 : Int32)), .val (.double (FP.dsub mm (FP.l2d qq))), .second, .val (.long tw), .second, .unset] [(.int (lcmpW tw kc))]))) (fun t_ k_ => XS.lcmp Xi8.here hx rfl (hb hby at_223) rfl k_) ?_
      by_cases h224 : (lcmpW tw kc) < (0 : Int32)
      · refine Go.st (U := (Ti8.setTop (mkF m 227 #[.val (.long p0), .second, .val (.int p1), .val (.int p2), .val (.int p3), .val (.long p4), .second, .val (.long bl), .second, .val (.long kc), .second, .val (.long qq), .second, .val (.ref bi1), .val (.ref bi3), .val (.int (1 : Int32)), .val (.long rr), .second, .val (.long hp), .second, .val (.ref bi6), .val (.double mm), .second, .val (.double (FP.l2d qq)), .second, .val (.int (1 : Int32)), .val (.int (1 : Int32)), .val (.double (FP.dsub mm (FP.l2d qq))), .second, .val (.long tw), .second, .unset] []))) (fun t_ k_ => XS.ifNo Xi8.here hx rfl (hb hby at_224) rfl ((if0 _ _).trans (tlt h224).2.1) k_) ?_
        refine Go.st (U := (Ti8.setTop (mkF m 229 #[.val (.long p0), .second, .val (.int p1), .val (.int p2), .val (.int p3), .val (.long p4), .second, .val (.long bl), .second, .val (.long kc), .second, .val (.long qq), .second, .val (.ref bi1), .val (.ref bi3), .val (.int (1 : Int32)), .val (.long rr), .second, .val (.long hp), .second, .val (.ref bi6), .val (.double mm), .second, .val (.double (FP.l2d qq)), .second, .val (.int (1 : Int32)), .val (.int (1 : Int32)), .val (.double (FP.dsub mm (FP.l2d qq))), .second, .val (.long tw), .second, .unset] [(.double (FP.dsub mm (FP.l2d qq)))]))) (fun t_ k_ => XS.dload Xi8.here hx rfl (hb hby at_227) rfl k_) ?_
        refine Go.st (U := (Ti8.setTop (mkF m 232 #[.val (.long p0), .second, .val (.int p1), .val (.int p2), .val (.int p3), .val (.long p4), .second, .val (.long bl), .second, .val (.long kc), .second, .val (.long qq), .second, .val (.ref bi1), .val (.ref bi3), .val (.int (1 : Int32)), .val (.long rr), .second, .val (.long hp), .second, .val (.ref bi6), .val (.double mm), .second, .val (.double (FP.l2d qq)), .second, .val (.int (1 : Int32)), .val (.int (1 : Int32)), .val (.double (FP.dsub mm (FP.l2d qq))), .second, .val (.long tw), .second, .unset] [(.double (4602678819172646912 : UInt64)), (.double (FP.dsub mm (FP.l2d qq)))]))) (Xi8.ldc2DoubleC hx hown (mvT hZ (hw _ (List.mem_of_getElem? (i := 56) rfl))) (g := (mkF m 229 #[.val (.long p0), .second, .val (.int p1), .val (.int p2), .val (.int p3), .val (.long p4), .second, .val (.long bl), .second, .val (.long kc), .second, .val (.long qq), .second, .val (.ref bi1), .val (.ref bi3), .val (.int (1 : Int32)), .val (.long rr), .second, .val (.long hp), .second, .val (.ref bi6), .val (.double mm), .second, .val (.double (FP.l2d qq)), .second, .val (.int (1 : Int32)), .val (.int (1 : Int32)), .val (.double (FP.dsub mm (FP.l2d qq))), .second, .val (.long tw), .second, .unset] [(.double (FP.dsub mm (FP.l2d qq)))])) rfl (hb hby at_229)) ?_
        refine Go.st (U := (Ti8.setTop (mkF m 233 #[.val (.long p0), .second, .val (.int p1), .val (.int p2), .val (.int p3), .val (.long p4), .second, .val (.long bl), .second, .val (.long kc), .second, .val (.long qq), .second, .val (.ref bi1), .val (.ref bi3), .val (.int (1 : Int32)), .val (.long rr), .second, .val (.long hp), .second, .val (.ref bi6), .val (.double mm), .second, .val (.double (FP.l2d qq)), .second, .val (.int (1 : Int32)), .val (.int (1 : Int32)), .val (.double (FP.dsub mm (FP.l2d qq))), .second, .val (.long tw), .second, .unset] [(.int (cmpValue (FP.dcmp (FP.dsub mm (FP.l2d qq)) (4602678819172646912 : UInt64)) .g))]))) (fun t_ k_ => XS.dcmpS Xi8.here hx rfl (hb hby at_232) rfl rfl k_) ?_
        refine Go.st (U := (Ti8.setTop (mkF m 236 #[.val (.long p0), .second, .val (.int p1), .val (.int p2), .val (.int p3), .val (.long p4), .second, .val (.long bl), .second, .val (.long kc), .second, .val (.long qq), .second, .val (.ref bi1), .val (.ref bi3), .val (.int (1 : Int32)), .val (.long rr), .second, .val (.long hp), .second, .val (.ref bi6), .val (.double mm), .second, .val (.double (FP.l2d qq)), .second, .val (.int (1 : Int32)), .val (.int (1 : Int32)), .val (.double (FP.dsub mm (FP.l2d qq))), .second, .val (.long tw), .second, .unset] []))) (fun t_ k_ => XS.ifNo Xi8.here hx rfl (hb hby at_233) rfl ((if0 _ _).trans (tlt (H1 h224)).2.1) k_) ?_
        refine Go.st (U := (Ti8.setTop (mkF m 237 #[.val (.long p0), .second, .val (.int p1), .val (.int p2), .val (.int p3), .val (.long p4), .second, .val (.long bl), .second, .val (.long kc), .second, .val (.long qq), .second, .val (.ref bi1), .val (.ref bi3), .val (.int (1 : Int32)), .val (.long rr), .second, .val (.long hp), .second, .val (.ref bi6), .val (.double mm), .second, .val (.double (FP.l2d qq)), .second, .val (.int (1 : Int32)), .val (.int (1 : Int32)), .val (.double (FP.dsub mm (FP.l2d qq))), .second, .val (.long tw), .second, .unset] [(.int (1 : Int32))]))) (fun t_ k_ => XS.iconst Xi8.here hx rfl (hb hby at_236) k_) ?_
        refine Go.st (U := (Ti8.setTop (mkF m 283 #[.val (.long p0), .second, .val (.int p1), .val (.int p2), .val (.int p3), .val (.long p4), .second, .val (.long bl), .second, .val (.long kc), .second, .val (.long qq), .second, .val (.ref bi1), .val (.ref bi3), .val (.int (1 : Int32)), .val (.long rr), .second, .val (.long hp), .second, .val (.ref bi6), .val (.double mm), .second, .val (.double (FP.l2d qq)), .second, .val (.int (1 : Int32)), .val (.int (1 : Int32)), .val (.double (FP.dsub mm (FP.l2d qq))), .second, .val (.long tw), .second, .unset] [(.int (1 : Int32))]))) (fun t_ k_ => XS.goto Xi8.here hx rfl (pc0 := 237) (pc' := 283) rfl (hb hby at_237) (by decide) (by decide) k_) ?_
        exact J283  
      · refine Go.st (U := (Ti8.setTop (mkF m 244 #[.val (.long p0), .second, .val (.int p1), .val (.int p2), .val (.int p3), .val (.long p4), .second, .val (.long bl), .second, .val (.long kc), .second, .val (.long qq), .second, .val (.ref bi1), .val (.ref bi3), .val (.int (1 : Int32)), .val (.long rr), .second, .val (.long hp), .second, .val (.ref bi6), .val (.double mm), .second, .val (.double (FP.l2d qq)), .second, .val (.int (1 : Int32)), .val (.int (1 : Int32)), .val (.double (FP.dsub mm (FP.l2d qq))), .second, .val (.long tw), .second, .unset] []))) (fun t_ k_ => XS.ifYes Xi8.here hx rfl (pc0 := 224) (pc' := 244) rfl (hb hby at_224) rfl ((if0 _ _).trans (flt h224).2.1) (by decide) (by decide) k_) ?_
        refine Go.st (U := (Ti8.setTop (mkF m 246 #[.val (.long p0), .second, .val (.int p1), .val (.int p2), .val (.int p3), .val (.long p4), .second, .val (.long bl), .second, .val (.long kc), .second, .val (.long qq), .second, .val (.ref bi1), .val (.ref bi3), .val (.int (1 : Int32)), .val (.long rr), .second, .val (.long hp), .second, .val (.ref bi6), .val (.double mm), .second, .val (.double (FP.l2d qq)), .second, .val (.int (1 : Int32)), .val (.int (1 : Int32)), .val (.double (FP.dsub mm (FP.l2d qq))), .second, .val (.long tw), .second, .unset] [(.long tw)]))) (fun t_ k_ => XS.lload Xi8.here hx rfl (hb hby at_244) rfl k_) ?_
        refine Go.st (U := (Ti8.setTop (mkF m 248 #[.val (.long p0), .second, .val (.int p1), .val (.int p2), .val (.int p3), .val (.long p4), .second, .val (.long bl), .second, .val (.long kc), .second, .val (.long qq), .second, .val (.ref bi1), .val (.ref bi3), .val (.int (1 : Int32)), .val (.long rr), .second, .val (.long hp), .second, .val (.ref bi6), .val (.double mm), .second, .val (.double (FP.l2d qq)), .second, .val (.int (1 : Int32)), .val (.int (1 : Int32)), .val (.double (FP.dsub mm (FP.l2d qq))), .second, .val (.long tw), .second, .unset] [(.long kc), (.long tw)]))) (fun t_ k_ => XS.lload Xi8.here hx rfl (hb hby at_246) rfl k_) ?_
        refine Go.st (U := (Ti8.setTop (mkF m 249 #[.val (.long p0), .second, .val (.int p1), .val (.int p2), .val (.int p3), .val (.long p4), .second, .val (.long bl), .second, .val (.long kc), .second, .val (.long qq), .second, .val (.ref bi1), .val (.ref bi3), .val (.int (1 : Int32)), .val (.long rr), .second, .val (.long hp), .second, .val (.ref bi6), .val (.double mm), .second, .val (.double (FP.l2d qq)), .second, .val (.int (1 : Int32)), .val (.int (1 : Int32)), .val (.double (FP.dsub mm (FP.l2d qq))), .second, .val (.long tw), .second, .unset] [(.int (lcmpW tw kc))]))) (fun t_ k_ => XS.lcmp Xi8.here hx rfl (hb hby at_248) rfl k_) ?_
        by_cases h249 : (lcmpW tw kc) = (0 : Int32)
        · refine Go.st (U := (Ti8.setTop (mkF m 252 #[.val (.long p0), .second, .val (.int p1), .val (.int p2), .val (.int p3), .val (.long p4), .second, .val (.long bl), .second, .val (.long kc), .second, .val (.long qq), .second, .val (.ref bi1), .val (.ref bi3), .val (.int (1 : Int32)), .val (.long rr), .second, .val (.long hp), .second, .val (.ref bi6), .val (.double mm), .second, .val (.double (FP.l2d qq)), .second, .val (.int (1 : Int32)), .val (.int (1 : Int32)), .val (.double (FP.dsub mm (FP.l2d qq))), .second, .val (.long tw), .second, .unset] []))) (fun t_ k_ => XS.ifNo Xi8.here hx rfl (hb hby at_249) rfl ((if0 _ _).trans (teq h249).2) k_) ?_
          refine Go.st (U := (Ti8.setTop (mkF m 254 #[.val (.long p0), .second, .val (.int p1), .val (.int p2), .val (.int p3), .val (.long p4), .second, .val (.long bl), .second, .val (.long kc), .second, .val (.long qq), .second, .val (.ref bi1), .val (.ref bi3), .val (.int (1 : Int32)), .val (.long rr), .second, .val (.long hp), .second, .val (.ref bi6), .val (.double mm), .second, .val (.double (FP.l2d qq)), .second, .val (.int (1 : Int32)), .val (.int (1 : Int32)), .val (.double (FP.dsub mm (FP.l2d qq))), .second, .val (.long tw), .second, .unset] [(.double (FP.dsub mm (FP.l2d qq)))]))) (fun t_ k_ => XS.dload Xi8.here hx rfl (hb hby at_252) rfl k_) ?_
          refine Go.st (U := (Ti8.setTop (mkF m 257 #[.val (.long p0), .second, .val (.int p1), .val (.int p2), .val (.int p3), .val (.long p4), .second, .val (.long bl), .second, .val (.long kc), .second, .val (.long qq), .second, .val (.ref bi1), .val (.ref bi3), .val (.int (1 : Int32)), .val (.long rr), .second, .val (.long hp), .second, .val (.ref bi6), .val (.double mm), .second, .val (.double (FP.l2d qq)), .second, .val (.int (1 : Int32)), .val (.int (1 : Int32)), .val (.double (FP.dsub mm (FP.l2d qq))), .second, .val (.long tw), .second, .unset] [(.double (4602678819172646912 : UInt64)), (.double (FP.dsub mm (FP.l2d qq)))]))) (Xi8.ldc2DoubleC hx hown (mvT hZ (hw _ (List.mem_of_getElem? (i := 56) rfl))) (g := (mkF m 254 #[.val (.long p0), .second, .val (.int p1), .val (.int p2), .val (.int p3), .val (.long p4), .second, .val (.long bl), .second, .val (.long kc), .second, .val (.long qq), .second, .val (.ref bi1), .val (.ref bi3), .val (.int (1 : Int32)), .val (.long rr), .second, .val (.long hp), .second, .val (.ref bi6), .val (.double mm), .second, .val (.double (FP.l2d qq)), .second, .val (.int (1 : Int32)), .val (.int (1 : Int32)), .val (.double (FP.dsub mm (FP.l2d qq))), .second, .val (.long tw), .second, .unset] [(.double (FP.dsub mm (FP.l2d qq)))])) rfl (hb hby at_254)) ?_
          refine Go.st (U := (Ti8.setTop (mkF m 258 #[.val (.long p0), .second, .val (.int p1), .val (.int p2), .val (.int p3), .val (.long p4), .second, .val (.long bl), .second, .val (.long kc), .second, .val (.long qq), .second, .val (.ref bi1), .val (.ref bi3), .val (.int (1 : Int32)), .val (.long rr), .second, .val (.long hp), .second, .val (.ref bi6), .val (.double mm), .second, .val (.double (FP.l2d qq)), .second, .val (.int (1 : Int32)), .val (.int (1 : Int32)), .val (.double (FP.dsub mm (FP.l2d qq))), .second, .val (.long tw), .second, .unset] [(.int (cmpValue (FP.dcmp (FP.dsub mm (FP.l2d qq)) (4602678819172646912 : UInt64)) .l))]))) (fun t_ k_ => XS.dcmpS Xi8.here hx rfl (hb hby at_257) rfl rfl k_) ?_
          refine Go.st (U := (Ti8.setTop (mkF m 261 #[.val (.long p0), .second, .val (.int p1), .val (.int p2), .val (.int p3), .val (.long p4), .second, .val (.long bl), .second, .val (.long kc), .second, .val (.long qq), .second, .val (.ref bi1), .val (.ref bi3), .val (.int (1 : Int32)), .val (.long rr), .second, .val (.long hp), .second, .val (.ref bi6), .val (.double mm), .second, .val (.double (FP.l2d qq)), .second, .val (.int (1 : Int32)), .val (.int (1 : Int32)), .val (.double (FP.dsub mm (FP.l2d qq))), .second, .val (.long tw), .second, .unset] []))) (fun t_ k_ => XS.ifNo Xi8.here hx rfl (hb hby at_258) rfl ((if0 _ _).trans (teq (H2 h249)).2) k_) ?_
          refine Go.st (U := (Ti8.setTop (mkF m 262 #[.val (.long p0), .second, .val (.int p1), .val (.int p2), .val (.int p3), .val (.long p4), .second, .val (.long bl), .second, .val (.long kc), .second, .val (.long qq), .second, .val (.ref bi1), .val (.ref bi3), .val (.int (1 : Int32)), .val (.long rr), .second, .val (.long hp), .second, .val (.ref bi6), .val (.double mm), .second, .val (.double (FP.l2d qq)), .second, .val (.int (1 : Int32)), .val (.int (1 : Int32)), .val (.double (FP.dsub mm (FP.l2d qq))), .second, .val (.long tw), .second, .unset] [(.int (1 : Int32))]))) (fun t_ k_ => XS.iconst Xi8.here hx rfl (hb hby at_261) k_) ?_
          refine Go.st (U := (Ti8.setTop (mkF m 283 #[.val (.long p0), .second, .val (.int p1), .val (.int p2), .val (.int p3), .val (.long p4), .second, .val (.long bl), .second, .val (.long kc), .second, .val (.long qq), .second, .val (.ref bi1), .val (.ref bi3), .val (.int (1 : Int32)), .val (.long rr), .second, .val (.long hp), .second, .val (.ref bi6), .val (.double mm), .second, .val (.double (FP.l2d qq)), .second, .val (.int (1 : Int32)), .val (.int (1 : Int32)), .val (.double (FP.dsub mm (FP.l2d qq))), .second, .val (.long tw), .second, .unset] [(.int (1 : Int32))]))) (fun t_ k_ => XS.goto Xi8.here hx rfl (pc0 := 262) (pc' := 283) rfl (hb hby at_262) (by decide) (by decide) k_) ?_
          exact J283  
        · refine Go.st (U := (Ti8.setTop (mkF m 269 #[.val (.long p0), .second, .val (.int p1), .val (.int p2), .val (.int p3), .val (.long p4), .second, .val (.long bl), .second, .val (.long kc), .second, .val (.long qq), .second, .val (.ref bi1), .val (.ref bi3), .val (.int (1 : Int32)), .val (.long rr), .second, .val (.long hp), .second, .val (.ref bi6), .val (.double mm), .second, .val (.double (FP.l2d qq)), .second, .val (.int (1 : Int32)), .val (.int (1 : Int32)), .val (.double (FP.dsub mm (FP.l2d qq))), .second, .val (.long tw), .second, .unset] []))) (fun t_ k_ => XS.ifYes Xi8.here hx rfl (pc0 := 249) (pc' := 269) rfl (hb hby at_249) rfl ((if0 _ _).trans (feq h249).2) (by decide) (by decide) k_) ?_
          refine Go.st (U := (Ti8.setTop (mkF m 271 #[.val (.long p0), .second, .val (.int p1), .val (.int p2), .val (.int p3), .val (.long p4), .second, .val (.long bl), .second, .val (.long kc), .second, .val (.long qq), .second, .val (.ref bi1), .val (.ref bi3), .val (.int (1 : Int32)), .val (.long rr), .second, .val (.long hp), .second, .val (.ref bi6), .val (.double mm), .second, .val (.double (FP.l2d qq)), .second, .val (.int (1 : Int32)), .val (.int (1 : Int32)), .val (.double (FP.dsub mm (FP.l2d qq))), .second, .val (.long tw), .second, .unset] [(.double (FP.dsub mm (FP.l2d qq)))]))) (fun t_ k_ => XS.dload Xi8.here hx rfl (hb hby at_269) rfl k_) ?_
          refine Go.st (U := (Ti8.setTop (mkF m 274 #[.val (.long p0), .second, .val (.int p1), .val (.int p2), .val (.int p3), .val (.long p4), .second, .val (.long bl), .second, .val (.long kc), .second, .val (.long qq), .second, .val (.ref bi1), .val (.ref bi3), .val (.int (1 : Int32)), .val (.long rr), .second, .val (.long hp), .second, .val (.ref bi6), .val (.double mm), .second, .val (.double (FP.l2d qq)), .second, .val (.int (1 : Int32)), .val (.int (1 : Int32)), .val (.double (FP.dsub mm (FP.l2d qq))), .second, .val (.long tw), .second, .unset] [(.double (4602678819172646912 : UInt64)), (.double (FP.dsub mm (FP.l2d qq)))]))) (Xi8.ldc2DoubleC hx hown (mvT hZ (hw _ (List.mem_of_getElem? (i := 56) rfl))) (g := (mkF m 271 #[.val (.long p0), .second, .val (.int p1), .val (.int p2), .val (.int p3), .val (.long p4), .second, .val (.long bl), .second, .val (.long kc), .second, .val (.long qq), .second, .val (.ref bi1), .val (.ref bi3), .val (.int (1 : Int32)), .val (.long rr), .second, .val (.long hp), .second, .val (.ref bi6), .val (.double mm), .second, .val (.double (FP.l2d qq)), .second, .val (.int (1 : Int32)), .val (.int (1 : Int32)), .val (.double (FP.dsub mm (FP.l2d qq))), .second, .val (.long tw), .second, .unset] [(.double (FP.dsub mm (FP.l2d qq)))])) rfl (hb hby at_271)) ?_
          refine Go.st (U := (Ti8.setTop (mkF m 275 #[.val (.long p0), .second, .val (.int p1), .val (.int p2), .val (.int p3), .val (.long p4), .second, .val (.long bl), .second, .val (.long kc), .second, .val (.long qq), .second, .val (.ref bi1), .val (.ref bi3), .val (.int (1 : Int32)), .val (.long rr), .second, .val (.long hp), .second, .val (.ref bi6), .val (.double mm), .second, .val (.double (FP.l2d qq)), .second, .val (.int (1 : Int32)), .val (.int (1 : Int32)), .val (.double (FP.dsub mm (FP.l2d qq))), .second, .val (.long tw), .second, .unset] [(.int (cmpValue (FP.dcmp (FP.dsub mm (FP.l2d qq)) (4602678819172646912 : UInt64)) .l))]))) (fun t_ k_ => XS.dcmpS Xi8.here hx rfl (hb hby at_274) rfl rfl k_) ?_
          refine Go.st (U := (Ti8.setTop (mkF m 278 #[.val (.long p0), .second, .val (.int p1), .val (.int p2), .val (.int p3), .val (.long p4), .second, .val (.long bl), .second, .val (.long kc), .second, .val (.long qq), .second, .val (.ref bi1), .val (.ref bi3), .val (.int (1 : Int32)), .val (.long rr), .second, .val (.long hp), .second, .val (.ref bi6), .val (.double mm), .second, .val (.double (FP.l2d qq)), .second, .val (.int (1 : Int32)), .val (.int (1 : Int32)), .val (.double (FP.dsub mm (FP.l2d qq))), .second, .val (.long tw), .second, .unset] []))) (fun t_ k_ => XS.ifNo Xi8.here hx rfl (hb hby at_275) rfl ((if0 _ _).trans (tlt (H3 h224 h249)).2.2.2) k_) ?_
          refine Go.st (U := (Ti8.setTop (mkF m 279 #[.val (.long p0), .second, .val (.int p1), .val (.int p2), .val (.int p3), .val (.long p4), .second, .val (.long bl), .second, .val (.long kc), .second, .val (.long qq), .second, .val (.ref bi1), .val (.ref bi3), .val (.int (1 : Int32)), .val (.long rr), .second, .val (.long hp), .second, .val (.ref bi6), .val (.double mm), .second, .val (.double (FP.l2d qq)), .second, .val (.int (1 : Int32)), .val (.int (1 : Int32)), .val (.double (FP.dsub mm (FP.l2d qq))), .second, .val (.long tw), .second, .unset] [(.int (1 : Int32))]))) (fun t_ k_ => XS.iconst Xi8.here hx rfl (hb hby at_278) k_) ?_
          refine Go.st (U := (Ti8.setTop (mkF m 283 #[.val (.long p0), .second, .val (.int p1), .val (.int p2), .val (.int p3), .val (.long p4), .second, .val (.long bl), .second, .val (.long kc), .second, .val (.long qq), .second, .val (.ref bi1), .val (.ref bi3), .val (.int (1 : Int32)), .val (.long rr), .second, .val (.long hp), .second, .val (.ref bi6), .val (.double mm), .second, .val (.double (FP.l2d qq)), .second, .val (.int (1 : Int32)), .val (.int (1 : Int32)), .val (.double (FP.dsub mm (FP.l2d qq))), .second, .val (.long tw), .second, .unset] [(.int (1 : Int32))]))) (fun t_ k_ => XS.goto Xi8.here hx rfl (pc0 := 279) (pc' := 283) rfl (hb hby at_279) (by decide) (by decide) k_) ?_
          exact J283  
    refine Go.st (U := (Ti8.setTop (mkF m 168 #[.val (.long p0), .second, .val (.int p1), .val (.int p2), .val (.int p3), .val (.long p4), .second, .val (.long bl), .second, .val (.long kc), .second, .val (.long qq), .second, .val (.ref bi1), .val (.ref bi3), .val (.int (1 : Int32)), .val (.long rr), .second, .val (.long hp), .second, .val (.ref bi6), .val (.double mm), .second, .val (.double (FP.l2d qq)), .second, .val (.int (1 : Int32)), .unset, .unset, .unset, .unset, .unset, .unset] [(.long rr)]))) (fun t_ k_ => XS.lload Xi8.here hx rfl (hb hby at_166) rfl k_) ?_
    refine Go.st (U := (Ti8.setTop (mkF m 169 #[.val (.long p0), .second, .val (.int p1), .val (.int p2), .val (.int p3), .val (.long p4), .second, .val (.long bl), .second, .val (.long kc), .second, .val (.long qq), .second, .val (.ref bi1), .val (.ref bi3), .val (.int (1 : Int32)), .val (.long rr), .second, .val (.long hp), .second, .val (.ref bi6), .val (.double mm), .second, .val (.double (FP.l2d qq)), .second, .val (.int (1 : Int32)), .unset, .unset, .unset, .unset, .unset, .unset] [(.long (0 : Int64)), (.long rr)]))) (fun t_ k_ => XS.lconst Xi8.here hx rfl (hb hby at_168) k_) ?_
    refine Go.st (U := (Ti8.setTop (mkF m 170 #[.val (.long p0), .second, .val (.int p1), .val (.int p2), .val (.int p3), .val (.long p4), .second, .val (.long bl), .second, .val (.long kc), .second, .val (.long qq), .second, .val (.ref bi1), .val (.ref bi3), .val (.int (1 : Int32)), .val (.long rr), .second, .val (.long hp), .second, .val (.ref bi6), .val (.double mm), .second, .val (.double (FP.l2d qq)), .second, .val (.int (1 : Int32)), .unset, .unset, .unset, .unset, .unset, .unset] [(.int (lcmpW rr (0 : Int64)))]))) (fun t_ k_ => XS.lcmp Xi8.here hx rfl (hb hby at_169) rfl k_) ?_
    by_cases h170 : (lcmpW rr (0 : Int64)) = (0 : Int32)
    · refine Go.st (U := (Ti8.setTop (mkF m 173 #[.val (.long p0), .second, .val (.int p1), .val (.int p2), .val (.int p3), .val (.long p4), .second, .val (.long bl), .second, .val (.long kc), .second, .val (.long qq), .second, .val (.ref bi1), .val (.ref bi3), .val (.int (1 : Int32)), .val (.long rr), .second, .val (.long hp), .second, .val (.ref bi6), .val (.double mm), .second, .val (.double (FP.l2d qq)), .second, .val (.int (1 : Int32)), .unset, .unset, .unset, .unset, .unset, .unset] []))) (fun t_ k_ => XS.ifNo Xi8.here hx rfl (hb hby at_170) rfl ((if0 _ _).trans (teq h170).2) k_) ?_
      refine Go.st (U := (Ti8.setTop (mkF m 175 #[.val (.long p0), .second, .val (.int p1), .val (.int p2), .val (.int p3), .val (.long p4), .second, .val (.long bl), .second, .val (.long kc), .second, .val (.long qq), .second, .val (.ref bi1), .val (.ref bi3), .val (.int (1 : Int32)), .val (.long rr), .second, .val (.long hp), .second, .val (.ref bi6), .val (.double mm), .second, .val (.double (FP.l2d qq)), .second, .val (.int (1 : Int32)), .unset, .unset, .unset, .unset, .unset, .unset] [(.double mm)]))) (fun t_ k_ => XS.dload Xi8.here hx rfl (hb hby at_173) rfl k_) ?_
      refine Go.st (U := (Ti8.setTop (mkF m 177 #[.val (.long p0), .second, .val (.int p1), .val (.int p2), .val (.int p3), .val (.long p4), .second, .val (.long bl), .second, .val (.long kc), .second, .val (.long qq), .second, .val (.ref bi1), .val (.ref bi3), .val (.int (1 : Int32)), .val (.long rr), .second, .val (.long hp), .second, .val (.ref bi6), .val (.double mm), .second, .val (.double (FP.l2d qq)), .second, .val (.int (1 : Int32)), .unset, .unset, .unset, .unset, .unset, .unset] [(.double (FP.l2d qq)), (.double mm)]))) (fun t_ k_ => XS.dload Xi8.here hx rfl (hb hby at_175) rfl k_) ?_
      refine Go.st (U := (Ti8.setTop (mkF m 178 #[.val (.long p0), .second, .val (.int p1), .val (.int p2), .val (.int p3), .val (.long p4), .second, .val (.long bl), .second, .val (.long kc), .second, .val (.long qq), .second, .val (.ref bi1), .val (.ref bi3), .val (.int (1 : Int32)), .val (.long rr), .second, .val (.long hp), .second, .val (.ref bi6), .val (.double mm), .second, .val (.double (FP.l2d qq)), .second, .val (.int (1 : Int32)), .unset, .unset, .unset, .unset, .unset, .unset] [(.int (cmpValue (FP.dcmp mm (FP.l2d qq)) .l))]))) (fun t_ k_ => XS.dcmpS Xi8.here hx rfl (hb hby at_177) rfl rfl k_) ?_
      refine Go.st (U := (Ti8.setTop (mkF m 181 #[.val (.long p0), .second, .val (.int p1), .val (.int p2), .val (.int p3), .val (.long p4), .second, .val (.long bl), .second, .val (.long kc), .second, .val (.long qq), .second, .val (.ref bi1), .val (.ref bi3), .val (.int (1 : Int32)), .val (.long rr), .second, .val (.long hp), .second, .val (.ref bi6), .val (.double mm), .second, .val (.double (FP.l2d qq)), .second, .val (.int (1 : Int32)), .unset, .unset, .unset, .unset, .unset, .unset] []))) (fun t_ k_ => XS.ifNo Xi8.here hx rfl (hb hby at_178) rfl ((if0 _ _).trans (teq (G4 h170)).2) k_) ?_
      refine Go.st (U := (Ti8.setTop (mkF m 182 #[.val (.long p0), .second, .val (.int p1), .val (.int p2), .val (.int p3), .val (.long p4), .second, .val (.long bl), .second, .val (.long kc), .second, .val (.long qq), .second, .val (.ref bi1), .val (.ref bi3), .val (.int (1 : Int32)), .val (.long rr), .second, .val (.long hp), .second, .val (.ref bi6), .val (.double mm), .second, .val (.double (FP.l2d qq)), .second, .val (.int (1 : Int32)), .unset, .unset, .unset, .unset, .unset, .unset] [(.int (1 : Int32))]))) (fun t_ k_ => XS.iconst Xi8.here hx rfl (hb hby at_181) k_) ?_
      refine Go.st (U := (Ti8.setTop (mkF m 202 #[.val (.long p0), .second, .val (.int p1), .val (.int p2), .val (.int p3), .val (.long p4), .second, .val (.long bl), .second, .val (.long kc), .second, .val (.long qq), .second, .val (.ref bi1), .val (.ref bi3), .val (.int (1 : Int32)), .val (.long rr), .second, .val (.long hp), .second, .val (.ref bi6), .val (.double mm), .second, .val (.double (FP.l2d qq)), .second, .val (.int (1 : Int32)), .unset, .unset, .unset, .unset, .unset, .unset] [(.int (1 : Int32))]))) (fun t_ k_ => XS.goto Xi8.here hx rfl (pc0 := 182) (pc' := 202) rfl (hb hby at_182) (by decide) (by decide) k_) ?_
      exact J202  
    · refine Go.st (U := (Ti8.setTop (mkF m 189 #[.val (.long p0), .second, .val (.int p1), .val (.int p2), .val (.int p3), .val (.long p4), .second, .val (.long bl), .second, .val (.long kc), .second, .val (.long qq), .second, .val (.ref bi1), .val (.ref bi3), .val (.int (1 : Int32)), .val (.long rr), .second, .val (.long hp), .second, .val (.ref bi6), .val (.double mm), .second, .val (.double (FP.l2d qq)), .second, .val (.int (1 : Int32)), .unset, .unset, .unset, .unset, .unset, .unset] []))) (fun t_ k_ => XS.ifYes Xi8.here hx rfl (pc0 := 170) (pc' := 189) rfl (hb hby at_170) rfl ((if0 _ _).trans (feq h170).2) (by decide) (by decide) k_) ?_
      refine Go.st (U := (Ti8.setTop (mkF m 191 #[.val (.long p0), .second, .val (.int p1), .val (.int p2), .val (.int p3), .val (.long p4), .second, .val (.long bl), .second, .val (.long kc), .second, .val (.long qq), .second, .val (.ref bi1), .val (.ref bi3), .val (.int (1 : Int32)), .val (.long rr), .second, .val (.long hp), .second, .val (.ref bi6), .val (.double mm), .second, .val (.double (FP.l2d qq)), .second, .val (.int (1 : Int32)), .unset, .unset, .unset, .unset, .unset, .unset] [(.double mm)]))) (fun t_ k_ => XS.dload Xi8.here hx rfl (hb hby at_189) rfl k_) ?_
      refine Go.st (U := (Ti8.setTop (mkF m 193 #[.val (.long p0), .second, .val (.int p1), .val (.int p2), .val (.int p3), .val (.long p4), .second, .val (.long bl), .second, .val (.long kc), .second, .val (.long qq), .second, .val (.ref bi1), .val (.ref bi3), .val (.int (1 : Int32)), .val (.long rr), .second, .val (.long hp), .second, .val (.ref bi6), .val (.double mm), .second, .val (.double (FP.l2d qq)), .second, .val (.int (1 : Int32)), .unset, .unset, .unset, .unset, .unset, .unset] [(.double (FP.l2d qq)), (.double mm)]))) (fun t_ k_ => XS.dload Xi8.here hx rfl (hb hby at_191) rfl k_) ?_
      refine Go.st (U := (Ti8.setTop (mkF m 194 #[.val (.long p0), .second, .val (.int p1), .val (.int p2), .val (.int p3), .val (.long p4), .second, .val (.long bl), .second, .val (.long kc), .second, .val (.long qq), .second, .val (.ref bi1), .val (.ref bi3), .val (.int (1 : Int32)), .val (.long rr), .second, .val (.long hp), .second, .val (.ref bi6), .val (.double mm), .second, .val (.double (FP.l2d qq)), .second, .val (.int (1 : Int32)), .unset, .unset, .unset, .unset, .unset, .unset] [(.int (cmpValue (FP.dcmp mm (FP.l2d qq)) .l))]))) (fun t_ k_ => XS.dcmpS Xi8.here hx rfl (hb hby at_193) rfl rfl k_) ?_
      refine Go.st (U := (Ti8.setTop (mkF m 197 #[.val (.long p0), .second, .val (.int p1), .val (.int p2), .val (.int p3), .val (.long p4), .second, .val (.long bl), .second, .val (.long kc), .second, .val (.long qq), .second, .val (.ref bi1), .val (.ref bi3), .val (.int (1 : Int32)), .val (.long rr), .second, .val (.long hp), .second, .val (.ref bi6), .val (.double mm), .second, .val (.double (FP.l2d qq)), .second, .val (.int (1 : Int32)), .unset, .unset, .unset, .unset, .unset, .unset] []))) (fun t_ k_ => XS.ifNo Xi8.here hx rfl (hb hby at_194) rfl ((if0 _ _).trans (tlt (G5 h170)).2.2.2) k_) ?_
      refine Go.st (U := (Ti8.setTop (mkF m 198 #[.val (.long p0), .second, .val (.int p1), .val (.int p2), .val (.int p3), .val (.long p4), .second, .val (.long bl), .second, .val (.long kc), .second, .val (.long qq), .second, .val (.ref bi1), .val (.ref bi3), .val (.int (1 : Int32)), .val (.long rr), .second, .val (.long hp), .second, .val (.ref bi6), .val (.double mm), .second, .val (.double (FP.l2d qq)), .second, .val (.int (1 : Int32)), .unset, .unset, .unset, .unset, .unset, .unset] [(.int (1 : Int32))]))) (fun t_ k_ => XS.iconst Xi8.here hx rfl (hb hby at_197) k_) ?_
      refine Go.st (U := (Ti8.setTop (mkF m 202 #[.val (.long p0), .second, .val (.int p1), .val (.int p2), .val (.int p3), .val (.long p4), .second, .val (.long bl), .second, .val (.long kc), .second, .val (.long qq), .second, .val (.ref bi1), .val (.ref bi3), .val (.int (1 : Int32)), .val (.long rr), .second, .val (.long hp), .second, .val (.ref bi6), .val (.double mm), .second, .val (.double (FP.l2d qq)), .second, .val (.int (1 : Int32)), .unset, .unset, .unset, .unset, .unset, .unset] [(.int (1 : Int32))]))) (fun t_ k_ => XS.goto Xi8.here hx rfl (pc0 := 198) (pc' := 202) rfl (hb hby at_198) (by decide) (by decide) k_) ?_
      exact J202  
set_option maxRecDepth 65536 in
set_option maxHeartbeats 40000000 in
theorem comes_1 {Post : Tables → Env → Array Value → State → Outcome → State → Prop} (hpost : ∀ tb e args s v u, (limb_1_1.after args s (.returned v) u = true ∧ limb_1_2.after args s (.returned v) u = true ∧ True) → FrameEnd s (.returned v) u (Jvm.fieldLocs frame_1_writes args s ++ Jvm.arrayLocs frame_1_arrays args s ++ Jvm.staticLocs frame_1_statics s) 16 128 → Post tb e args s (.returned v) u) :
    ArmFor flags0 classFile x code maxLocals ret World_1 tables_1 room_1 Calls_1 rest_1 Pre_1 Post := by
  intro l hfl _ _ p e ha hc hk s m args below hf hA hF happ hP
  obtain ⟨hcalls, hrest, hpre⟩ := hP
  obtain ⟨-, -, -, hnamed, -, -, -, hat⟩ := (Spec.applies_iff hf).mp happ
  obtain ⟨hg, hn⟩ := and_e (Cond.before_iff.mp (show (Jvm.Cond.and given_1 narrow_1).before args s = true from hpre))
  obtain ⟨hcnt, k0⟩ := and_e hg
  obtain ⟨j0, k1⟩ := and_e k0
  obtain ⟨j1, k2⟩ := and_e k1
  obtain ⟨j2, k3⟩ := and_e k2
  obtain ⟨j3, k4⟩ := and_e k3
  have j4 := k4
  obtain ⟨w0, w1, w2, w3, w4, rfl⟩ : ∃ w0 w1 w2 w3 w4 : Value, args = #[w0, w1, w2, w3, w4] := by
    have hs : args.size = 5 := by simpa [Cond.value, given_1] using hcnt
    obtain ⟨L⟩ := args
    match L, hs with
    | [w0, w1, w2, w3, w4], _ => exact ⟨w0, w1, w2, w3, w4, rfl⟩
  have hw := fun d (hd : d ∈ tables_1) => atoms_spec (ws := Jvm.Cond.code x code maxLocals ret :: tables_1) hat d (List.mem_cons_of_mem _ hd)
  have hfit : Fit s := fun {y c} hc i hi => by
    obtain ⟨ha, rfl⟩ := Array.getElem?_eq_some_iff.mp hc
    have q := List.all_eq_true.mp ((Array.all_eq_true_iff_forall_mem.mp hF) _ (Array.getElem_mem ha)) i (List.mem_range.mpr hi)
    simpa [Array.getElem?_eq_getElem hi] using q
  obtain ⟨i0, e0⟩ := isL_v j0
  obtain rfl : w0 = (.long i0) := Option.some.inj e0
  obtain ⟨i1, e1⟩ := is_v j1
  obtain rfl : w1 = (.int i1) := Option.some.inj e1
  obtain ⟨i2, e2⟩ := is_v j2
  obtain rfl : w2 = (.int i2) := Option.some.inj e2
  obtain ⟨i3, e3⟩ := is_v j3
  obtain rfl : w3 = (.int i3) := Option.some.inj e3
  obtain ⟨i4, e4⟩ := isL_v j4
  obtain rfl : w4 = (.long i4) := Option.some.inj e4
  obtain ⟨n, o, h1, h2, h3, _, L, rfl, ⟨rfl, N⟩, hq⟩ := rm_law l s _ hw tables_1 i0 i1 i2 i3 i4  s.heap s.heap.size (Nat.le_refl _)  p e ha hc hk s m _ below hf ((Spec.applies_iff_loose hf).mp happ).1 ⟨rfl, State.Warmed39.refl s, rfl⟩ trivial
  refine ⟨n, _, h1, h2, h3, hpost _ _ _ _ _ _ ⟨Cond.after_iff.mpr rfl, Cond.after_iff.mpr (eq_i res_at (Term.int_eval (1)) rfl), trivial⟩ ⟨hq.1, hq.2.1, (hq.2.2.sift fun y hy => Or.inr (N y hy)).mono (by decide) (by decide)⟩⟩
theorem main_1_1 : Claimed_1_1 := comes_1 fun _ _ _ _ _ _ h hF => ⟨h.1, hF⟩
theorem main_1_2 : Claimed_1_2 := comes_1 fun _ _ _ _ _ _ h hF => ⟨h.2.1, hF⟩
end Jvm.Pilot.@@N@@
namespace Jvm.Pilot.@@N@@
open Jvm Jvm.ClassFile Sem Op Lib Jvm.Free Jvm.Stand Jvm.Pilot.@@N@@.Jvm.D
/-! MADE BY PROGRAM (witnessworld.py) out of the Statement's table words and the real class files: 11 classes; the members and pool entries that the words name. The judged class is class 1, her method 1. -/
namespace start1
open Jvm.ClassFile
def u (s : String) : CpInfo := .utf8 (stringToUtf16 s)
/-- a pool by its gaps: so many unusable entries, then the entry; so many at the end -/
def gap : Nat → List CpInfo → List CpInfo
  | 0, r => r
  | n + 1, r => .unusable :: gap n r
def poolList (es : List (Nat × CpInfo)) (last : Nat) : List CpInfo := es.foldr (fun e r => gap e.1 (e.2 :: r)) (gap last [])
def pool (es : List (Nat × CpInfo)) (last : Nat) : Array CpInfo := ⟨poolList es last⟩
def fileOf (pool : Array CpInfo) (this : Nat) (attrs : Array Attribute := #[]) (ms : Array MethodInfo := #[]) (fl : Nat := 33) (sup : Nat := 0) (ifs : Array Nat := #[]) (fds : Array FieldInfo := #[]) : ClassFile where
  minorVersion := 0
  majorVersion := 65
  constantPool := pool
  accessFlags := fl
  thisClass := this
  superClass := sup
  interfaces := ifs
  fields := fds
  methods := ms
  attributes := attrs
def plain (name : String) (sup : Option ClassId) : Class where
  name := name
  kind := .ordinary
  loader := none
  accessFlags := 33
  super := sup
  interfaces := #[]
  cf := none
  fields := #[]
  methods := #[]
  instanceTypes := #[]
  staticTypes := #[]
  resolved := #[]
  callSites := []
  init := .initialized
  statics := none
  mirror := none

def pool0 : Array CpInfo := pool [(5, u "<init>"), (0, u "()V"), (1, .class_ 10), (1, u "java/lang/Object")] 113

def k0c0 : Code := { maxStack := 0, maxLocals := 1, code := object_method_1_code, exceptionTable := #[], attributes := #[] }
def k0m0 : Method := { name := "<init>", desc := "()V", sig := { parameters := [], returnType := none }, accessFlags := 1, code := some k0c0 }
/-- java/lang/Object -/
def k0 : Class := { plain "java/lang/Object" none with
  accessFlags := 33
  interfaces := #[]
  cf := some (fileOf pool0 8 #[] #[{ accessFlags := 1, nameIndex := 5, descriptorIndex := 6, attributes := #[] }] 33 0 #[] #[])
  fields := #[]
  methods := #[k0m0]
  instanceTypes := #[]
  staticTypes := #[]
  resolved := Array.replicate 124 none
  statics := none }

def pool1 : Array CpInfo := pool [(2, .class_ 4), (1, u "java/lang/Object"), (0, u "<init>"), (0, u "()V"), (0, .long 4611686018427387903), (1, .integer 1048575), (0, .long 2147483647), (1, .class_ 13), (0, u "com/example/lumenwatt/lumenwatt/energy/EnergyUse"), (0, .methodref 12 15), (0, .nameAndType 5 16), (0, u "(DDDDDD)V"), (0, .class_ 18), (0, u "com/example/lumenwatt/lumenwatt/simulation/ReplicationResult"), (0, .methodref 17 20), (0, .nameAndType 5 21), (0, u "(JJJDDDLcom/example/lumenwatt/lumenwatt/energy/EnergyUse;)V"), (0, .methodref 17 23), (0, .nameAndType 24 25), (0, u "meanHops"), (0, u "()D"), (0, .long 2), (1, .double 4602678819172646912), (1, .class_ 31), (0, u "com/example/lumenwatt/lumenwatt/simulation/ReplicationResultMeanHopsPinLaw"), (2, u "law"), (0, u "(JIIIJ)Z")] 3

def k1m0 : Method := { name := "<init>", desc := "()V", sig := { parameters := [], returnType := none }, accessFlags := 1, code := none }
def k1c1 : Code := { maxStack := 15, maxLocals := 32, code := code, exceptionTable := #[], attributes := #[] }
def k1m1 : Method := { name := "law", desc := "(JIIIJ)Z", sig := { parameters := [.long, .int, .int, .int, .long], returnType := some .boolean }, accessFlags := 9, code := some k1c1 }
/-- com/example/lumenwatt/lumenwatt/simulation/ReplicationResultMeanHopsPinLaw -/
def k1 : Class := { plain "com/example/lumenwatt/lumenwatt/simulation/ReplicationResultMeanHopsPinLaw" (some 0) with
  accessFlags := 49
  interfaces := #[]
  cf := some (fileOf pool1 30 #[] #[{ accessFlags := 1, nameIndex := 5, descriptorIndex := 6, attributes := #[] }, { accessFlags := 9, nameIndex := 34, descriptorIndex := 35, attributes := #[] }] 49 2 #[] #[])
  fields := #[]
  methods := #[k1m0, k1m1]
  instanceTypes := #[]
  staticTypes := #[]
  resolved := Array.replicate 39 none
  statics := none }

def pool2 : Array CpInfo := pool [(1, .methodref 2 3), (0, .class_ 4), (0, .nameAndType 5 6), (0, u "java/lang/Object"), (0, u "<init>"), (0, u "()V"), (0, .class_ 8), (0, u "java/lang/Record")] 13

def k2c0 : Code := { maxStack := 1, maxLocals := 1, code := jdk_30_method_1_code, exceptionTable := #[], attributes := #[] }
def k2m0 : Method := { name := "<init>", desc := "()V", sig := { parameters := [], returnType := none }, accessFlags := 4, code := some k2c0 }
/-- java/lang/Record -/
def k2 : Class := { plain "java/lang/Record" (some 0) with
  accessFlags := 1057
  interfaces := #[]
  cf := some (fileOf pool2 7 #[] #[{ accessFlags := 4, nameIndex := 5, descriptorIndex := 6, attributes := #[] }] 1057 2 #[] #[])
  fields := #[]
  methods := #[k2m0]
  instanceTypes := #[]
  staticTypes := #[]
  resolved := Array.replicate 22 none
  statics := none }

def pool3 : Array CpInfo := pool [(1, .methodref 2 3), (0, .class_ 4), (0, .nameAndType 5 6), (0, u "java/lang/Record"), (0, u "<init>"), (0, u "()V"), (0, .fieldref 8 9), (0, .class_ 10), (0, .nameAndType 11 12), (0, u "com/example/lumenwatt/lumenwatt/energy/EnergyUse"), (0, u "wattHours"), (0, u "D"), (0, .fieldref 8 14), (0, .nameAndType 15 12), (0, u "trafficWattHours"), (0, .fieldref 8 17), (0, .nameAndType 18 12), (0, u "co2Grams"), (0, .fieldref 8 20), (0, .nameAndType 21 12), (0, u "trafficCo2Grams"), (0, .fieldref 8 23), (0, .nameAndType 24 12), (0, u "greenWattHours"), (0, .fieldref 8 26), (0, .nameAndType 27 12), (0, u "trafficGreenWattHours"), (14, u "WATT_HOURS_PER_KWH"), (1, u "GRAMS_PER_KG"), (0, u "(DDDDDD)V")] 39

def k3c0 : Code := { maxStack := 3, maxLocals := 13, code := prog_12_method_1_code, exceptionTable := #[], attributes := #[] }
def k3m0 : Method := { name := "<init>", desc := "(DDDDDD)V", sig := { parameters := [.double, .double, .double, .double, .double, .double], returnType := none }, accessFlags := 1, code := some k3c0 }
/-- com/example/lumenwatt/lumenwatt/energy/EnergyUse -/
def k3 : Class := { plain "com/example/lumenwatt/lumenwatt/energy/EnergyUse" (some 2) with
  accessFlags := 49
  interfaces := #[]
  cf := some (fileOf pool3 8 #[] #[{ accessFlags := 1, nameIndex := 5, descriptorIndex := 45, attributes := #[] }] 49 2 #[] #[{ accessFlags := 18, nameIndex := 11, descriptorIndex := 12, attributes := #[] }, { accessFlags := 18, nameIndex := 15, descriptorIndex := 12, attributes := #[] }, { accessFlags := 18, nameIndex := 18, descriptorIndex := 12, attributes := #[] }, { accessFlags := 18, nameIndex := 21, descriptorIndex := 12, attributes := #[] }, { accessFlags := 18, nameIndex := 24, descriptorIndex := 12, attributes := #[] }, { accessFlags := 18, nameIndex := 27, descriptorIndex := 12, attributes := #[] }, { accessFlags := 25, nameIndex := 42, descriptorIndex := 12, attributes := #[] }, { accessFlags := 26, nameIndex := 44, descriptorIndex := 12, attributes := #[] }])
  fields := #[{ name := "wattHours", type := .double, accessFlags := 18, slot := 0, constantValue := 0 }, { name := "trafficWattHours", type := .double, accessFlags := 18, slot := 1, constantValue := 0 }, { name := "co2Grams", type := .double, accessFlags := 18, slot := 2, constantValue := 0 }, { name := "trafficCo2Grams", type := .double, accessFlags := 18, slot := 3, constantValue := 0 }, { name := "greenWattHours", type := .double, accessFlags := 18, slot := 4, constantValue := 0 }, { name := "trafficGreenWattHours", type := .double, accessFlags := 18, slot := 5, constantValue := 0 }, { name := "WATT_HOURS_PER_KWH", type := .double, accessFlags := 25, slot := 0, constantValue := 0 }, { name := "GRAMS_PER_KG", type := .double, accessFlags := 26, slot := 1, constantValue := 0 }]
  methods := #[k3m0]
  instanceTypes := #[.double, .double, .double, .double, .double, .double]
  staticTypes := #[.double, .double]
  resolved := Array.replicate 85 none
  statics := none }

def pool4 : Array CpInfo := pool [(1, .methodref 2 3), (0, .class_ 4), (0, .nameAndType 5 6), (0, u "java/lang/Record"), (0, u "<init>"), (0, u "()V"), (0, .fieldref 8 9), (0, .class_ 10), (0, .nameAndType 11 12), (0, u "com/example/lumenwatt/lumenwatt/simulation/ReplicationResult"), (0, u "requests"), (0, u "J"), (0, .fieldref 8 14), (0, .nameAndType 15 12), (0, u "blocked"), (0, .fieldref 8 17), (0, .nameAndType 18 12), (0, u "carriedHops"), (0, .fieldref 8 20), (0, .nameAndType 21 22), (0, u "activeHours"), (0, u "D"), (0, .fieldref 8 24), (0, .nameAndType 25 22), (0, u "routeWattHours"), (0, .fieldref 8 27), (0, .nameAndType 28 22), (0, u "hours"), (0, .fieldref 8 30), (0, .nameAndType 31 32), (0, u "energy"), (0, u "Lcom/example/lumenwatt/lumenwatt/energy/EnergyUse;"), (5, u "()D"), (15, u "(JJJDDDLcom/example/lumenwatt/lumenwatt/energy/EnergyUse;)V"), (5, u "meanHops")] 35

def k4c0 : Code := { maxStack := 3, maxLocals := 14, code := prog_55_method_1_code, exceptionTable := #[], attributes := #[] }
def k4m0 : Method := { name := "<init>", desc := "(JJJDDDLcom/example/lumenwatt/lumenwatt/energy/EnergyUse;)V", sig := { parameters := [.long, .long, .long, .double, .double, .double, (.object "com/example/lumenwatt/lumenwatt/energy/EnergyUse")], returnType := none }, accessFlags := 1, code := some k4c0 }
def k4c1 : Code := { maxStack := 4, maxLocals := 3, code := prog_55_method_3_code, exceptionTable := #[], attributes := #[] }
def k4m1 : Method := { name := "meanHops", desc := "()D", sig := { parameters := [], returnType := some .double }, accessFlags := 1, code := some k4c1 }
/-- com/example/lumenwatt/lumenwatt/simulation/ReplicationResult -/
def k4 : Class := { plain "com/example/lumenwatt/lumenwatt/simulation/ReplicationResult" (some 2) with
  accessFlags := 49
  interfaces := #[]
  cf := some (fileOf pool4 8 #[] #[{ accessFlags := 1, nameIndex := 5, descriptorIndex := 54, attributes := #[] }, { accessFlags := 1, nameIndex := 60, descriptorIndex := 38, attributes := #[] }] 49 2 #[] #[{ accessFlags := 18, nameIndex := 11, descriptorIndex := 12, attributes := #[] }, { accessFlags := 18, nameIndex := 15, descriptorIndex := 12, attributes := #[] }, { accessFlags := 18, nameIndex := 18, descriptorIndex := 12, attributes := #[] }, { accessFlags := 18, nameIndex := 21, descriptorIndex := 22, attributes := #[] }, { accessFlags := 18, nameIndex := 25, descriptorIndex := 22, attributes := #[] }, { accessFlags := 18, nameIndex := 28, descriptorIndex := 22, attributes := #[] }, { accessFlags := 18, nameIndex := 31, descriptorIndex := 32, attributes := #[] }])
  fields := #[{ name := "requests", type := .long, accessFlags := 18, slot := 0, constantValue := 0 }, { name := "blocked", type := .long, accessFlags := 18, slot := 1, constantValue := 0 }, { name := "carriedHops", type := .long, accessFlags := 18, slot := 2, constantValue := 0 }, { name := "activeHours", type := .double, accessFlags := 18, slot := 3, constantValue := 0 }, { name := "routeWattHours", type := .double, accessFlags := 18, slot := 4, constantValue := 0 }, { name := "hours", type := .double, accessFlags := 18, slot := 5, constantValue := 0 }, { name := "energy", type := (.object "com/example/lumenwatt/lumenwatt/energy/EnergyUse"), accessFlags := 18, slot := 6, constantValue := 0 }]
  methods := #[k4m0, k4m1]
  instanceTypes := #[.long, .long, .long, .double, .double, .double, (.object "com/example/lumenwatt/lumenwatt/energy/EnergyUse")]
  staticTypes := #[]
  resolved := Array.replicate 96 none
  statics := none }

def pool5 : Array CpInfo := pool [(1, u "java/lang/Cloneable"), (0, .class_ 1), (0, u "java/lang/Object"), (0, .class_ 3)] 3

/-- java/lang/Cloneable -/
def k5 : Class := { plain "java/lang/Cloneable" (some 0) with
  accessFlags := 1537
  interfaces := #[]
  cf := some (fileOf pool5 2 #[] #[] 1537 4 #[] #[])
  fields := #[]
  methods := #[]
  instanceTypes := #[]
  staticTypes := #[]
  resolved := Array.replicate 8 none
  statics := none }

def pool6 : Array CpInfo := pool [(1, u "java/io/Serializable"), (0, .class_ 1), (0, u "java/lang/Object"), (0, .class_ 3)] 3

/-- java/io/Serializable -/
def k6 : Class := { plain "java/io/Serializable" (some 0) with
  accessFlags := 1537
  interfaces := #[]
  cf := some (fileOf pool6 2 #[] #[] 1537 4 #[] #[])
  fields := #[]
  methods := #[]
  instanceTypes := #[]
  staticTypes := #[]
  resolved := Array.replicate 8 none
  statics := none }

/-- the primitive byte -/
def k7 : Class := { plain "byte" none with kind := .primitive 'B', accessFlags := 0x411 }
/-- [B -/
def k8 : Class := { plain "[B" (some 0) with kind := .array 7 .byte, interfaces := #[5, 6], accessFlags := 1041 }

/-- the primitive int -/
def k9 : Class := { plain "int" none with kind := .primitive 'I', accessFlags := 0x411 }
/-- [I -/
def k10 : Class := { plain "[I" (some 0) with kind := .array 9 .int, interfaces := #[5, 6], accessFlags := 1041 }

def heap : Heap := #[]
def classes : Array Class := #[k0, k1, k2, k3, k4, k5, k6, k7, k8, k9, k10]
def interned : List (Array UInt16 × Addr) := []
def slotsUsed : Nat := 0
def theMethod : MethodId := ⟨1, 1⟩
def args0 : Array Value := #[.long 5, .int 7, .int 9, .int 11, .long 12]
def aboutOver (below : List Frame) : State where
  vm := { classes := classes, interned := interned.toArray }
  heap := heap
  slotsUsed := slotsUsed
  threads := #[{ frames := .invoking theMethod args0 :: below }]
def below0 : List Frame := [.native { method := ⟨0, 0⟩, args := #[] }]
def about1 : State := aboutOver below0
def p0 : Program := .bare "" "" ""
def e0 : Env := launch0.env 0 0 0
theorem w_frames : about1.frames = Frame.invoking theMethod args0 :: below0 := rfl
set_option maxRecDepth 65536 in
theorem w_args : argsFit about1.vm theMethod args0 = true := by decide +kernel
set_option maxRecDepth 65536 in
theorem w_heap : heapFits about1 = true := by decide +kernel
set_option maxRecDepth 65536 in
theorem w_runnable : about1.curStatus? = some .runnable := by decide +kernel
set_option maxRecDepth 65536 in
theorem w_alone : about1.alone = true := by decide +kernel
set_option maxRecDepth 65536 in
theorem w_named : about1.methodNamed? x = some theMethod := by decide +kernel
set_option maxRecDepth 65536 in
theorem w_hears : about1.hears theMethod below0 = true := by decide +kernel
set_option maxRecDepth 65536 in
theorem w_ripe : about1.ripe theMethod args0 below0 = true := by decide +kernel
theorem w_running : about1.status = .running := rfl
set_option maxRecDepth 65536 in
theorem w_room : about1.hasRoom e0.platform room_1 = true :=
  launch0.hasRoom_least _ room_1 (by decide +kernel) (by decide +kernel) (by decide +kernel) (by decide +kernel) (by decide +kernel) (by decide +kernel)
theorem allAtoms_all (ts : List Jvm.Cond) (a : Array Jvm.Value) (st : Jvm.State) : (allAtoms ts).before a st = ts.all (fun c => c.before a st) := by
  induction ts with
  | nil => rfl
  | cons c t ih =>
    show (Jvm.Cond.and c (allAtoms t)).before a st = _
    rw [Jvm.Cond.before_and, ih, List.all_cons]
def words1 : List Jvm.Cond := Jvm.Cond.code x code maxLocals ret :: tables_1
/-- a 'code' word, met by the world's own term for the bytes: nothing is compared byte by byte -/
theorem code_word {y : MethodName} {bytes : ByteArray} {mx : Nat} {rt : Option FieldType} {a : Array Value} {s : State} {m : MethodId} {meth : Method} {c : Code} (h1 : s.methodNamed? y = some m) (h2 : s.vm.method? m = some meth) (h3 : meth.code = some c) (h4 : c.code = bytes)
    (h5 : (c.maxLocals == mx && c.exceptionTable.isEmpty && decide (c.maxStack ≤ mostOperands) && decide (meth.sig.returnType = rt) && !meth.locks && decide (parseMethodDescriptor y.desc = some meth.sig)) = true) : (Jvm.Cond.code y bytes mx rt).before a s = true := by
  simp only [Bool.and_eq_true, beq_iff_eq, Bool.not_eq_true', decide_eq_true_eq] at h5
  obtain ⟨⟨⟨⟨⟨g1, g2⟩, g3⟩, g4⟩, g5⟩, g6⟩ := h5
  simp [Cond.before, Cond.holds, Cond.value, h1, h2, h3, h4, g1, g2, g3, g4, g5, g6]
def isCode : Jvm.Cond → Bool
  | .code _ _ _ _ => true
  | _ => false
theorem all_split {L : List Jvm.Cond} {P : Jvm.Cond → Bool} (h1 : L.all (fun c => isCode c || P c) = true) (h2 : ∀ c ∈ L.filter isCode, P c = true) : L.all P = true := by
  refine List.all_eq_true.mpr fun c hc => ?_
  have h := List.all_eq_true.mp h1 c hc
  rcases Bool.eq_false_or_eq_true (isCode c) with hi | hi
  · exact h2 c (List.mem_filter.mpr ⟨hc, hi⟩)
  · simpa [hi] using h
set_option maxRecDepth 65536 in
theorem w_c0 : (Jvm.Cond.code x code maxLocals ret).before args0 about1 = true := code_word (m := ⟨1, 1⟩) (meth := k1m1) (c := k1c1) (by decide +kernel) rfl rfl rfl (by decide +kernel)
set_option maxRecDepth 65536 in
theorem w_c1 : (Jvm.Cond.code ({ cls := "com/example/lumenwatt/lumenwatt/energy/EnergyUse", name := "<init>", desc := "(DDDDDD)V" } : Jvm.MethodName) prog_12_method_1_code (13 : Nat) (Option.none : Option Jvm.ClassFile.FieldType)).before args0 about1 = true := code_word (m := ⟨3, 0⟩) (meth := k3m0) (c := k3c0) (by decide +kernel) rfl rfl rfl (by decide +kernel)
set_option maxRecDepth 65536 in
theorem w_c2 : (Jvm.Cond.code ({ cls := "java/lang/Record", name := "<init>", desc := "()V" } : Jvm.MethodName) jdk_30_method_1_code (1 : Nat) (Option.none : Option Jvm.ClassFile.FieldType)).before args0 about1 = true := code_word (m := ⟨2, 0⟩) (meth := k2m0) (c := k2c0) (by decide +kernel) rfl rfl rfl (by decide +kernel)
set_option maxRecDepth 65536 in
theorem w_c3 : (Jvm.Cond.code ({ cls := "java/lang/Object", name := "<init>", desc := "()V" } : Jvm.MethodName) object_method_1_code (1 : Nat) (Option.none : Option Jvm.ClassFile.FieldType)).before args0 about1 = true := code_word (m := ⟨0, 0⟩) (meth := k0m0) (c := k0c0) (by decide +kernel) rfl rfl rfl (by decide +kernel)
set_option maxRecDepth 65536 in
theorem w_c4 : (Jvm.Cond.code ({ cls := "com/example/lumenwatt/lumenwatt/simulation/ReplicationResult", name := "<init>", desc := "(JJJDDDLcom/example/lumenwatt/lumenwatt/energy/EnergyUse;)V" } : Jvm.MethodName) prog_55_method_1_code (14 : Nat) (Option.none : Option Jvm.ClassFile.FieldType)).before args0 about1 = true := code_word (m := ⟨4, 0⟩) (meth := k4m0) (c := k4c0) (by decide +kernel) rfl rfl rfl (by decide +kernel)
set_option maxRecDepth 65536 in
theorem w_c5 : (Jvm.Cond.code ({ cls := "com/example/lumenwatt/lumenwatt/simulation/ReplicationResult", name := "meanHops", desc := "()D" } : Jvm.MethodName) prog_55_method_3_code (3 : Nat) (Option.some Jvm.ClassFile.FieldType.double)).before args0 about1 = true := code_word (m := ⟨4, 1⟩) (meth := k4m1) (c := k4c1) (by decide +kernel) rfl rfl rfl (by decide +kernel)
def codes1 : List Jvm.Cond := [Jvm.Cond.code x code maxLocals ret, Jvm.Cond.code ({ cls := "com/example/lumenwatt/lumenwatt/energy/EnergyUse", name := "<init>", desc := "(DDDDDD)V" } : Jvm.MethodName) prog_12_method_1_code (13 : Nat) (Option.none : Option Jvm.ClassFile.FieldType), Jvm.Cond.code ({ cls := "java/lang/Record", name := "<init>", desc := "()V" } : Jvm.MethodName) jdk_30_method_1_code (1 : Nat) (Option.none : Option Jvm.ClassFile.FieldType), Jvm.Cond.code ({ cls := "java/lang/Object", name := "<init>", desc := "()V" } : Jvm.MethodName) object_method_1_code (1 : Nat) (Option.none : Option Jvm.ClassFile.FieldType), Jvm.Cond.code ({ cls := "com/example/lumenwatt/lumenwatt/simulation/ReplicationResult", name := "<init>", desc := "(JJJDDDLcom/example/lumenwatt/lumenwatt/energy/EnergyUse;)V" } : Jvm.MethodName) prog_55_method_1_code (14 : Nat) (Option.none : Option Jvm.ClassFile.FieldType), Jvm.Cond.code ({ cls := "com/example/lumenwatt/lumenwatt/simulation/ReplicationResult", name := "meanHops", desc := "()D" } : Jvm.MethodName) prog_55_method_3_code (3 : Nat) (Option.some Jvm.ClassFile.FieldType.double)]
set_option maxRecDepth 65536 in
theorem codes_eq : words1.filter isCode = codes1 := rfl
theorem w_codes : ∀ c ∈ words1.filter isCode, c.before args0 about1 = true := by
  rw [codes_eq]
  intro c hc
  simp only [codes1, List.mem_cons, List.not_mem_nil, or_false] at hc
  rcases hc with rfl | rfl | rfl | rfl | rfl | rfl
  · exact w_c0
  · exact w_c1
  · exact w_c2
  · exact w_c3
  · exact w_c4
  · exact w_c5
set_option maxRecDepth 65536 in
theorem w_t1 : (words1.take 24).all (fun c => isCode c || c.before args0 about1) = true := by decide +kernel
set_option maxRecDepth 65536 in
theorem w_t2 : ((words1.drop 24).take 24).all (fun c => isCode c || c.before args0 about1) = true := by decide +kernel
set_option maxRecDepth 65536 in
theorem w_t3 : ((words1.drop 24).drop 24).all (fun c => isCode c || c.before args0 about1) = true := by decide +kernel
theorem w_tables : (allAtoms (Jvm.Cond.code x code maxLocals ret :: tables_1)).before args0 about1 = true := by
  rw [allAtoms_all]
  show words1.all (fun c => c.before args0 about1) = true
  refine all_split ?_ w_codes
  rw [← List.take_append_drop 24 words1, List.all_append, w_t1, ← List.take_append_drop 24 (words1.drop 24), List.all_append, w_t2, w_t3]
  rfl
set_option maxRecDepth 65536 in
theorem w_case : (Jvm.Cond.and given_1 narrow_1).before args0 about1 = true := by decide +kernel
theorem w_applies : (headSpec (Jvm.Cond.code x code maxLocals ret :: tables_1) room_1).applies x e0.platform about1 = true :=
  (Spec.applies_iff w_frames).mpr ⟨w_running, w_runnable, w_alone, w_named, w_hears, w_ripe, w_room, w_tables⟩
theorem atStart : AtStart classFile x code maxLocals ret World_1 tables_1 room_1 Calls_1 rest_1 Pre_1 launch0 p0 e0 about1 theMethod args0 below0 :=
  ⟨lists_1, trivial, launch0.admits_env _ _ _, launch0.least_env, fairChoices_fair.cas, fairChoices_fair.clock, w_frames, w_args, w_heap, w_applies, trivial, trivial, w_case⟩
end start1
theorem witness_1 : WitnessClaimed_1 := ⟨start1.p0, start1.e0, start1.about1, start1.theMethod, start1.args0, start1.below0, start1.atStart⟩
end Jvm.Pilot.@@N@@
