import JvmDerived
import JvmDerived.Pilot.@@N@@Statement
import JvmDerived.Pilot.@@N@@Code
set_option linter.unusedVariables false
set_option linter.unusedSimpArgs false
@@BLOCK:NumsL.lean.txt@@
namespace Jvm.RoadKit
open Sem ClassFile Op Lib Jvm.Stand Jvm.Free Jvm.LawKit
section Go
variable {p : Program} {l : Launch} {e : Env} {R : Room} {s : State} {m : MethodId} {args : Array Value} {below : List Frame} {meth : Method} {c : Code} {T : State} {locs : List Loc} {cells slots : Nat} {Z : State} {a0 : Array Value} {h : Heap}
/-- the run from U comes to its return, and leaves what Qv says -/
def Go (p : Program) (e : Env) (below : List Frame) (s : State) (R : Room) (Qv : Option Value → Heap → List Loc → Prop) (U : State) : Prop :=
  ∃ s₂ o, Steps p.tables e below U s₂ ∧ s₂.status = .running ∧ Ended s₂ below o ∧ ∃ v L, o = .returned v ∧ Qv v s₂.heap L ∧ FrameEnd s o s₂ L R.cells R.slots
variable {Qv : Option Value → Heap → List Loc → Prop} {U V : State}
theorem Go.st (h : ∀ t, Steps p.tables e below U t → Steps p.tables e below V t) (k : Go p e below s R Qv U) : Go p e below s R Qv V := by
  obtain ⟨t, o, h1, r⟩ := k
  exact ⟨t, o, h t h1, r⟩
theorem Go.ret (X : Stand p l e R s m args below meth c T locs cells slots) (hlk : meth.locks = false) {v : Option Value} (hv : meth.sig.returnType = none → v = none) (hc : cells ≤ R.cells) (hs : slots ≤ R.slots) (hq : Qv v T.heap locs)
    (st : ∀ fs, (∀ (f : JFrame) (acts : List Action), f.method = m → f.locked = none → f.entered = [] → (doReturn e (T.setTop f) acts v).1 = T.setFrames fs) → Steps p.tables e below V (T.setFrames fs)) : Go p e below s R Qv V := by
  obtain ⟨fs, hr, hrun, hended, hW, hsame⟩ := X.leave (v := v) hv hlk
  exact ⟨_, _, st fs hr, hrun, hended, _, _, rfl, hq, ⟨_, rfl⟩, hW, hsame.mono hc hs⟩
theorem Go.retD (X : Stand p l e R s m args below meth c T locs cells slots) (hx : p.tables.exec = Jvm.exec) (hlk : meth.locks = false) (hret : meth.sig.returnType = some .double) {pc : Nat} {Ls : Array Slot} {z : UInt64} {rest : List Value} (hd : decode c.code pc = .ok (.dreturn, 1)) (hc : cells ≤ R.cells) (hs : slots ≤ R.slots)
    (hq : Qv (some (.double z)) T.heap locs) : Go p e below s R Qv (T.setTop (mkF m pc Ls (.double z :: rest))) :=
  Go.ret X hlk (v := some (.double z)) (fun q => by rw [hret] at q; cases q) hc hs hq fun fs hr => retOut X hx hret rfl (Or.inr (Or.inr (Or.inl ⟨rfl, rfl, _, rfl⟩))) hd hr
theorem Go.retJ (X : Stand p l e R s m args below meth c T locs cells slots) (hx : p.tables.exec = Jvm.exec) (hlk : meth.locks = false) (hret : meth.sig.returnType = some .long) {pc : Nat} {Ls : Array Slot} {z : Int64} {rest : List Value} (hd : decode c.code pc = .ok (.lreturn, 1)) (hc : cells ≤ R.cells) (hs : slots ≤ R.slots)
    (hq : Qv (some (.long z)) T.heap locs) : Go p e below s R Qv (T.setTop (mkF m pc Ls (.long z :: rest))) :=
  Go.ret X hlk (v := some (.long z)) (fun q => by rw [hret] at q; cases q) hc hs hq fun fs hr => retOut X hx hret rfl (Or.inr (Or.inl ⟨rfl, rfl, _, rfl⟩)) hd hr
theorem Go.retI (X : Stand p l e R s m args below meth c T locs cells slots) (hx : p.tables.exec = Jvm.exec) (hlk : meth.locks = false) (hret : meth.sig.returnType = some .int) {pc : Nat} {Ls : Array Slot} {z : Int32} {rest : List Value} (hd : decode c.code pc = .ok (.ireturn, 1)) (hc : cells ≤ R.cells) (hs : slots ≤ R.slots)
    (hq : Qv (some (.int z)) T.heap locs) : Go p e below s R Qv (T.setTop (mkF m pc Ls (.int z :: rest))) :=
  Go.ret X hlk (v := some (.int z)) (fun q => by rw [hret] at q; cases q) hc hs hq fun fs hr => retOut X hx hret rfl (Or.inl ⟨rfl, Or.inl rfl, _, rfl⟩) hd hr
theorem Go.retZ (X : Stand p l e R s m args below meth c T locs cells slots) (hx : p.tables.exec = Jvm.exec) (hlk : meth.locks = false) (hret : meth.sig.returnType = some .boolean) {pc : Nat} {Ls : Array Slot} {z : Int32} {rest : List Value} (hd : decode c.code pc = .ok (.ireturn, 1)) (hc : cells ≤ R.cells) (hs : slots ≤ R.slots)
    (hq : Qv (some (.int (nar .boolean z))) T.heap locs) : Go p e below s R Qv (T.setTop (mkF m pc Ls (.int z :: rest))) :=
  Go.ret X hlk (v := some (.int (nar .boolean z))) (fun q => by rw [hret] at q; cases q) hc hs hq fun fs hr => retN X hx hret (Or.inl rfl) hd hr
theorem Go.retV (X : Stand p l e R s m args below meth c T locs cells slots) (hx : p.tables.exec = Jvm.exec) (hlk : meth.locks = false) (hret : meth.sig.returnType = none) {pc : Nat} {Ls : Array Slot} {st : List Value} (hd : decode c.code pc = .ok (.return_, 1)) (hc : cells ≤ R.cells) (hs : slots ≤ R.slots)
    (hq : Qv none T.heap locs) : Go p e below s R Qv (T.setTop (mkF m pc Ls [])) :=
  Go.ret X hlk (v := none) (fun _ => rfl) hc hs hq fun fs hr => X.returnOut hx hret hd hr
theorem Go.callS (X : Stand p l e R s m args below meth c T locs cells slots) (hx : p.tables.exec = Jvm.exec) (hZ : Z.Warmed39 s.vm) {own : String} {index : Nat} {y : MethodName} {bytes : ByteArray} {maxL : Nat} {ret : Option FieldType} (hown : s.vm.findClass own = some m.cls)
    (w1 : (Cond.methodLink own index y).before a0 Z = true) (w2 : (Cond.static y).before a0 Z = true) (w3 : (Cond.initialized y.cls).before a0 Z = true) (w4 : (Cond.code y bytes maxL ret).before a0 Z = true) (hy : y.cls ≠ "java/lang/invoke/MethodHandle" ∧ y.cls ≠ "java/lang/invoke/VarHandle")
    {rm : Room} {as' : Array Value} {Q : Option Value → Heap → List Loc → Prop}
    (hM : MetFree l y (head1 [Cond.code y bytes maxL ret] rm) (fun a U => a = as' ∧ Z.Warmed39 U.vm ∧ U.heap = h) (fun _ _ _ _ _ => True) (fun _ U o U' => ∃ v L, o = .returned v ∧ Q v U'.heap L ∧ FrameEnd U o U' L rm.cells rm.slots))
    (eT : T.heap = h) (W : Nat) (hf : rm.frames + 1 ≤ R.frames) (hl : W + (maxL + 11) + rm.locals ≤ R.locals) {g : JFrame} (hg : g.method = m) (hsize : g.locals.size = c.maxLocals) (argsL rest : List Value) (ha : as' = argsL.toArray)
    (hlen : ∀ sig, parseMethodDescriptor y.desc = some sig → argsL.length = sig.parameters.length) (hst : g.stack = argsL.reverse ++ rest) (hW : 2 * g.monitorRoom + (rest.map fun v => v.category).sum ≤ W) (hd : decode c.code g.pc = .ok (.invokestatic index, 3)) (hc : cells + rm.cells ≤ R.cells) (hs : slots + rm.slots ≤ R.slots)
    (k : ∀ v T' L, Q v T'.heap L → Stand p l e R s m args below meth c T' (locs ++ L) (cells + rm.cells) (slots + rm.slots) → Go p e below s R Qv (T'.setTop { g with pc := g.pc + 3, stack := v.toList ++ rest })) : Go p e below s R Qv (T.setTop g) := by
  subst ha
  obtain ⟨v, vm1, ⟨T', L', c', n'⟩, -, X', ⟨L, hQ, l1, y1, z1⟩, st⟩ := Jvm.LawKit.callS X hx hown (mvT hZ w1) (mvT hZ w2) (mvT hZ w3) (mvT hZ w4) hy (backOf (W := W) hM hZ w4 w3 hf hl) hg hsize (argsL := argsL) (rest := rest) hlen hst hW hd (fun _ _ => ⟨rfl, eT, hc, hs⟩)
  dsimp only [Pt.U, Pt.locs, Pt.cells, Pt.slots] at X' l1 y1 z1 st hQ
  subst l1 y1 z1
  exact Go.st st (k v T' L hQ X')
theorem Go.callI (X : Stand p l e R s m args below meth c T locs cells slots) (hx : p.tables.exec = Jvm.exec) (hZ : Z.Warmed39 s.vm) {own : String} {index : Nat} {y : MethodName} {bytes : ByteArray} {maxL : Nat} (hown : s.vm.findClass own = some m.cls) (hy1 : y.name = "<init>")
    (w1 : (Cond.methodLink own index y).before a0 Z = true) (w2 : (Cond.instanceMethod y).before a0 Z = true) (w3 : (Cond.initialized y.cls).before a0 Z = true) (w4 : (Cond.code y bytes maxL none).before a0 Z = true) (hy : y.cls ≠ "java/lang/invoke/MethodHandle" ∧ y.cls ≠ "java/lang/invoke/VarHandle")
    {rm : Room} {as' : Array Value} {Q : Option Value → Heap → List Loc → Prop}
    (hM : MetFree l y (head1 [Cond.code y bytes maxL none] rm) (fun a U => a = as' ∧ Z.Warmed39 U.vm ∧ U.heap = h) (fun _ _ _ _ _ => True) (fun _ U o U' => ∃ v L, o = .returned v ∧ Q v U'.heap L ∧ FrameEnd U o U' L rm.cells rm.slots))
    (eT : T.heap = h) (W : Nat) (hf : rm.frames + 1 ≤ R.frames) (hl : W + (maxL + 11) + rm.locals ≤ R.locals) {g : JFrame} (hg : g.method = m) (hsize : g.locals.size = c.maxLocals) (a : Addr) (argsL rest : List Value) (ha : as' = (.ref a :: argsL).toArray)
    (hlen : ∀ sig, parseMethodDescriptor y.desc = some sig → argsL.length = sig.parameters.length) (hst : g.stack = argsL.reverse ++ .ref a :: rest) (hW : 2 * g.monitorRoom + (rest.map fun v => v.category).sum ≤ W) (hd : decode c.code g.pc = .ok (.invokespecial index, 3)) (hc : cells + rm.cells ≤ R.cells) (hs : slots + rm.slots ≤ R.slots)
    (k : ∀ v T' L, Q v T'.heap L → Stand p l e R s m args below meth c T' (locs ++ L) (cells + rm.cells) (slots + rm.slots) → Go p e below s R Qv (T'.setTop { g with pc := g.pc + 3, stack := v.toList ++ rest })) : Go p e below s R Qv (T.setTop g) := by
  subst ha
  obtain ⟨v, vm1, ⟨T', L', c', n'⟩, -, X', ⟨L, hQ, l1, y1, z1⟩, st⟩ := X.specialBack hx hy1 hown (mvT hZ w1) (mvT hZ w2) (mvT hZ w4) hy (backOf (W := W) hM hZ w4 w3 hf hl) hg hsize (Steps.refl _) (a := a) (argsL := argsL) (rest := rest) hlen hst hW hd (fun _ _ => ⟨rfl, eT, hc, hs⟩)
  dsimp only [Pt.U, Pt.locs, Pt.cells, Pt.slots] at X' l1 y1 z1 st hQ
  subst l1 y1 z1
  exact Go.st (fun t k => st.trans k) (k v T' L hQ X')
theorem Go.callV (X : Stand p l e R s m args below meth c T locs cells slots) (hx : p.tables.exec = Jvm.exec) (hZ : Z.Warmed39 s.vm) {own C : String} {index : Nat} {y : MethodName} {bytes : ByteArray} {maxL : Nat} {ret : Option FieldType} (hown : s.vm.findClass own = some m.cls)
    (w1 : (Cond.methodLink own index y).before a0 Z = true) (w2 : (Cond.declares y).before a0 Z = true) (w5 : (Cond.selects C y y).before a0 Z = true) (w6 : (Cond.instanceMethod y).before a0 Z = true) (w3 : (Cond.initialized y.cls).before a0 Z = true) (w4 : (Cond.code y bytes maxL ret).before a0 Z = true) (hy : y.cls ≠ "java/lang/invoke/MethodHandle" ∧ y.cls ≠ "java/lang/invoke/VarHandle")
    {rm : Room} {as' : Array Value} {Q : Option Value → Heap → List Loc → Prop}
    (hM : MetFree l y (head1 [Cond.code y bytes maxL ret] rm) (fun a U => a = as' ∧ Z.Warmed39 U.vm ∧ U.heap = h) (fun _ _ _ _ _ => True) (fun _ U o U' => ∃ v L, o = .returned v ∧ Q v U'.heap L ∧ FrameEnd U o U' L rm.cells rm.slots))
    (eT : T.heap = h) (a : Addr) (E : Exa Z h a C) (W : Nat) (hf : rm.frames + 1 ≤ R.frames) (hl : W + (maxL + 11) + rm.locals ≤ R.locals) {g : JFrame} (hg : g.method = m) (hsize : g.locals.size = c.maxLocals) (argsL rest : List Value) (ha : as' = (.ref a :: argsL).toArray)
    (hlen : ∀ sig, parseMethodDescriptor y.desc = some sig → argsL.length = sig.parameters.length) (hst : g.stack = argsL.reverse ++ .ref a :: rest) (hW : 2 * g.monitorRoom + (rest.map fun v => v.category).sum ≤ W) (hd : decode c.code g.pc = .ok (.invokevirtual index, 3)) (hc : cells + rm.cells ≤ R.cells) (hs : slots + rm.slots ≤ R.slots)
    (k : ∀ v T' L, Q v T'.heap L → Stand p l e R s m args below meth c T' (locs ++ L) (cells + rm.cells) (slots + rm.slots) → Go p e below s R Qv (T'.setTop { g with pc := g.pc + 3, stack := v.toList ++ rest })) : Go p e below s R Qv (T.setTop g) := by
  subst ha
  obtain ⟨cB, kB, q1, q2, q3⟩ := isOf hZ eT E
  obtain ⟨v, vm1, ⟨T', L', c', n'⟩, -, X', ⟨L, hQ, l1, y1, z1⟩, st⟩ := X.virtualBack hx hown (mvT hZ w1) (mvT hZ w2) (notFace_of_selects (args := #[]) (mvT hZ w5)) (mvT hZ w5) (mvT hZ w6) hy (backOf (W := W) hM hZ w4 w3 hf hl) q1 q3 hg hsize (Steps.refl _) (argsL := argsL) (rest := rest) hlen hst hW hd (fun _ _ => ⟨rfl, eT, hc, hs⟩)
  dsimp only [Pt.U, Pt.locs, Pt.cells, Pt.slots] at X' l1 y1 z1 st hQ
  subst l1 y1 z1
  exact Go.st (fun t k => st.trans k) (k v T' L hQ X')
/-- a body's contract, by its walk -/
theorem Go.met {y : MethodName} {bytes : ByteArray} {maxL : Nat} {ret : Option FieldType} {ws : List Cond} {rm : Room} {as' : Array Value} {Q : Option Value → Heap → List Loc → Prop} (hn : plainFor y = true)
    (body : ∀ (p : Program) (e : Env) (s : State) (m : MethodId) (below : List Frame) (meth : Method) (c : Code) (s₁ : State), p.tables.exec = Jvm.exec → c.code = bytes → c.maxLocals = maxL → s.vm.findClass y.cls = some m.cls → meth.name = y.name → meth.sig.returnType = ret → meth.locks = false → Z.Warmed39 s.vm → s₁.heap = h →
      Stand p l e rm s m as' below meth c s₁ [] 0 0 → Go p e below s rm Q (s₁.setTop (entryFrame m as' maxL))) :
    MetFree l y (head1 (Cond.code y bytes maxL ret :: ws) rm) (fun a U => a = as' ∧ Z.Warmed39 U.vm ∧ U.heap = h) (fun _ _ _ _ _ => True) (fun _ U o U' => ∃ v L, o = .returned v ∧ Q v U'.heap L ∧ FrameEnd U o U' L rm.cells rm.slots) := by
  refine MetFree.of_bodySF hn hisR ?_
  intro p e s m args below meth c s₁ Bd hml hP hK
  obtain ⟨rfl, hZ, hh⟩ := hP
  exact body p e s m below meth c s₁ Bd.exec Bd.bytes hml (findClass_of_methodNamed Bd.named) (name_of_methodNamed Bd.named Bd.method).1 Bd.returns Bd.notSynchronized hZ (by rw [← hh, Bd.state]; rfl) (Stand.of_body Bd)
theorem Keep.size_le {h0 h : Heap} {ws : List Addr} (K : Keep h0 h ws) : h0.size ≤ h.size := K.1
theorem Go.cast {g g' : JFrame} (q : g = g') (k : Go p e below s R Qv (T.setTop g')) : Go p e below s R Qv (T.setTop g) := q ▸ k
end Go
end Jvm.RoadKit
namespace Jvm.OwnFl
open Jvm Jvm.FP Jvm.FP.Core Jvm.Free.Fl Op
/-- a double as a whole number of the least doubles -/
abbrev zv (a : UInt64) : Int := zval b64 (val64 a)
theorem zv_def (a : UInt64) : zv a = zval b64 (val64 a) := rfl
theorem nn_int {i : Int} {a : UInt64} (h : DInt i a) : NoNaN64 a := val64_no.mpr (DInt_ne_nan h)
theorem nn_fin {a : UInt64} (h : DFin a) : NoNaN64 a := val64_no.mpr h.ne_nan
theorem fin_int {i : Int} {a : UInt64} (h : DInt i a) : DFin a := by
  unfold DInt at h
  cases hv : val64 a with
  | nan => rw [hv] at h; exact h.elim
  | inf s => rw [hv] at h; exact h.elim
  | fin s c q => exact ⟨s, c, q, hv⟩
/-! what a comparison pushes -/
theorem cv_lt {a b : UInt64} (ha : NoNaN64 a) (hb : NoNaN64 b) (h : zv a < zv b) (o : ClassFile.CmpOp) : cmpValue (FP.dcmp a b) o = -1 := by
  rw [show FP.dcmp a b = some .lt by
    show Core.dcmp a b = _
    rw [dcmp_zval (val64_no.mp ha) (val64_no.mp hb)]; exact congrArg some ((compare_lt_iff _ _).mpr h)]
  cases o <;> rfl
theorem cv_eq {a b : UInt64} (ha : NoNaN64 a) (hb : NoNaN64 b) (h : zv a = zv b) (o : ClassFile.CmpOp) : cmpValue (FP.dcmp a b) o = 0 := by
  rw [show FP.dcmp a b = some .eq by
    show Core.dcmp a b = _
    rw [dcmp_zval (val64_no.mp ha) (val64_no.mp hb)]; exact congrArg some ((compare_eq_iff _ _).mpr h)]
  cases o <;> rfl
theorem cv_gt {a b : UInt64} (ha : NoNaN64 a) (hb : NoNaN64 b) (h : zv b < zv a) (o : ClassFile.CmpOp) : cmpValue (FP.dcmp a b) o = 1 := by
  rw [show FP.dcmp a b = some .gt by
    show Core.dcmp a b = _
    rw [dcmp_zval (val64_no.mp ha) (val64_no.mp hb)]; exact congrArg some ((compare_gt_iff _ _).mpr h)]
  cases o <;> rfl
theorem cv_ge {a b : UInt64} (ha : NoNaN64 a) (hb : NoNaN64 b) (h : zv b ≤ zv a) (o : ClassFile.CmpOp) : ¬ (cmpValue (FP.dcmp a b) o < 0) := by
  rcases Int.lt_or_eq_of_le h with h | h
  · rw [cv_gt ha hb h o]; decide
  · rw [cv_eq ha hb h.symm o]; decide
theorem cv_le {a b : UInt64} (ha : NoNaN64 a) (hb : NoNaN64 b) (h : zv a ≤ zv b) (o : ClassFile.CmpOp) : ¬ (0 < cmpValue (FP.dcmp a b) o) := by
  rcases Int.lt_or_eq_of_le h with h | h
  · rw [cv_lt ha hb h o]; decide
  · rw [cv_eq ha hb h o]; decide
theorem cv_lt' {a b : UInt64} (ha : NoNaN64 a) (hb : NoNaN64 b) (h : zv a < zv b) (o : ClassFile.CmpOp) : cmpValue (FP.dcmp a b) o < 0 := by rw [cv_lt ha hb h o]; decide
theorem cv_gt' {a b : UInt64} (ha : NoNaN64 a) (hb : NoNaN64 b) (h : zv b < zv a) (o : ClassFile.CmpOp) : 0 < cmpValue (FP.dcmp a b) o := by rw [cv_gt ha hb h o]; decide
theorem cv_ne {a b : UInt64} (ha : NoNaN64 a) (hb : NoNaN64 b) (h : zv a ≠ zv b) (o : ClassFile.CmpOp) : ¬ (cmpValue (FP.dcmp a b) o = 0) := by
  rcases Int.lt_or_gt_of_ne h with h | h
  · rw [cv_lt ha hb h o]; decide
  · rw [cv_gt ha hb h o]; decide
/-! what lcmp pushes -/
theorem lc_eq {x y : Int64} : Jvm.RoadKit.lcmpW x y = 0 ↔ x.toInt = y.toInt := by
  rw [Int64.toInt_inj]
  unfold Jvm.RoadKit.lcmpW
  by_cases h : x > y
  · rw [if_pos h]; constructor
    · intro h1; exact absurd h1 (by decide)
    · rintro rfl; exact absurd h (Int64.lt_irrefl)
  · rw [if_neg h]
    by_cases h2 : x = y
    · rw [if_pos h2]; simp [h2]
    · rw [if_neg h2]; constructor
      · intro h1; exact absurd h1 (by decide)
      · intro h1; exact absurd h1 h2
theorem lc_gt {x y : Int64} : 0 < Jvm.RoadKit.lcmpW x y ↔ y.toInt < x.toInt := by
  rw [← Int64.lt_iff_toInt_lt]
  unfold Jvm.RoadKit.lcmpW
  by_cases h : x > y
  · rw [if_pos h]; exact ⟨fun _ => h, fun _ => by decide⟩
  · rw [if_neg h]
    by_cases h2 : x = y
    · rw [if_pos h2]; exact ⟨fun h1 => absurd h1 (by decide), fun h1 => absurd h1 h⟩
    · rw [if_neg h2]; exact ⟨fun h1 => absurd h1 (by decide), fun h1 => absurd h1 h⟩
theorem lc_lt {x y : Int64} : Jvm.RoadKit.lcmpW x y < 0 ↔ x.toInt < y.toInt := by
  by_cases h : x > y
  · have h3 := Int64.lt_iff_toInt_lt.mp h
    unfold Jvm.RoadKit.lcmpW
    rw [if_pos h]; exact ⟨fun h1 => absurd h1 (by decide), fun h1 => by omega⟩
  · have h3 : ¬ (y.toInt < x.toInt) := fun q => h (Int64.lt_iff_toInt_lt.mpr q)
    unfold Jvm.RoadKit.lcmpW
    rw [if_neg h]
    by_cases h2 : x = y
    · rw [if_pos h2]; subst h2; exact ⟨fun h1 => absurd h1 (by decide), fun h1 => by omega⟩
    · rw [if_neg h2]
      have h4 : x.toInt ≠ y.toInt := fun q => h2 (Int64.toInt_inj.mp q)
      exact ⟨fun _ => by omega, fun _ => by decide⟩
/-! whole numbers -/
theorem zv_int {i : Int} {a : UInt64} (h : DInt i a) : zv a = i * (one64 : Int) := DInt_zval h
theorem one_pos : (0 : Int) < (one64 : Int) := Int.ofNat_lt.mpr one64_pos
theorem cvi_eq {i j : Int} {a b : UInt64} (ha : DInt i a) (hb : DInt j b) (h : i = j) (o : ClassFile.CmpOp) : cmpValue (FP.dcmp a b) o = 0 :=
  cv_eq (nn_int ha) (nn_int hb) (by rw [zv_int ha, zv_int hb, h]) o
theorem cvi_lt {i j : Int} {a b : UInt64} (ha : DInt i a) (hb : DInt j b) (h : i < j) (o : ClassFile.CmpOp) : cmpValue (FP.dcmp a b) o = -1 :=
  cv_lt (nn_int ha) (nn_int hb) (by rw [zv_int ha, zv_int hb]; exact Int.mul_lt_mul_of_pos_right h one_pos) o
theorem cvi_gt {i j : Int} {a b : UInt64} (ha : DInt i a) (hb : DInt j b) (h : j < i) (o : ClassFile.CmpOp) : cmpValue (FP.dcmp a b) o = 1 :=
  cv_gt (nn_int ha) (nn_int hb) (by rw [zv_int ha, zv_int hb]; exact Int.mul_lt_mul_of_pos_right h one_pos) o
theorem zint : DInt 0 (0 : UInt64) := by unfold DInt; rw [val64_zero]; show signed false (0 * _) = 0 * _; simp [signed]
theorem l2dI {x : Int64} (h1 : -9007199254740992 ≤ x.toInt) (h2 : x.toInt ≤ 9007199254740992) : DInt x.toInt (FP.l2d x) := l2d_int (by omega)
theorem i2dI (x : Int32) : DInt x.toInt (FP.i2d x) := i2d_int x
theorem mulI {i j : Int} {a b : UInt64} (ha : DInt i a) (hb : DInt j b) (h : (i * j).natAbs ≤ 9007199254740992) : DInt (i * j) (FP.dmul a b) := dmul_int ha hb h
theorem addI {i j : Int} {a b : UInt64} (ha : DInt i a) (hb : DInt j b) (h : (i + j).natAbs ≤ 9007199254740992) : DInt (i + j) (FP.dadd a b) := dadd_int ha hb h
theorem subI {i j : Int} {a b : UInt64} (ha : DInt i a) (hb : DInt j b) (h : (i - j).natAbs ≤ 9007199254740992) : DInt (i - j) (FP.dsub a b) := dsub_int ha hb h
theorem absMul {i j : Int} {A B : Nat} (h1 : i.natAbs ≤ A) (h2 : j.natAbs ≤ B) : (i * j).natAbs ≤ A * B := by rw [Int.natAbs_mul]; exact Nat.mul_le_mul h1 h2
end Jvm.OwnFl
namespace Jvm.Pilot.@@N@@
open Jvm Jvm.ClassFile Sem Op Lib Jvm.Free Jvm.Stand Jvm.LawKit Jvm.RoadKit Bundle Jvm.Pilot.@@N@@.Jvm.D
open Jvm.OwnFl Jvm.FP.Core in
theorem own_sh {p : Int32} {v : Int64} (q : (p >>> ((11 : Int32) &&& 31)).toInt64 = v) : -1048576 ≤ v.toInt ∧ v.toInt ≤ 1048575 := by
  have h1 := Jvm.Kit.i32_shr p ((11 : Int32) &&& 31) (k := 11) (by decide)
  have h2 := p.le_toInt; have h3 := p.toInt_lt
  rw [← q, Jvm.Kit.i64_of_i32, h1]; omega
open Jvm.OwnFl Jvm.FP.Core in
theorem own_dot {a b c d e f v : Int64} (ha : -1048576 ≤ a.toInt ∧ a.toInt ≤ 1048575) (hb : -1048576 ≤ b.toInt ∧ b.toInt ≤ 1048575) (hc : -1048576 ≤ c.toInt ∧ c.toInt ≤ 1048575) (hd : -1048576 ≤ d.toInt ∧ d.toInt ≤ 1048575) (he : -1048576 ≤ e.toInt ∧ e.toInt ≤ 1048575) (hf : -1048576 ≤ f.toInt ∧ f.toInt ≤ 1048575)
    (q : a * d + b * e + c * f = v) :
    DInt (a.toInt * d.toInt) (FP.dmul (FP.l2d a) (FP.l2d d)) ∧ DInt (b.toInt * e.toInt) (FP.dmul (FP.l2d b) (FP.l2d e)) ∧ DInt (a.toInt * d.toInt + b.toInt * e.toInt) (FP.dadd (FP.dmul (FP.l2d a) (FP.l2d d)) (FP.dmul (FP.l2d b) (FP.l2d e))) ∧ DInt (c.toInt * f.toInt) (FP.dmul (FP.l2d c) (FP.l2d f)) ∧
    DInt (a.toInt * d.toInt + b.toInt * e.toInt + c.toInt * f.toInt) (FP.dadd (FP.dadd (FP.dmul (FP.l2d a) (FP.l2d d)) (FP.dmul (FP.l2d b) (FP.l2d e))) (FP.dmul (FP.l2d c) (FP.l2d f))) ∧ DInt (a.toInt * d.toInt + b.toInt * e.toInt + c.toInt * f.toInt) (FP.l2d v) := by
  have m1 := absMul (A := 1048576) (B := 1048576) (i := a.toInt) (j := d.toInt) (by omega) (by omega)
  have m2 := absMul (A := 1048576) (B := 1048576) (i := b.toInt) (j := e.toInt) (by omega) (by omega)
  have m3 := absMul (A := 1048576) (B := 1048576) (i := c.toInt) (j := f.toInt) (by omega) (by omega)
  have l1 := Jvm.Kit.i64_mul (x := a) (y := d) (by omega) (by omega)
  have l2 := Jvm.Kit.i64_mul (x := b) (y := e) (by omega) (by omega)
  have l3 := Jvm.Kit.i64_mul (x := c) (y := f) (by omega) (by omega)
  have l4 := Jvm.Kit.i64_add (x := a * d) (y := b * e) (by omega) (by omega)
  have l5 := Jvm.Kit.i64_add (x := a * d + b * e) (y := c * f) (by omega) (by omega)
  have k1 := mulI (l2dI (x := a) (by omega) (by omega)) (l2dI (x := d) (by omega) (by omega)) (by omega)
  have k2 := mulI (l2dI (x := b) (by omega) (by omega)) (l2dI (x := e) (by omega) (by omega)) (by omega)
  have k3 := mulI (l2dI (x := c) (by omega) (by omega)) (l2dI (x := f) (by omega) (by omega)) (by omega)
  have k4 := addI k1 k2 (by omega)
  have k5 := addI k4 k3 (by omega)
  refine ⟨k1, k2, k4, k3, k5, ?_⟩
  have hv : v.toInt = a.toInt * d.toInt + b.toInt * e.toInt + c.toInt * f.toInt := by rw [← q, l5, l4, l1, l2, l3]
  rw [← hv]; exact l2dI (by omega) (by omega)
theorem d1_0 : decode jdk_30_method_1_code 0 = .ok (.aload_n 0, 1) := by decide +kernel
theorem d1_1 : decode jdk_30_method_1_code 1 = .ok (.invokespecial 1, 3) := by decide +kernel
theorem d1_4 : decode jdk_30_method_1_code 4 = .ok (.return_, 1) := by decide +kernel
theorem pn0 : plainName "java/lang/Record" = true := by first | (simp [plainName, overriddenIn]; done) | decide +kernel
def Q_rec (Z : State) (a : Addr) (h0 : Heap) (n0 : Nat) (v : Option Value) (h : Heap) (L : List Loc) : Prop := v = none ∧ Fr n0 L ∧ h = h0
theorem ef_rec (m : MethodId) (y0 : Addr) : entryFrame m #[(.ref y0)] 1 = mkF m 0 #[.val (.ref y0)] [] := by first | (simp [entryFrame, mkF, argsToLocals, Value.category, maxLocals]; done) | rfl
set_option maxRecDepth 65536 in
set_option maxHeartbeats 40000000 in
theorem rm_rec (l : Launch) (Z : State) (a0 : Array Value) (hw : ∀ d ∈ tables_1, d.before a0 Z = true) (ws : List Jvm.Cond) (a : Addr) (h0 : Heap) (n0 : Nat) (Z0 : n0 ≤ h0.size)  :
    MetFree l (⟨"java/lang/Record", "<init>", "()V"⟩ : MethodName) (head1 (Jvm.Cond.code (⟨"java/lang/Record", "<init>", "()V"⟩ : MethodName) jdk_30_method_1_code 1 none :: ws) ({ frames := 1, cells := 0, slots := 0, locals := 12 } : Room)) (fun aa_ U => aa_ = #[(.ref a)] ∧ Z.Warmed39 U.vm ∧ U.heap = h0) (fun _ _ _ _ _ => True) (fun _ U o U' => ∃ v L, o = .returned v ∧ Q_rec Z a h0 n0 v U'.heap L ∧ FrameEnd U o U' L (({ frames := 1, cells := 0, slots := 0, locals := 12 } : Room)).cells (({ frames := 1, cells := 0, slots := 0, locals := 12 } : Room)).slots) := by
  refine Go.met (plainFor_of_name pn0) ?_
  intro p e s m below meth c s₁ hx hby hml hown hnm hret hlk hZ e0 X0
  have N0 := Fr.nil n0
  refine Go.cast (ef_rec m a) ?_
  refine Go.st (U := (s₁.setTop (mkF m 1 #[.val (.ref a)] [(.ref a)]))) (fun t_ k_ => XS.aloadN X0.here hx rfl (hb hby d1_0) rfl rfl k_) ?_
  obtain ⟨Ti1, Xi1, ei1, sti1⟩ := initO X0 hx hZ hown (hw _ (List.mem_of_getElem? (i := 11) rfl)) (hw _ (List.mem_of_getElem? (i := 12) rfl)) (hw _ (List.mem_of_getElem? (i := 13) rfl)) e0 (g := (mkF m 1 #[.val (.ref a)] [(.ref a)])) rfl (by rw [hml]; rfl) rfl (hb hby d1_1) (by decide) (W := 0) (by show 2 * 0 + _ ≤ _; exact Nat.le_of_eq rfl) (by decide)
  refine Go.st (U := (Ti1.setTop (mkF m 4 #[.val (.ref a)] []))) sti1 ?_
  refine Go.retV (st := []) Xi1 hx hlk hret (hb hby d1_4) (by decide) (by decide) ?_
  show Q_rec Z a h0 n0 _ Ti1.heap _
  rw [ei1]
  exact ⟨rfl, N0, rfl⟩
theorem d0_0 : decode prog_94_method_1_code 0 = .ok (.aload_n 0, 1) := by decide +kernel
theorem d0_1 : decode prog_94_method_1_code 1 = .ok (.invokespecial 1, 3) := by decide +kernel
theorem d0_4 : decode prog_94_method_1_code 4 = .ok (.aload_n 0, 1) := by decide +kernel
theorem d0_5 : decode prog_94_method_1_code 5 = .ok (.dload_n 1, 1) := by decide +kernel
theorem d0_6 : decode prog_94_method_1_code 6 = .ok (.putfield 7, 3) := by decide +kernel
theorem d0_9 : decode prog_94_method_1_code 9 = .ok (.aload_n 0, 1) := by decide +kernel
theorem d0_10 : decode prog_94_method_1_code 10 = .ok (.dload_n 3, 1) := by decide +kernel
theorem d0_11 : decode prog_94_method_1_code 11 = .ok (.putfield 13, 3) := by decide +kernel
theorem d0_14 : decode prog_94_method_1_code 14 = .ok (.aload_n 0, 1) := by decide +kernel
theorem d0_15 : decode prog_94_method_1_code 15 = .ok (.dload 5, 2) := by decide +kernel
theorem d0_17 : decode prog_94_method_1_code 17 = .ok (.putfield 16, 3) := by decide +kernel
theorem d0_20 : decode prog_94_method_1_code 20 = .ok (.return_, 1) := by decide +kernel
theorem pn1 : plainName "org/pulsewarp/geometry/Vector" = true := by first | (simp [plainName, overriddenIn]; done) | decide +kernel
def Q_vec (Z : State) (a : Addr) (x0 : UInt64) (x1 : UInt64) (x2 : UInt64) (o0 : Value) (o1 : Value) (o2 : Value) (h0 : Heap) (n0 : Nat) (v : Option Value) (h : Heap) (L : List Loc) : Prop := v = none ∧ Fr n0 L ∧ Keep h0 h [a] ∧ Exa Z h a "org/pulsewarp/geometry/Vector" ∧ Fld Z h a "org/pulsewarp/geometry/Vector" "x" "D" (.double x0) ∧ Fld Z h a "org/pulsewarp/geometry/Vector" "y" "D" (.double x1) ∧ Fld Z h a "org/pulsewarp/geometry/Vector" "z" "D" (.double x2)
theorem ef_vec (m : MethodId) (y0 : Addr) (y1 : UInt64) (y2 : UInt64) (y3 : UInt64) : entryFrame m #[(.ref y0), (.double y1), (.double y2), (.double y3)] 7 = mkF m 0 #[.val (.ref y0), .val (.double y1), .second, .val (.double y2), .second, .val (.double y3), .second] [] := by first | (simp [entryFrame, mkF, argsToLocals, Value.category, maxLocals]; done) | rfl
theorem pd0 : parseMethodDescriptor "()V" = some ⟨[], none⟩ := by decide +kernel
set_option maxRecDepth 65536 in
set_option maxHeartbeats 40000000 in
theorem rm_vec (l : Launch) (Z : State) (a0 : Array Value) (hw : ∀ d ∈ tables_1, d.before a0 Z = true) (ws : List Jvm.Cond) (a : Addr) (x0 : UInt64) (x1 : UInt64) (x2 : UInt64) (o0 : Value) (o1 : Value) (o2 : Value) (h0 : Heap) (n0 : Nat) (Z0 : n0 ≤ h0.size) (E0_a : Exa Z h0 a "org/pulsewarp/geometry/Vector") (ge_a : n0 ≤ a) (F0_a_x : Fld Z h0 a "org/pulsewarp/geometry/Vector" "x" "D" o0) (F0_a_y : Fld Z h0 a "org/pulsewarp/geometry/Vector" "y" "D" o1) (F0_a_z : Fld Z h0 a "org/pulsewarp/geometry/Vector" "z" "D" o2) :
    MetFree l (⟨"org/pulsewarp/geometry/Vector", "<init>", "(DDD)V"⟩ : MethodName) (head1 (Jvm.Cond.code (⟨"org/pulsewarp/geometry/Vector", "<init>", "(DDD)V"⟩ : MethodName) prog_94_method_1_code 7 none :: ws) ({ frames := 2, cells := 0, slots := 0, locals := 24 } : Room)) (fun aa_ U => aa_ = #[(.ref a), (.double x0), (.double x1), (.double x2)] ∧ Z.Warmed39 U.vm ∧ U.heap = h0) (fun _ _ _ _ _ => True) (fun _ U o U' => ∃ v L, o = .returned v ∧ Q_vec Z a x0 x1 x2 o0 o1 o2 h0 n0 v U'.heap L ∧ FrameEnd U o U' L (({ frames := 2, cells := 0, slots := 0, locals := 24 } : Room)).cells (({ frames := 2, cells := 0, slots := 0, locals := 24 } : Room)).slots) := by
  refine Go.met (plainFor_of_name pn1) ?_
  intro p e s m below meth c s₁ hx hby hml hown hnm hret hlk hZ e0 X0
  have N0 := Fr.nil n0
  refine Go.cast (ef_vec m a x0 x1 x2) ?_
  refine Go.st (U := (s₁.setTop (mkF m 1 #[.val (.ref a), .val (.double x0), .second, .val (.double x1), .second, .val (.double x2), .second] [(.ref a)]))) (fun t_ k_ => XS.aloadN X0.here hx rfl (hb hby d0_0) rfl rfl k_) ?_
  refine Go.callI X0 hx hZ hown rfl (hw _ (List.mem_of_getElem? (i := 6) rfl)) (hw _ (List.mem_of_getElem? (i := 7) rfl)) (hw _ (List.mem_of_getElem? (i := 9) rfl)) (hw _ (List.mem_of_getElem? (i := 10) rfl)) (by decide) (rm_rec l Z a0 hw [] a h0 n0 Z0 ) e0 0 (by decide) (by decide) (g := (mkF m 1 #[.val (.ref a), .val (.double x0), .second, .val (.double x1), .second, .val (.double x2), .second] [(.ref a)])) rfl (by rw [hml]; rfl) a [] [] rfl (lenOf pd0 rfl) rfl (by show 2 * 0 + _ ≤ _; exact Nat.le_of_eq rfl) (hb hby d0_1) (by decide) (by decide) ?_
  intro vi1 Ti1 Li1 hQi1 Xi1
  obtain ⟨rfl, Ni1, ei1⟩ := hQi1
  have Ni1 := Fr.app N0 Ni1
  show Go p e below s _ _ (Ti1.setTop (mkF m 4 #[.val (.ref a), .val (.double x0), .second, .val (.double x1), .second, .val (.double x2), .second] []))
  refine Go.st (U := (Ti1.setTop (mkF m 5 #[.val (.ref a), .val (.double x0), .second, .val (.double x1), .second, .val (.double x2), .second] [(.ref a)]))) (fun t_ k_ => XS.aloadN Xi1.here hx rfl (hb hby d0_4) rfl rfl k_) ?_
  refine Go.st (U := (Ti1.setTop (mkF m 6 #[.val (.ref a), .val (.double x0), .second, .val (.double x1), .second, .val (.double x2), .second] [(.double x0), (.ref a)]))) (fun t_ k_ => XS.dloadN Xi1.here hx rfl (hb hby d0_5) rfl k_) ?_
  obtain ⟨Ti2, hi2, Xi2, ei2, Wi2, sti2⟩ := putF Xi1 hx hZ hown (host := "") (Or.inl (hw _ (List.mem_of_getElem? (i := 14) rfl))) Via.refl ei1 F0_a_x E0_a (Or.inr ⟨(hw _ (List.mem_of_getElem? (i := 15) rfl)), rfl, hnm⟩) (hw _ (List.mem_of_getElem? (i := 1) rfl)) (ty := .double) (by decide) rfl rfl (g := (mkF m 6 #[.val (.ref a), .val (.double x0), .second, .val (.double x1), .second, .val (.double x2), .second] [(.double x0), (.ref a)])) rfl rfl (hb hby d0_6)
  have Ni2 := Fr.snoc Xi2 Ni1 ge_a
  have Zi2 : n0 ≤ hi2.size := by rw [Wi2.size]; exact Z0
  have Fi2_a_x := Fld.same Wi2 F0_a_x
  have Fi2_a_y := Fld.other Wi2 F0_a_y (Or.inr (slot_ne (Or.inr (hw _ (List.mem_of_getElem? (i := 17) rfl))) (Or.inr (hw _ (List.mem_of_getElem? (i := 15) rfl))) (by decide) (t := .double) (t' := .double) (by decide) (by decide)))
  have Fi2_a_z := Fld.other Wi2 F0_a_z (Or.inr (slot_ne (Or.inr (hw _ (List.mem_of_getElem? (i := 19) rfl))) (Or.inr (hw _ (List.mem_of_getElem? (i := 15) rfl))) (by decide) (t := .double) (t' := .double) (by decide) (by decide)))
  have Ei2_a := Exa.wr Wi2 E0_a
  have Ki2 := Keep.wr (Keep.refl h0 [a]) Wi2 (Or.inl (List.mem_of_getElem? (i := 0) rfl))
  refine Go.st (U := (Ti2.setTop (mkF m 9 #[.val (.ref a), .val (.double x0), .second, .val (.double x1), .second, .val (.double x2), .second] []))) sti2 ?_
  refine Go.st (U := (Ti2.setTop (mkF m 10 #[.val (.ref a), .val (.double x0), .second, .val (.double x1), .second, .val (.double x2), .second] [(.ref a)]))) (fun t_ k_ => XS.aloadN Xi2.here hx rfl (hb hby d0_9) rfl rfl k_) ?_
  refine Go.st (U := (Ti2.setTop (mkF m 11 #[.val (.ref a), .val (.double x0), .second, .val (.double x1), .second, .val (.double x2), .second] [(.double x1), (.ref a)]))) (fun t_ k_ => XS.dloadN Xi2.here hx rfl (hb hby d0_10) rfl k_) ?_
  obtain ⟨Ti3, hi3, Xi3, ei3, Wi3, sti3⟩ := putF Xi2 hx hZ hown (host := "") (Or.inl (hw _ (List.mem_of_getElem? (i := 16) rfl))) Via.refl ei2 Fi2_a_y Ei2_a (Or.inr ⟨(hw _ (List.mem_of_getElem? (i := 17) rfl)), rfl, hnm⟩) (hw _ (List.mem_of_getElem? (i := 1) rfl)) (ty := .double) (by decide) rfl rfl (g := (mkF m 11 #[.val (.ref a), .val (.double x0), .second, .val (.double x1), .second, .val (.double x2), .second] [(.double x1), (.ref a)])) rfl rfl (hb hby d0_11)
  have Ni3 := Fr.snoc Xi3 Ni2 ge_a
  have Zi3 : n0 ≤ hi3.size := by rw [Wi3.size]; exact Zi2
  have Fi3_a_x := Fld.other Wi3 Fi2_a_x (Or.inr (slot_ne (Or.inr (hw _ (List.mem_of_getElem? (i := 15) rfl))) (Or.inr (hw _ (List.mem_of_getElem? (i := 17) rfl))) (by decide) (t := .double) (t' := .double) (by decide) (by decide)))
  have Fi3_a_y := Fld.same Wi3 Fi2_a_y
  have Fi3_a_z := Fld.other Wi3 Fi2_a_z (Or.inr (slot_ne (Or.inr (hw _ (List.mem_of_getElem? (i := 19) rfl))) (Or.inr (hw _ (List.mem_of_getElem? (i := 17) rfl))) (by decide) (t := .double) (t' := .double) (by decide) (by decide)))
  have Ei3_a := Exa.wr Wi3 Ei2_a
  have Ki3 := Keep.wr Ki2 Wi3 (Or.inl (List.mem_of_getElem? (i := 0) rfl))
  refine Go.st (U := (Ti3.setTop (mkF m 14 #[.val (.ref a), .val (.double x0), .second, .val (.double x1), .second, .val (.double x2), .second] []))) sti3 ?_
  refine Go.st (U := (Ti3.setTop (mkF m 15 #[.val (.ref a), .val (.double x0), .second, .val (.double x1), .second, .val (.double x2), .second] [(.ref a)]))) (fun t_ k_ => XS.aloadN Xi3.here hx rfl (hb hby d0_14) rfl rfl k_) ?_
  refine Go.st (U := (Ti3.setTop (mkF m 17 #[.val (.ref a), .val (.double x0), .second, .val (.double x1), .second, .val (.double x2), .second] [(.double x2), (.ref a)]))) (fun t_ k_ => XS.dload Xi3.here hx rfl (hb hby d0_15) rfl k_) ?_
  obtain ⟨Ti4, hi4, Xi4, ei4, Wi4, sti4⟩ := putF Xi3 hx hZ hown (host := "") (Or.inl (hw _ (List.mem_of_getElem? (i := 18) rfl))) Via.refl ei3 Fi3_a_z Ei3_a (Or.inr ⟨(hw _ (List.mem_of_getElem? (i := 19) rfl)), rfl, hnm⟩) (hw _ (List.mem_of_getElem? (i := 1) rfl)) (ty := .double) (by decide) rfl rfl (g := (mkF m 17 #[.val (.ref a), .val (.double x0), .second, .val (.double x1), .second, .val (.double x2), .second] [(.double x2), (.ref a)])) rfl rfl (hb hby d0_17)
  have Ni4 := Fr.snoc Xi4 Ni3 ge_a
  have Zi4 : n0 ≤ hi4.size := by rw [Wi4.size]; exact Zi3
  have Fi4_a_x := Fld.other Wi4 Fi3_a_x (Or.inr (slot_ne (Or.inr (hw _ (List.mem_of_getElem? (i := 15) rfl))) (Or.inr (hw _ (List.mem_of_getElem? (i := 19) rfl))) (by decide) (t := .double) (t' := .double) (by decide) (by decide)))
  have Fi4_a_y := Fld.other Wi4 Fi3_a_y (Or.inr (slot_ne (Or.inr (hw _ (List.mem_of_getElem? (i := 17) rfl))) (Or.inr (hw _ (List.mem_of_getElem? (i := 19) rfl))) (by decide) (t := .double) (t' := .double) (by decide) (by decide)))
  have Fi4_a_z := Fld.same Wi4 Fi3_a_z
  have Ei4_a := Exa.wr Wi4 Ei3_a
  have Ki4 := Keep.wr Ki3 Wi4 (Or.inl (List.mem_of_getElem? (i := 0) rfl))
  refine Go.st (U := (Ti4.setTop (mkF m 20 #[.val (.ref a), .val (.double x0), .second, .val (.double x1), .second, .val (.double x2), .second] []))) sti4 ?_
  refine Go.retV (st := []) Xi4 hx hlk hret (hb hby d0_20) (by decide) (by decide) ?_
  show Q_vec Z a x0 x1 x2 o0 o1 o2 h0 n0 _ Ti4.heap _
  rw [ei4]
  exact ⟨rfl, Ni4, Ki4, Ei4_a, Fi4_a_x, Fi4_a_y, Fi4_a_z⟩
theorem d3_0 : decode prog_94_method_6_code 0 = .ok (.aload_n 0, 1) := by decide +kernel
theorem d3_1 : decode prog_94_method_6_code 1 = .ok (.getfield 7, 3) := by decide +kernel
theorem d3_4 : decode prog_94_method_6_code 4 = .ok (.aload_n 1, 1) := by decide +kernel
theorem d3_5 : decode prog_94_method_6_code 5 = .ok (.getfield 7, 3) := by decide +kernel
theorem d3_8 : decode prog_94_method_6_code 8 = .ok (.dmul, 1) := by decide +kernel
theorem d3_9 : decode prog_94_method_6_code 9 = .ok (.aload_n 0, 1) := by decide +kernel
theorem d3_10 : decode prog_94_method_6_code 10 = .ok (.getfield 13, 3) := by decide +kernel
theorem d3_13 : decode prog_94_method_6_code 13 = .ok (.aload_n 1, 1) := by decide +kernel
theorem d3_14 : decode prog_94_method_6_code 14 = .ok (.getfield 13, 3) := by decide +kernel
theorem d3_17 : decode prog_94_method_6_code 17 = .ok (.dmul, 1) := by decide +kernel
theorem d3_18 : decode prog_94_method_6_code 18 = .ok (.dadd, 1) := by decide +kernel
theorem d3_19 : decode prog_94_method_6_code 19 = .ok (.aload_n 0, 1) := by decide +kernel
theorem d3_20 : decode prog_94_method_6_code 20 = .ok (.getfield 16, 3) := by decide +kernel
theorem d3_23 : decode prog_94_method_6_code 23 = .ok (.aload_n 1, 1) := by decide +kernel
theorem d3_24 : decode prog_94_method_6_code 24 = .ok (.getfield 16, 3) := by decide +kernel
theorem d3_27 : decode prog_94_method_6_code 27 = .ok (.dmul, 1) := by decide +kernel
theorem d3_28 : decode prog_94_method_6_code 28 = .ok (.dadd, 1) := by decide +kernel
theorem d3_29 : decode prog_94_method_6_code 29 = .ok (.dreturn, 1) := by decide +kernel
def Q_dot (Z : State) (a : Addr) (b : Addr) (ux : UInt64) (uy : UInt64) (uz : UInt64) (vx : UInt64) (vy : UInt64) (vz : UInt64) (h0 : Heap) (n0 : Nat) (v : Option Value) (h : Heap) (L : List Loc) : Prop := v = some (.double (FP.dadd (FP.dadd (FP.dmul ux vx) (FP.dmul uy vy)) (FP.dmul uz vz))) ∧ Fr n0 L ∧ h = h0
theorem ef_dot (m : MethodId) (y0 : Addr) (y1 : Addr) : entryFrame m #[(.ref y0), (.ref y1)] 2 = mkF m 0 #[.val (.ref y0), .val (.ref y1)] [] := by first | (simp [entryFrame, mkF, argsToLocals, Value.category, maxLocals]; done) | rfl
set_option maxRecDepth 65536 in
set_option maxHeartbeats 40000000 in
theorem rm_dot (l : Launch) (Z : State) (a0 : Array Value) (hw : ∀ d ∈ tables_1, d.before a0 Z = true) (ws : List Jvm.Cond) (a : Addr) (b : Addr) (ux : UInt64) (uy : UInt64) (uz : UInt64) (vx : UInt64) (vy : UInt64) (vz : UInt64) (h0 : Heap) (n0 : Nat) (Z0 : n0 ≤ h0.size) (F0_a_x : Fld Z h0 a "org/pulsewarp/geometry/Vector" "x" "D" (.double ux)) (F0_a_y : Fld Z h0 a "org/pulsewarp/geometry/Vector" "y" "D" (.double uy)) (F0_a_z : Fld Z h0 a "org/pulsewarp/geometry/Vector" "z" "D" (.double uz)) (F0_b_x : Fld Z h0 b "org/pulsewarp/geometry/Vector" "x" "D" (.double vx)) (F0_b_y : Fld Z h0 b "org/pulsewarp/geometry/Vector" "y" "D" (.double vy)) (F0_b_z : Fld Z h0 b "org/pulsewarp/geometry/Vector" "z" "D" (.double vz)) (nn1 : Jvm.Free.Fl.NoNaN64 (FP.dmul ux vx)) (nn2 : Jvm.Free.Fl.NoNaN64 (FP.dmul uy vy)) (nn3 : Jvm.Free.Fl.NoNaN64 (FP.dadd (FP.dmul ux vx) (FP.dmul uy vy))) (nn4 : Jvm.Free.Fl.NoNaN64 (FP.dmul uz vz)) (nn5 : Jvm.Free.Fl.NoNaN64 (FP.dadd (FP.dadd (FP.dmul ux vx) (FP.dmul uy vy)) (FP.dmul uz vz))) :
    MetFree l (⟨"org/pulsewarp/geometry/Vector", "dot", "(Lorg/pulsewarp/geometry/Vector;)D"⟩ : MethodName) (head1 (Jvm.Cond.code (⟨"org/pulsewarp/geometry/Vector", "dot", "(Lorg/pulsewarp/geometry/Vector;)D"⟩ : MethodName) prog_94_method_6_code 2 (some .double) :: ws) ({ frames := 0, cells := 0, slots := 0, locals := 0 } : Room)) (fun aa_ U => aa_ = #[(.ref a), (.ref b)] ∧ Z.Warmed39 U.vm ∧ U.heap = h0) (fun _ _ _ _ _ => True) (fun _ U o U' => ∃ v L, o = .returned v ∧ Q_dot Z a b ux uy uz vx vy vz h0 n0 v U'.heap L ∧ FrameEnd U o U' L (({ frames := 0, cells := 0, slots := 0, locals := 0 } : Room)).cells (({ frames := 0, cells := 0, slots := 0, locals := 0 } : Room)).slots) := by
  refine Go.met (plainFor_of_name pn1) ?_
  intro p e s m below meth c s₁ hx hby hml hown hnm hret hlk hZ e0 X0
  have N0 := Fr.nil n0
  refine Go.cast (ef_dot m a b) ?_
  refine Go.st (U := (s₁.setTop (mkF m 1 #[.val (.ref a), .val (.ref b)] [(.ref a)]))) (fun t_ k_ => XS.aloadN X0.here hx rfl (hb hby d3_0) rfl rfl k_) ?_
  obtain ⟨Ti1, Xi1, ei1, sti1⟩ := getF X0 hx hZ hown (host := "") (Or.inl (hw _ (List.mem_of_getElem? (i := 14) rfl))) Via.refl e0 F0_a_x (g := (mkF m 1 #[.val (.ref a), .val (.ref b)] [(.ref a)])) rfl rfl (hb hby d3_1)
  refine Go.st (U := (Ti1.setTop (mkF m 4 #[.val (.ref a), .val (.ref b)] [(.double ux)]))) sti1 ?_
  refine Go.st (U := (Ti1.setTop (mkF m 5 #[.val (.ref a), .val (.ref b)] [(.ref b), (.double ux)]))) (fun t_ k_ => XS.aloadN Xi1.here hx rfl (hb hby d3_4) rfl rfl k_) ?_
  obtain ⟨Ti2, Xi2, ei2, sti2⟩ := getF Xi1 hx hZ hown (host := "") (Or.inl (hw _ (List.mem_of_getElem? (i := 14) rfl))) Via.refl ei1 F0_b_x (g := (mkF m 5 #[.val (.ref a), .val (.ref b)] [(.ref b), (.double ux)])) rfl rfl (hb hby d3_5)
  refine Go.st (U := (Ti2.setTop (mkF m 8 #[.val (.ref a), .val (.ref b)] [(.double vx), (.double ux)]))) sti2 ?_
  refine Go.st (U := (Ti2.setTop (mkF m 9 #[.val (.ref a), .val (.ref b)] [(.double (FP.dmul ux vx))]))) (fun t_ k_ => XS.dmulS Xi2.here hx rfl (hb hby d3_8) rfl nn1 rfl k_) ?_
  refine Go.st (U := (Ti2.setTop (mkF m 10 #[.val (.ref a), .val (.ref b)] [(.ref a), (.double (FP.dmul ux vx))]))) (fun t_ k_ => XS.aloadN Xi2.here hx rfl (hb hby d3_9) rfl rfl k_) ?_
  obtain ⟨Ti3, Xi3, ei3, sti3⟩ := getF Xi2 hx hZ hown (host := "") (Or.inl (hw _ (List.mem_of_getElem? (i := 16) rfl))) Via.refl ei2 F0_a_y (g := (mkF m 10 #[.val (.ref a), .val (.ref b)] [(.ref a), (.double (FP.dmul ux vx))])) rfl rfl (hb hby d3_10)
  refine Go.st (U := (Ti3.setTop (mkF m 13 #[.val (.ref a), .val (.ref b)] [(.double uy), (.double (FP.dmul ux vx))]))) sti3 ?_
  refine Go.st (U := (Ti3.setTop (mkF m 14 #[.val (.ref a), .val (.ref b)] [(.ref b), (.double uy), (.double (FP.dmul ux vx))]))) (fun t_ k_ => XS.aloadN Xi3.here hx rfl (hb hby d3_13) rfl rfl k_) ?_
  obtain ⟨Ti4, Xi4, ei4, sti4⟩ := getF Xi3 hx hZ hown (host := "") (Or.inl (hw _ (List.mem_of_getElem? (i := 16) rfl))) Via.refl ei3 F0_b_y (g := (mkF m 14 #[.val (.ref a), .val (.ref b)] [(.ref b), (.double uy), (.double (FP.dmul ux vx))])) rfl rfl (hb hby d3_14)
  refine Go.st (U := (Ti4.setTop (mkF m 17 #[.val (.ref a), .val (.ref b)] [(.double vy), (.double uy), (.double (FP.dmul ux vx))]))) sti4 ?_
  refine Go.st (U := (Ti4.setTop (mkF m 18 #[.val (.ref a), .val (.ref b)] [(.double (FP.dmul uy vy)), (.double (FP.dmul ux vx))]))) (fun t_ k_ => XS.dmulS Xi4.here hx rfl (hb hby d3_17) rfl nn2 rfl k_) ?_
  refine Go.st (U := (Ti4.setTop (mkF m 19 #[.val (.ref a), .val (.ref b)] [(.double (FP.dadd (FP.dmul ux vx) (FP.dmul uy vy)))]))) (fun t_ k_ => XS.daddS Xi4.here hx rfl (hb hby d3_18) rfl nn3 rfl k_) ?_
  refine Go.st (U := (Ti4.setTop (mkF m 20 #[.val (.ref a), .val (.ref b)] [(.ref a), (.double (FP.dadd (FP.dmul ux vx) (FP.dmul uy vy)))]))) (fun t_ k_ => XS.aloadN Xi4.here hx rfl (hb hby d3_19) rfl rfl k_) ?_
  obtain ⟨Ti5, Xi5, ei5, sti5⟩ := getF Xi4 hx hZ hown (host := "") (Or.inl (hw _ (List.mem_of_getElem? (i := 18) rfl))) Via.refl ei4 F0_a_z (g := (mkF m 20 #[.val (.ref a), .val (.ref b)] [(.ref a), (.double (FP.dadd (FP.dmul ux vx) (FP.dmul uy vy)))])) rfl rfl (hb hby d3_20)
  refine Go.st (U := (Ti5.setTop (mkF m 23 #[.val (.ref a), .val (.ref b)] [(.double uz), (.double (FP.dadd (FP.dmul ux vx) (FP.dmul uy vy)))]))) sti5 ?_
  refine Go.st (U := (Ti5.setTop (mkF m 24 #[.val (.ref a), .val (.ref b)] [(.ref b), (.double uz), (.double (FP.dadd (FP.dmul ux vx) (FP.dmul uy vy)))]))) (fun t_ k_ => XS.aloadN Xi5.here hx rfl (hb hby d3_23) rfl rfl k_) ?_
  obtain ⟨Ti6, Xi6, ei6, sti6⟩ := getF Xi5 hx hZ hown (host := "") (Or.inl (hw _ (List.mem_of_getElem? (i := 18) rfl))) Via.refl ei5 F0_b_z (g := (mkF m 24 #[.val (.ref a), .val (.ref b)] [(.ref b), (.double uz), (.double (FP.dadd (FP.dmul ux vx) (FP.dmul uy vy)))])) rfl rfl (hb hby d3_24)
  refine Go.st (U := (Ti6.setTop (mkF m 27 #[.val (.ref a), .val (.ref b)] [(.double vz), (.double uz), (.double (FP.dadd (FP.dmul ux vx) (FP.dmul uy vy)))]))) sti6 ?_
  refine Go.st (U := (Ti6.setTop (mkF m 28 #[.val (.ref a), .val (.ref b)] [(.double (FP.dmul uz vz)), (.double (FP.dadd (FP.dmul ux vx) (FP.dmul uy vy)))]))) (fun t_ k_ => XS.dmulS Xi6.here hx rfl (hb hby d3_27) rfl nn4 rfl k_) ?_
  refine Go.st (U := (Ti6.setTop (mkF m 29 #[.val (.ref a), .val (.ref b)] [(.double (FP.dadd (FP.dadd (FP.dmul ux vx) (FP.dmul uy vy)) (FP.dmul uz vz)))]))) (fun t_ k_ => XS.daddS Xi6.here hx rfl (hb hby d3_28) rfl nn5 rfl k_) ?_
  refine Go.retD Xi6 hx hlk hret (hb hby d3_29) (by decide) (by decide) ?_
  show Q_dot Z a b ux uy uz vx vy vz h0 n0 _ Ti6.heap _
  rw [ei6]
  exact ⟨rfl, N0, rfl⟩
theorem pn2 : plainName "org/pulsewarp/geometry/VectorDotPinLaw" = true := by first | (simp [plainName, overriddenIn]; done) | decide +kernel
def Q_law (Z : State) (p0 : Int32) (p1 : Int32) (p2 : Int32) (p3 : Int32) (p4 : Int32) (p5 : Int32) (h0 : Heap) (n0 : Nat) (v : Option Value) (h : Heap) (L : List Loc) : Prop := v = some (.int 1) ∧ Fr n0 L
theorem ef_law (m : MethodId) (y0 : Int32) (y1 : Int32) (y2 : Int32) (y3 : Int32) (y4 : Int32) (y5 : Int32) : entryFrame m #[(.int y0), (.int y1), (.int y2), (.int y3), (.int y4), (.int y5)] maxLocals = mkF m 0 #[.val (.int y0), .val (.int y1), .val (.int y2), .val (.int y3), .val (.int y4), .val (.int y5), .unset, .unset, .unset, .unset, .unset, .unset, .unset, .unset, .unset, .unset, .unset, .unset, .unset, .unset, .unset, .unset] [] := by first | (simp [entryFrame, mkF, argsToLocals, Value.category, maxLocals]; done) | rfl
theorem pd1 : parseMethodDescriptor "(DDD)V" = some ⟨[.double, .double, .double], none⟩ := by decide +kernel
theorem pd2 : parseMethodDescriptor "(Lorg/pulsewarp/geometry/Vector;)D" = some ⟨[.object "org/pulsewarp/geometry/Vector"], some .double⟩ := by decide +kernel
set_option maxRecDepth 65536 in
set_option maxHeartbeats 40000000 in
theorem rm_law (l : Launch) (Z : State) (a0 : Array Value) (hw : ∀ d ∈ tables_1, d.before a0 Z = true) (ws : List Jvm.Cond) (p0 : Int32) (p1 : Int32) (p2 : Int32) (p3 : Int32) (p4 : Int32) (p5 : Int32) (h0 : Heap) (n0 : Nat) (Z0 : n0 ≤ h0.size)  :
    MetFree l x (head1 (Jvm.Cond.code x code maxLocals ret :: ws) room_1) (fun aa_ U => aa_ = #[(.int p0), (.int p1), (.int p2), (.int p3), (.int p4), (.int p5)] ∧ Z.Warmed39 U.vm ∧ U.heap = h0) (fun _ _ _ _ _ => True) (fun _ U o U' => ∃ v L, o = .returned v ∧ Q_law Z p0 p1 p2 p3 p4 p5 h0 n0 v U'.heap L ∧ FrameEnd U o U' L (room_1).cells (room_1).slots) := by
  refine Go.met (plainFor_of_name pn2) ?_
  intro p e s m below meth c s₁ hx hby hml hown hnm hret hlk hZ e0 X0
  have hml : c.maxLocals = 22 := hml
  have N0 := Fr.nil n0
  refine Go.cast (ef_law m p0 p1 p2 p3 p4 p5) ?_
  refine Go.st (U := (s₁.setTop (mkF m 1 #[.val (.int p0), .val (.int p1), .val (.int p2), .val (.int p3), .val (.int p4), .val (.int p5), .unset, .unset, .unset, .unset, .unset, .unset, .unset, .unset, .unset, .unset, .unset, .unset, .unset, .unset, .unset, .unset] [(.int p0)]))) (fun t_ k_ => XS.iloadN X0.here hx rfl (hb hby at_0) rfl k_) ?_
  refine Go.st (U := (s₁.setTop (mkF m 3 #[.val (.int p0), .val (.int p1), .val (.int p2), .val (.int p3), .val (.int p4), .val (.int p5), .unset, .unset, .unset, .unset, .unset, .unset, .unset, .unset, .unset, .unset, .unset, .unset, .unset, .unset, .unset, .unset] [(.int (11 : Int32)), (.int p0)]))) (fun t_ k_ => XS.bipush X0.here hx rfl (hb hby at_1) k_) ?_
  refine Go.st (U := (s₁.setTop (mkF m 4 #[.val (.int p0), .val (.int p1), .val (.int p2), .val (.int p3), .val (.int p4), .val (.int p5), .unset, .unset, .unset, .unset, .unset, .unset, .unset, .unset, .unset, .unset, .unset, .unset, .unset, .unset, .unset, .unset] [(.int (p0 >>> ((11 : Int32) &&& 31)))]))) (fun t_ k_ => XS.ishr X0.here hx rfl (hb hby at_3) rfl k_) ?_
  refine Go.st (U := (s₁.setTop (mkF m 5 #[.val (.int p0), .val (.int p1), .val (.int p2), .val (.int p3), .val (.int p4), .val (.int p5), .unset, .unset, .unset, .unset, .unset, .unset, .unset, .unset, .unset, .unset, .unset, .unset, .unset, .unset, .unset, .unset] [(.long ((p0 >>> ((11 : Int32) &&& 31)).toInt64))]))) (fun t_ k_ => XS.i2l X0.here hx rfl (hb hby at_4) rfl k_) ?_
  generalize q_ux : ((p0 >>> ((11 : Int32) &&& 31)).toInt64) = ux
  refine Go.st (U := (s₁.setTop (mkF m 7 #[.val (.int p0), .val (.int p1), .val (.int p2), .val (.int p3), .val (.int p4), .val (.int p5), .val (.long ux), .second, .unset, .unset, .unset, .unset, .unset, .unset, .unset, .unset, .unset, .unset, .unset, .unset, .unset, .unset] []))) (fun t_ k_ => XS.lstore X0.here hx rfl (hb hby at_5) rfl (l' := #[.val (.int p0), .val (.int p1), .val (.int p2), .val (.int p3), .val (.int p4), .val (.int p5), .val (.long ux), .second, .unset, .unset, .unset, .unset, .unset, .unset, .unset, .unset, .unset, .unset, .unset, .unset, .unset, .unset]) rfl k_) ?_
  refine Go.st (U := (s₁.setTop (mkF m 8 #[.val (.int p0), .val (.int p1), .val (.int p2), .val (.int p3), .val (.int p4), .val (.int p5), .val (.long ux), .second, .unset, .unset, .unset, .unset, .unset, .unset, .unset, .unset, .unset, .unset, .unset, .unset, .unset, .unset] [(.int p1)]))) (fun t_ k_ => XS.iloadN X0.here hx rfl (hb hby at_7) rfl k_) ?_
  refine Go.st (U := (s₁.setTop (mkF m 10 #[.val (.int p0), .val (.int p1), .val (.int p2), .val (.int p3), .val (.int p4), .val (.int p5), .val (.long ux), .second, .unset, .unset, .unset, .unset, .unset, .unset, .unset, .unset, .unset, .unset, .unset, .unset, .unset, .unset] [(.int (11 : Int32)), (.int p1)]))) (fun t_ k_ => XS.bipush X0.here hx rfl (hb hby at_8) k_) ?_
  refine Go.st (U := (s₁.setTop (mkF m 11 #[.val (.int p0), .val (.int p1), .val (.int p2), .val (.int p3), .val (.int p4), .val (.int p5), .val (.long ux), .second, .unset, .unset, .unset, .unset, .unset, .unset, .unset, .unset, .unset, .unset, .unset, .unset, .unset, .unset] [(.int (p1 >>> ((11 : Int32) &&& 31)))]))) (fun t_ k_ => XS.ishr X0.here hx rfl (hb hby at_10) rfl k_) ?_
  refine Go.st (U := (s₁.setTop (mkF m 12 #[.val (.int p0), .val (.int p1), .val (.int p2), .val (.int p3), .val (.int p4), .val (.int p5), .val (.long ux), .second, .unset, .unset, .unset, .unset, .unset, .unset, .unset, .unset, .unset, .unset, .unset, .unset, .unset, .unset] [(.long ((p1 >>> ((11 : Int32) &&& 31)).toInt64))]))) (fun t_ k_ => XS.i2l X0.here hx rfl (hb hby at_11) rfl k_) ?_
  generalize q_uy : ((p1 >>> ((11 : Int32) &&& 31)).toInt64) = uy
  refine Go.st (U := (s₁.setTop (mkF m 14 #[.val (.int p0), .val (.int p1), .val (.int p2), .val (.int p3), .val (.int p4), .val (.int p5), .val (.long ux), .second, .val (.long uy), .second, .unset, .unset, .unset, .unset, .unset, .unset, .unset, .unset, .unset, .unset, .unset, .unset] []))) (fun t_ k_ => XS.lstore X0.here hx rfl (hb hby at_12) rfl (l' := #[.val (.int p0), .val (.int p1), .val (.int p2), .val (.int p3), .val (.int p4), .val (.int p5), .val (.long ux), .second, .val (.long uy), .second, .unset, .unset, .unset, .unset, .unset, .unset, .unset, .unset, .unset, .unset, .unset, .unset]) rfl k_) ?_
  refine Go.st (U := (s₁.setTop (mkF m 15 #[.val (.int p0), .val (.int p1), .val (.int p2), .val (.int p3), .val (.int p4), .val (.int p5), .val (.long ux), .second, .val (.long uy), .second, .unset, .unset, .unset, .unset, .unset, .unset, .unset, .unset, .unset, .unset, .unset, .unset] [(.int p2)]))) (fun t_ k_ => XS.iloadN X0.here hx rfl (hb hby at_14) rfl k_) ?_
  refine Go.st (U := (s₁.setTop (mkF m 17 #[.val (.int p0), .val (.int p1), .val (.int p2), .val (.int p3), .val (.int p4), .val (.int p5), .val (.long ux), .second, .val (.long uy), .second, .unset, .unset, .unset, .unset, .unset, .unset, .unset, .unset, .unset, .unset, .unset, .unset] [(.int (11 : Int32)), (.int p2)]))) (fun t_ k_ => XS.bipush X0.here hx rfl (hb hby at_15) k_) ?_
  refine Go.st (U := (s₁.setTop (mkF m 18 #[.val (.int p0), .val (.int p1), .val (.int p2), .val (.int p3), .val (.int p4), .val (.int p5), .val (.long ux), .second, .val (.long uy), .second, .unset, .unset, .unset, .unset, .unset, .unset, .unset, .unset, .unset, .unset, .unset, .unset] [(.int (p2 >>> ((11 : Int32) &&& 31)))]))) (fun t_ k_ => XS.ishr X0.here hx rfl (hb hby at_17) rfl k_) ?_
  refine Go.st (U := (s₁.setTop (mkF m 19 #[.val (.int p0), .val (.int p1), .val (.int p2), .val (.int p3), .val (.int p4), .val (.int p5), .val (.long ux), .second, .val (.long uy), .second, .unset, .unset, .unset, .unset, .unset, .unset, .unset, .unset, .unset, .unset, .unset, .unset] [(.long ((p2 >>> ((11 : Int32) &&& 31)).toInt64))]))) (fun t_ k_ => XS.i2l X0.here hx rfl (hb hby at_18) rfl k_) ?_
  generalize q_uz : ((p2 >>> ((11 : Int32) &&& 31)).toInt64) = uz
  refine Go.st (U := (s₁.setTop (mkF m 21 #[.val (.int p0), .val (.int p1), .val (.int p2), .val (.int p3), .val (.int p4), .val (.int p5), .val (.long ux), .second, .val (.long uy), .second, .val (.long uz), .second, .unset, .unset, .unset, .unset, .unset, .unset, .unset, .unset, .unset, .unset] []))) (fun t_ k_ => XS.lstore X0.here hx rfl (hb hby at_19) rfl (l' := #[.val (.int p0), .val (.int p1), .val (.int p2), .val (.int p3), .val (.int p4), .val (.int p5), .val (.long ux), .second, .val (.long uy), .second, .val (.long uz), .second, .unset, .unset, .unset, .unset, .unset, .unset, .unset, .unset, .unset, .unset]) rfl k_) ?_
  refine Go.st (U := (s₁.setTop (mkF m 22 #[.val (.int p0), .val (.int p1), .val (.int p2), .val (.int p3), .val (.int p4), .val (.int p5), .val (.long ux), .second, .val (.long uy), .second, .val (.long uz), .second, .unset, .unset, .unset, .unset, .unset, .unset, .unset, .unset, .unset, .unset] [(.int p3)]))) (fun t_ k_ => XS.iloadN X0.here hx rfl (hb hby at_21) rfl k_) ?_
  refine Go.st (U := (s₁.setTop (mkF m 24 #[.val (.int p0), .val (.int p1), .val (.int p2), .val (.int p3), .val (.int p4), .val (.int p5), .val (.long ux), .second, .val (.long uy), .second, .val (.long uz), .second, .unset, .unset, .unset, .unset, .unset, .unset, .unset, .unset, .unset, .unset] [(.int (11 : Int32)), (.int p3)]))) (fun t_ k_ => XS.bipush X0.here hx rfl (hb hby at_22) k_) ?_
  refine Go.st (U := (s₁.setTop (mkF m 25 #[.val (.int p0), .val (.int p1), .val (.int p2), .val (.int p3), .val (.int p4), .val (.int p5), .val (.long ux), .second, .val (.long uy), .second, .val (.long uz), .second, .unset, .unset, .unset, .unset, .unset, .unset, .unset, .unset, .unset, .unset] [(.int (p3 >>> ((11 : Int32) &&& 31)))]))) (fun t_ k_ => XS.ishr X0.here hx rfl (hb hby at_24) rfl k_) ?_
  refine Go.st (U := (s₁.setTop (mkF m 26 #[.val (.int p0), .val (.int p1), .val (.int p2), .val (.int p3), .val (.int p4), .val (.int p5), .val (.long ux), .second, .val (.long uy), .second, .val (.long uz), .second, .unset, .unset, .unset, .unset, .unset, .unset, .unset, .unset, .unset, .unset] [(.long ((p3 >>> ((11 : Int32) &&& 31)).toInt64))]))) (fun t_ k_ => XS.i2l X0.here hx rfl (hb hby at_25) rfl k_) ?_
  generalize q_vx : ((p3 >>> ((11 : Int32) &&& 31)).toInt64) = vx
  refine Go.st (U := (s₁.setTop (mkF m 28 #[.val (.int p0), .val (.int p1), .val (.int p2), .val (.int p3), .val (.int p4), .val (.int p5), .val (.long ux), .second, .val (.long uy), .second, .val (.long uz), .second, .val (.long vx), .second, .unset, .unset, .unset, .unset, .unset, .unset, .unset, .unset] []))) (fun t_ k_ => XS.lstore X0.here hx rfl (hb hby at_26) rfl (l' := #[.val (.int p0), .val (.int p1), .val (.int p2), .val (.int p3), .val (.int p4), .val (.int p5), .val (.long ux), .second, .val (.long uy), .second, .val (.long uz), .second, .val (.long vx), .second, .unset, .unset, .unset, .unset, .unset, .unset, .unset, .unset]) rfl k_) ?_
  refine Go.st (U := (s₁.setTop (mkF m 30 #[.val (.int p0), .val (.int p1), .val (.int p2), .val (.int p3), .val (.int p4), .val (.int p5), .val (.long ux), .second, .val (.long uy), .second, .val (.long uz), .second, .val (.long vx), .second, .unset, .unset, .unset, .unset, .unset, .unset, .unset, .unset] [(.int p4)]))) (fun t_ k_ => XS.iload X0.here hx rfl (hb hby at_28) rfl k_) ?_
  refine Go.st (U := (s₁.setTop (mkF m 32 #[.val (.int p0), .val (.int p1), .val (.int p2), .val (.int p3), .val (.int p4), .val (.int p5), .val (.long ux), .second, .val (.long uy), .second, .val (.long uz), .second, .val (.long vx), .second, .unset, .unset, .unset, .unset, .unset, .unset, .unset, .unset] [(.int (11 : Int32)), (.int p4)]))) (fun t_ k_ => XS.bipush X0.here hx rfl (hb hby at_30) k_) ?_
  refine Go.st (U := (s₁.setTop (mkF m 33 #[.val (.int p0), .val (.int p1), .val (.int p2), .val (.int p3), .val (.int p4), .val (.int p5), .val (.long ux), .second, .val (.long uy), .second, .val (.long uz), .second, .val (.long vx), .second, .unset, .unset, .unset, .unset, .unset, .unset, .unset, .unset] [(.int (p4 >>> ((11 : Int32) &&& 31)))]))) (fun t_ k_ => XS.ishr X0.here hx rfl (hb hby at_32) rfl k_) ?_
  refine Go.st (U := (s₁.setTop (mkF m 34 #[.val (.int p0), .val (.int p1), .val (.int p2), .val (.int p3), .val (.int p4), .val (.int p5), .val (.long ux), .second, .val (.long uy), .second, .val (.long uz), .second, .val (.long vx), .second, .unset, .unset, .unset, .unset, .unset, .unset, .unset, .unset] [(.long ((p4 >>> ((11 : Int32) &&& 31)).toInt64))]))) (fun t_ k_ => XS.i2l X0.here hx rfl (hb hby at_33) rfl k_) ?_
  generalize q_vy : ((p4 >>> ((11 : Int32) &&& 31)).toInt64) = vy
  refine Go.st (U := (s₁.setTop (mkF m 36 #[.val (.int p0), .val (.int p1), .val (.int p2), .val (.int p3), .val (.int p4), .val (.int p5), .val (.long ux), .second, .val (.long uy), .second, .val (.long uz), .second, .val (.long vx), .second, .val (.long vy), .second, .unset, .unset, .unset, .unset, .unset, .unset] []))) (fun t_ k_ => XS.lstore X0.here hx rfl (hb hby at_34) rfl (l' := #[.val (.int p0), .val (.int p1), .val (.int p2), .val (.int p3), .val (.int p4), .val (.int p5), .val (.long ux), .second, .val (.long uy), .second, .val (.long uz), .second, .val (.long vx), .second, .val (.long vy), .second, .unset, .unset, .unset, .unset, .unset, .unset]) rfl k_) ?_
  refine Go.st (U := (s₁.setTop (mkF m 38 #[.val (.int p0), .val (.int p1), .val (.int p2), .val (.int p3), .val (.int p4), .val (.int p5), .val (.long ux), .second, .val (.long uy), .second, .val (.long uz), .second, .val (.long vx), .second, .val (.long vy), .second, .unset, .unset, .unset, .unset, .unset, .unset] [(.int p5)]))) (fun t_ k_ => XS.iload X0.here hx rfl (hb hby at_36) rfl k_) ?_
  refine Go.st (U := (s₁.setTop (mkF m 40 #[.val (.int p0), .val (.int p1), .val (.int p2), .val (.int p3), .val (.int p4), .val (.int p5), .val (.long ux), .second, .val (.long uy), .second, .val (.long uz), .second, .val (.long vx), .second, .val (.long vy), .second, .unset, .unset, .unset, .unset, .unset, .unset] [(.int (11 : Int32)), (.int p5)]))) (fun t_ k_ => XS.bipush X0.here hx rfl (hb hby at_38) k_) ?_
  refine Go.st (U := (s₁.setTop (mkF m 41 #[.val (.int p0), .val (.int p1), .val (.int p2), .val (.int p3), .val (.int p4), .val (.int p5), .val (.long ux), .second, .val (.long uy), .second, .val (.long uz), .second, .val (.long vx), .second, .val (.long vy), .second, .unset, .unset, .unset, .unset, .unset, .unset] [(.int (p5 >>> ((11 : Int32) &&& 31)))]))) (fun t_ k_ => XS.ishr X0.here hx rfl (hb hby at_40) rfl k_) ?_
  refine Go.st (U := (s₁.setTop (mkF m 42 #[.val (.int p0), .val (.int p1), .val (.int p2), .val (.int p3), .val (.int p4), .val (.int p5), .val (.long ux), .second, .val (.long uy), .second, .val (.long uz), .second, .val (.long vx), .second, .val (.long vy), .second, .unset, .unset, .unset, .unset, .unset, .unset] [(.long ((p5 >>> ((11 : Int32) &&& 31)).toInt64))]))) (fun t_ k_ => XS.i2l X0.here hx rfl (hb hby at_41) rfl k_) ?_
  generalize q_vz : ((p5 >>> ((11 : Int32) &&& 31)).toInt64) = vz
  refine Go.st (U := (s₁.setTop (mkF m 44 #[.val (.int p0), .val (.int p1), .val (.int p2), .val (.int p3), .val (.int p4), .val (.int p5), .val (.long ux), .second, .val (.long uy), .second, .val (.long uz), .second, .val (.long vx), .second, .val (.long vy), .second, .val (.long vz), .second, .unset, .unset, .unset, .unset] []))) (fun t_ k_ => XS.lstore X0.here hx rfl (hb hby at_42) rfl (l' := #[.val (.int p0), .val (.int p1), .val (.int p2), .val (.int p3), .val (.int p4), .val (.int p5), .val (.long ux), .second, .val (.long uy), .second, .val (.long uz), .second, .val (.long vx), .second, .val (.long vy), .second, .val (.long vz), .second, .unset, .unset, .unset, .unset]) rfl k_) ?_
  obtain ⟨Ti1, hi1, Xi1, ei1, Gi1, Ai1, Di1, -, sti1⟩ := newO X0 hx hZ hown (hw _ (List.mem_of_getElem? (i := 0) rfl)) (hw _ (List.mem_of_getElem? (i := 1) rfl)) (hw _ (List.mem_of_getElem? (i := 2) rfl)) e0 (g := (mkF m 44 #[.val (.int p0), .val (.int p1), .val (.int p2), .val (.int p3), .val (.int p4), .val (.int p5), .val (.long ux), .second, .val (.long uy), .second, .val (.long uz), .second, .val (.long vx), .second, .val (.long vy), .second, .val (.long vz), .second, .unset, .unset, .unset, .unset] [])) rfl (hb hby at_44) (by decide) (by decide)
  obtain ⟨bi1, gi1⟩ : ∃ z, z = h0.size := ⟨_, rfl⟩
  rw [← gi1] at Ai1 Di1 sti1
  have ge_bi1 : n0 ≤ bi1 := Nat.le_trans Z0 (Nat.le_of_eq gi1.symm)
  have sz_bi1 : h0.size ≤ bi1 := Nat.le_of_eq gi1.symm
  have sz0_bi1 : h0.size ≤ bi1 := Nat.le_trans (Keep.size_le (Keep.refl h0 [])) sz_bi1
  have Fi1_bi1_x : Fld Z hi1 bi1 "org/pulsewarp/geometry/Vector" "x" "D" (.double 0) := Di1 (Or.inr (hw _ (List.mem_of_getElem? (i := 15) rfl))) (ty := .double) (by decide)
  have Fi1_bi1_y : Fld Z hi1 bi1 "org/pulsewarp/geometry/Vector" "y" "D" (.double 0) := Di1 (Or.inr (hw _ (List.mem_of_getElem? (i := 17) rfl))) (ty := .double) (by decide)
  have Fi1_bi1_z : Fld Z hi1 bi1 "org/pulsewarp/geometry/Vector" "z" "D" (.double 0) := Di1 (Or.inr (hw _ (List.mem_of_getElem? (i := 19) rfl))) (ty := .double) (by decide)
  have Zi1 : n0 ≤ hi1.size := Nat.le_trans Z0 Gi1.1
  have Ki1 := Keep.ext (Keep.refl h0 []) Gi1
  refine Go.st (U := (Ti1.setTop (mkF m 47 #[.val (.int p0), .val (.int p1), .val (.int p2), .val (.int p3), .val (.int p4), .val (.int p5), .val (.long ux), .second, .val (.long uy), .second, .val (.long uz), .second, .val (.long vx), .second, .val (.long vy), .second, .val (.long vz), .second, .unset, .unset, .unset, .unset] [(.ref bi1)]))) sti1 ?_
  refine Go.st (U := (Ti1.setTop (mkF m 48 #[.val (.int p0), .val (.int p1), .val (.int p2), .val (.int p3), .val (.int p4), .val (.int p5), .val (.long ux), .second, .val (.long uy), .second, .val (.long uz), .second, .val (.long vx), .second, .val (.long vy), .second, .val (.long vz), .second, .unset, .unset, .unset, .unset] [(.ref bi1), (.ref bi1)]))) (fun t_ k_ => XS.dup Xi1.here hx rfl (hb hby at_47) rfl rfl k_) ?_
  refine Go.st (U := (Ti1.setTop (mkF m 50 #[.val (.int p0), .val (.int p1), .val (.int p2), .val (.int p3), .val (.int p4), .val (.int p5), .val (.long ux), .second, .val (.long uy), .second, .val (.long uz), .second, .val (.long vx), .second, .val (.long vy), .second, .val (.long vz), .second, .unset, .unset, .unset, .unset] [(.long ux), (.ref bi1), (.ref bi1)]))) (fun t_ k_ => XS.lload Xi1.here hx rfl (hb hby at_48) rfl k_) ?_
  refine Go.st (U := (Ti1.setTop (mkF m 51 #[.val (.int p0), .val (.int p1), .val (.int p2), .val (.int p3), .val (.int p4), .val (.int p5), .val (.long ux), .second, .val (.long uy), .second, .val (.long uz), .second, .val (.long vx), .second, .val (.long vy), .second, .val (.long vz), .second, .unset, .unset, .unset, .unset] [(.double (FP.l2d ux)), (.ref bi1), (.ref bi1)]))) (fun t_ k_ => XS.l2dS Xi1.here hx rfl (hb hby at_50) rfl rfl k_) ?_
  refine Go.st (U := (Ti1.setTop (mkF m 53 #[.val (.int p0), .val (.int p1), .val (.int p2), .val (.int p3), .val (.int p4), .val (.int p5), .val (.long ux), .second, .val (.long uy), .second, .val (.long uz), .second, .val (.long vx), .second, .val (.long vy), .second, .val (.long vz), .second, .unset, .unset, .unset, .unset] [(.long uy), (.double (FP.l2d ux)), (.ref bi1), (.ref bi1)]))) (fun t_ k_ => XS.lload Xi1.here hx rfl (hb hby at_51) rfl k_) ?_
  refine Go.st (U := (Ti1.setTop (mkF m 54 #[.val (.int p0), .val (.int p1), .val (.int p2), .val (.int p3), .val (.int p4), .val (.int p5), .val (.long ux), .second, .val (.long uy), .second, .val (.long uz), .second, .val (.long vx), .second, .val (.long vy), .second, .val (.long vz), .second, .unset, .unset, .unset, .unset] [(.double (FP.l2d uy)), (.double (FP.l2d ux)), (.ref bi1), (.ref bi1)]))) (fun t_ k_ => XS.l2dS Xi1.here hx rfl (hb hby at_53) rfl rfl k_) ?_
  refine Go.st (U := (Ti1.setTop (mkF m 56 #[.val (.int p0), .val (.int p1), .val (.int p2), .val (.int p3), .val (.int p4), .val (.int p5), .val (.long ux), .second, .val (.long uy), .second, .val (.long uz), .second, .val (.long vx), .second, .val (.long vy), .second, .val (.long vz), .second, .unset, .unset, .unset, .unset] [(.long uz), (.double (FP.l2d uy)), (.double (FP.l2d ux)), (.ref bi1), (.ref bi1)]))) (fun t_ k_ => XS.lload Xi1.here hx rfl (hb hby at_54) rfl k_) ?_
  refine Go.st (U := (Ti1.setTop (mkF m 57 #[.val (.int p0), .val (.int p1), .val (.int p2), .val (.int p3), .val (.int p4), .val (.int p5), .val (.long ux), .second, .val (.long uy), .second, .val (.long uz), .second, .val (.long vx), .second, .val (.long vy), .second, .val (.long vz), .second, .unset, .unset, .unset, .unset] [(.double (FP.l2d uz)), (.double (FP.l2d uy)), (.double (FP.l2d ux)), (.ref bi1), (.ref bi1)]))) (fun t_ k_ => XS.l2dS Xi1.here hx rfl (hb hby at_56) rfl rfl k_) ?_
  refine Go.callI Xi1 hx hZ hown rfl (hw _ (List.mem_of_getElem? (i := 3) rfl)) (hw _ (List.mem_of_getElem? (i := 4) rfl)) (hw _ (List.mem_of_getElem? (i := 2) rfl)) (hw _ (List.mem_of_getElem? (i := 5) rfl)) (by decide) (rm_vec l Z a0 hw [] bi1 (FP.l2d ux) (FP.l2d uy) (FP.l2d uz) (.double 0) (.double 0) (.double 0) hi1 n0 Zi1 Ai1 ge_bi1 Fi1_bi1_x Fi1_bi1_y Fi1_bi1_z) ei1 1 (by decide) (by decide) (g := (mkF m 57 #[.val (.int p0), .val (.int p1), .val (.int p2), .val (.int p3), .val (.int p4), .val (.int p5), .val (.long ux), .second, .val (.long uy), .second, .val (.long uz), .second, .val (.long vx), .second, .val (.long vy), .second, .val (.long vz), .second, .unset, .unset, .unset, .unset] [(.double (FP.l2d uz)), (.double (FP.l2d uy)), (.double (FP.l2d ux)), (.ref bi1), (.ref bi1)])) rfl (by rw [hml]; rfl) bi1 [(.double (FP.l2d ux)), (.double (FP.l2d uy)), (.double (FP.l2d uz))] [(.ref bi1)] rfl (lenOf pd1 rfl) rfl (by show 2 * 0 + _ ≤ _; exact Nat.le_of_eq rfl) (hb hby at_57) (by decide) (by decide) ?_
  intro vi2 Ti2 Li2 hQi2 Xi2
  obtain ⟨rfl, Ni2, Ki2, Ei2_bi1, Fi2_bi1_x, Fi2_bi1_y, Fi2_bi1_z⟩ := hQi2
  have Ni2 := Fr.app N0 Ni2
  have Zi2 : n0 ≤ Ti2.heap.size := Nat.le_trans Zi1 Ki2.1
  have Ki2 := Keep.trans Ki1 Ki2 (allS (Or.inr sz0_bi1) all0)
  show Go p e below s _ _ (Ti2.setTop (mkF m 60 #[.val (.int p0), .val (.int p1), .val (.int p2), .val (.int p3), .val (.int p4), .val (.int p5), .val (.long ux), .second, .val (.long uy), .second, .val (.long uz), .second, .val (.long vx), .second, .val (.long vy), .second, .val (.long vz), .second, .unset, .unset, .unset, .unset] [(.ref bi1)]))
  refine Go.st (U := (Ti2.setTop (mkF m 62 #[.val (.int p0), .val (.int p1), .val (.int p2), .val (.int p3), .val (.int p4), .val (.int p5), .val (.long ux), .second, .val (.long uy), .second, .val (.long uz), .second, .val (.long vx), .second, .val (.long vy), .second, .val (.long vz), .second, .val (.ref bi1), .unset, .unset, .unset] []))) (fun t_ k_ => XS.astore Xi2.here hx rfl (hb hby at_60) rfl rfl (l' := #[.val (.int p0), .val (.int p1), .val (.int p2), .val (.int p3), .val (.int p4), .val (.int p5), .val (.long ux), .second, .val (.long uy), .second, .val (.long uz), .second, .val (.long vx), .second, .val (.long vy), .second, .val (.long vz), .second, .val (.ref bi1), .unset, .unset, .unset]) rfl k_) ?_
  obtain ⟨Ti3, hi3, Xi3, ei3, Gi3, Ai3, Di3, -, sti3⟩ := newO Xi2 hx hZ hown (hw _ (List.mem_of_getElem? (i := 0) rfl)) (hw _ (List.mem_of_getElem? (i := 1) rfl)) (hw _ (List.mem_of_getElem? (i := 2) rfl)) (rfl : Ti2.heap = Ti2.heap) (g := (mkF m 62 #[.val (.int p0), .val (.int p1), .val (.int p2), .val (.int p3), .val (.int p4), .val (.int p5), .val (.long ux), .second, .val (.long uy), .second, .val (.long uz), .second, .val (.long vx), .second, .val (.long vy), .second, .val (.long vz), .second, .val (.ref bi1), .unset, .unset, .unset] [])) rfl (hb hby at_62) (by decide) (by decide)
  obtain ⟨bi3, gi3⟩ : ∃ z, z = Ti2.heap.size := ⟨_, rfl⟩
  rw [← gi3] at Ai3 Di3 sti3
  have ge_bi3 : n0 ≤ bi3 := Nat.le_trans Zi2 (Nat.le_of_eq gi3.symm)
  have sz_bi3 : Ti2.heap.size ≤ bi3 := Nat.le_of_eq gi3.symm
  have sz0_bi3 : h0.size ≤ bi3 := Nat.le_trans (Keep.size_le Ki2) sz_bi3
  have ne_bi1_bi3 : bi1 ≠ bi3 := Nat.ne_of_lt (Nat.lt_of_lt_of_le (Exa.lt Ei2_bi1) sz_bi3)
  have Fi3_bi1_x := Fld.ext Gi3 Fi2_bi1_x
  have Fi3_bi1_y := Fld.ext Gi3 Fi2_bi1_y
  have Fi3_bi1_z := Fld.ext Gi3 Fi2_bi1_z
  have Ei3_bi1 := Exa.ext Gi3 Ei2_bi1
  have Fi3_bi3_x : Fld Z hi3 bi3 "org/pulsewarp/geometry/Vector" "x" "D" (.double 0) := Di3 (Or.inr (hw _ (List.mem_of_getElem? (i := 15) rfl))) (ty := .double) (by decide)
  have Fi3_bi3_y : Fld Z hi3 bi3 "org/pulsewarp/geometry/Vector" "y" "D" (.double 0) := Di3 (Or.inr (hw _ (List.mem_of_getElem? (i := 17) rfl))) (ty := .double) (by decide)
  have Fi3_bi3_z : Fld Z hi3 bi3 "org/pulsewarp/geometry/Vector" "z" "D" (.double 0) := Di3 (Or.inr (hw _ (List.mem_of_getElem? (i := 19) rfl))) (ty := .double) (by decide)
  have Zi3 : n0 ≤ hi3.size := Nat.le_trans Zi2 Gi3.1
  have Ki3 := Keep.ext Ki2 Gi3
  refine Go.st (U := (Ti3.setTop (mkF m 65 #[.val (.int p0), .val (.int p1), .val (.int p2), .val (.int p3), .val (.int p4), .val (.int p5), .val (.long ux), .second, .val (.long uy), .second, .val (.long uz), .second, .val (.long vx), .second, .val (.long vy), .second, .val (.long vz), .second, .val (.ref bi1), .unset, .unset, .unset] [(.ref bi3)]))) sti3 ?_
  refine Go.st (U := (Ti3.setTop (mkF m 66 #[.val (.int p0), .val (.int p1), .val (.int p2), .val (.int p3), .val (.int p4), .val (.int p5), .val (.long ux), .second, .val (.long uy), .second, .val (.long uz), .second, .val (.long vx), .second, .val (.long vy), .second, .val (.long vz), .second, .val (.ref bi1), .unset, .unset, .unset] [(.ref bi3), (.ref bi3)]))) (fun t_ k_ => XS.dup Xi3.here hx rfl (hb hby at_65) rfl rfl k_) ?_
  refine Go.st (U := (Ti3.setTop (mkF m 68 #[.val (.int p0), .val (.int p1), .val (.int p2), .val (.int p3), .val (.int p4), .val (.int p5), .val (.long ux), .second, .val (.long uy), .second, .val (.long uz), .second, .val (.long vx), .second, .val (.long vy), .second, .val (.long vz), .second, .val (.ref bi1), .unset, .unset, .unset] [(.long vx), (.ref bi3), (.ref bi3)]))) (fun t_ k_ => XS.lload Xi3.here hx rfl (hb hby at_66) rfl k_) ?_
  refine Go.st (U := (Ti3.setTop (mkF m 69 #[.val (.int p0), .val (.int p1), .val (.int p2), .val (.int p3), .val (.int p4), .val (.int p5), .val (.long ux), .second, .val (.long uy), .second, .val (.long uz), .second, .val (.long vx), .second, .val (.long vy), .second, .val (.long vz), .second, .val (.ref bi1), .unset, .unset, .unset] [(.double (FP.l2d vx)), (.ref bi3), (.ref bi3)]))) (fun t_ k_ => XS.l2dS Xi3.here hx rfl (hb hby at_68) rfl rfl k_) ?_
  refine Go.st (U := (Ti3.setTop (mkF m 71 #[.val (.int p0), .val (.int p1), .val (.int p2), .val (.int p3), .val (.int p4), .val (.int p5), .val (.long ux), .second, .val (.long uy), .second, .val (.long uz), .second, .val (.long vx), .second, .val (.long vy), .second, .val (.long vz), .second, .val (.ref bi1), .unset, .unset, .unset] [(.long vy), (.double (FP.l2d vx)), (.ref bi3), (.ref bi3)]))) (fun t_ k_ => XS.lload Xi3.here hx rfl (hb hby at_69) rfl k_) ?_
  refine Go.st (U := (Ti3.setTop (mkF m 72 #[.val (.int p0), .val (.int p1), .val (.int p2), .val (.int p3), .val (.int p4), .val (.int p5), .val (.long ux), .second, .val (.long uy), .second, .val (.long uz), .second, .val (.long vx), .second, .val (.long vy), .second, .val (.long vz), .second, .val (.ref bi1), .unset, .unset, .unset] [(.double (FP.l2d vy)), (.double (FP.l2d vx)), (.ref bi3), (.ref bi3)]))) (fun t_ k_ => XS.l2dS Xi3.here hx rfl (hb hby at_71) rfl rfl k_) ?_
  refine Go.st (U := (Ti3.setTop (mkF m 74 #[.val (.int p0), .val (.int p1), .val (.int p2), .val (.int p3), .val (.int p4), .val (.int p5), .val (.long ux), .second, .val (.long uy), .second, .val (.long uz), .second, .val (.long vx), .second, .val (.long vy), .second, .val (.long vz), .second, .val (.ref bi1), .unset, .unset, .unset] [(.long vz), (.double (FP.l2d vy)), (.double (FP.l2d vx)), (.ref bi3), (.ref bi3)]))) (fun t_ k_ => XS.lload Xi3.here hx rfl (hb hby at_72) rfl k_) ?_
  refine Go.st (U := (Ti3.setTop (mkF m 75 #[.val (.int p0), .val (.int p1), .val (.int p2), .val (.int p3), .val (.int p4), .val (.int p5), .val (.long ux), .second, .val (.long uy), .second, .val (.long uz), .second, .val (.long vx), .second, .val (.long vy), .second, .val (.long vz), .second, .val (.ref bi1), .unset, .unset, .unset] [(.double (FP.l2d vz)), (.double (FP.l2d vy)), (.double (FP.l2d vx)), (.ref bi3), (.ref bi3)]))) (fun t_ k_ => XS.l2dS Xi3.here hx rfl (hb hby at_74) rfl rfl k_) ?_
  refine Go.callI Xi3 hx hZ hown rfl (hw _ (List.mem_of_getElem? (i := 3) rfl)) (hw _ (List.mem_of_getElem? (i := 4) rfl)) (hw _ (List.mem_of_getElem? (i := 2) rfl)) (hw _ (List.mem_of_getElem? (i := 5) rfl)) (by decide) (rm_vec l Z a0 hw [] bi3 (FP.l2d vx) (FP.l2d vy) (FP.l2d vz) (.double 0) (.double 0) (.double 0) hi3 n0 Zi3 Ai3 ge_bi3 Fi3_bi3_x Fi3_bi3_y Fi3_bi3_z) ei3 1 (by decide) (by decide) (g := (mkF m 75 #[.val (.int p0), .val (.int p1), .val (.int p2), .val (.int p3), .val (.int p4), .val (.int p5), .val (.long ux), .second, .val (.long uy), .second, .val (.long uz), .second, .val (.long vx), .second, .val (.long vy), .second, .val (.long vz), .second, .val (.ref bi1), .unset, .unset, .unset] [(.double (FP.l2d vz)), (.double (FP.l2d vy)), (.double (FP.l2d vx)), (.ref bi3), (.ref bi3)])) rfl (by rw [hml]; rfl) bi3 [(.double (FP.l2d vx)), (.double (FP.l2d vy)), (.double (FP.l2d vz))] [(.ref bi3)] rfl (lenOf pd1 rfl) rfl (by show 2 * 0 + _ ≤ _; exact Nat.le_of_eq rfl) (hb hby at_75) (by decide) (by decide) ?_
  intro vi4 Ti4 Li4 hQi4 Xi4
  obtain ⟨rfl, Ni4, Ki4, Ei4_bi3, Fi4_bi3_x, Fi4_bi3_y, Fi4_bi3_z⟩ := hQi4
  have Ni4 := Fr.app Ni2 Ni4
  have Zi4 : n0 ≤ Ti4.heap.size := Nat.le_trans Zi3 Ki4.1
  have Fi4_bi1_x := Fld.keep Fi3_bi1_x Ki4 (ninS ne_bi1_bi3 nin0)
  have Fi4_bi1_y := Fld.keep Fi3_bi1_y Ki4 (ninS ne_bi1_bi3 nin0)
  have Fi4_bi1_z := Fld.keep Fi3_bi1_z Ki4 (ninS ne_bi1_bi3 nin0)
  have Ei4_bi1 := Exa.keep Ei3_bi1 Ki4
  have Ki4 := Keep.trans Ki3 Ki4 (allS (Or.inr sz0_bi3) all0)
  show Go p e below s _ _ (Ti4.setTop (mkF m 78 #[.val (.int p0), .val (.int p1), .val (.int p2), .val (.int p3), .val (.int p4), .val (.int p5), .val (.long ux), .second, .val (.long uy), .second, .val (.long uz), .second, .val (.long vx), .second, .val (.long vy), .second, .val (.long vz), .second, .val (.ref bi1), .unset, .unset, .unset] [(.ref bi3)]))
  refine Go.st (U := (Ti4.setTop (mkF m 80 #[.val (.int p0), .val (.int p1), .val (.int p2), .val (.int p3), .val (.int p4), .val (.int p5), .val (.long ux), .second, .val (.long uy), .second, .val (.long uz), .second, .val (.long vx), .second, .val (.long vy), .second, .val (.long vz), .second, .val (.ref bi1), .val (.ref bi3), .unset, .unset] []))) (fun t_ k_ => XS.astore Xi4.here hx rfl (hb hby at_78) rfl rfl (l' := #[.val (.int p0), .val (.int p1), .val (.int p2), .val (.int p3), .val (.int p4), .val (.int p5), .val (.long ux), .second, .val (.long uy), .second, .val (.long uz), .second, .val (.long vx), .second, .val (.long vy), .second, .val (.long vz), .second, .val (.ref bi1), .val (.ref bi3), .unset, .unset]) rfl k_) ?_
  refine Go.st (U := (Ti4.setTop (mkF m 82 #[.val (.int p0), .val (.int p1), .val (.int p2), .val (.int p3), .val (.int p4), .val (.int p5), .val (.long ux), .second, .val (.long uy), .second, .val (.long uz), .second, .val (.long vx), .second, .val (.long vy), .second, .val (.long vz), .second, .val (.ref bi1), .val (.ref bi3), .unset, .unset] [(.long ux)]))) (fun t_ k_ => XS.lload Xi4.here hx rfl (hb hby at_80) rfl k_) ?_
  refine Go.st (U := (Ti4.setTop (mkF m 84 #[.val (.int p0), .val (.int p1), .val (.int p2), .val (.int p3), .val (.int p4), .val (.int p5), .val (.long ux), .second, .val (.long uy), .second, .val (.long uz), .second, .val (.long vx), .second, .val (.long vy), .second, .val (.long vz), .second, .val (.ref bi1), .val (.ref bi3), .unset, .unset] [(.long vx), (.long ux)]))) (fun t_ k_ => XS.lload Xi4.here hx rfl (hb hby at_82) rfl k_) ?_
  refine Go.st (U := (Ti4.setTop (mkF m 85 #[.val (.int p0), .val (.int p1), .val (.int p2), .val (.int p3), .val (.int p4), .val (.int p5), .val (.long ux), .second, .val (.long uy), .second, .val (.long uz), .second, .val (.long vx), .second, .val (.long vy), .second, .val (.long vz), .second, .val (.ref bi1), .val (.ref bi3), .unset, .unset] [(.long (ux * vx))]))) (fun t_ k_ => XS.lmul Xi4.here hx rfl (hb hby at_84) rfl k_) ?_
  refine Go.st (U := (Ti4.setTop (mkF m 87 #[.val (.int p0), .val (.int p1), .val (.int p2), .val (.int p3), .val (.int p4), .val (.int p5), .val (.long ux), .second, .val (.long uy), .second, .val (.long uz), .second, .val (.long vx), .second, .val (.long vy), .second, .val (.long vz), .second, .val (.ref bi1), .val (.ref bi3), .unset, .unset] [(.long uy), (.long (ux * vx))]))) (fun t_ k_ => XS.lload Xi4.here hx rfl (hb hby at_85) rfl k_) ?_
  refine Go.st (U := (Ti4.setTop (mkF m 89 #[.val (.int p0), .val (.int p1), .val (.int p2), .val (.int p3), .val (.int p4), .val (.int p5), .val (.long ux), .second, .val (.long uy), .second, .val (.long uz), .second, .val (.long vx), .second, .val (.long vy), .second, .val (.long vz), .second, .val (.ref bi1), .val (.ref bi3), .unset, .unset] [(.long vy), (.long uy), (.long (ux * vx))]))) (fun t_ k_ => XS.lload Xi4.here hx rfl (hb hby at_87) rfl k_) ?_
  refine Go.st (U := (Ti4.setTop (mkF m 90 #[.val (.int p0), .val (.int p1), .val (.int p2), .val (.int p3), .val (.int p4), .val (.int p5), .val (.long ux), .second, .val (.long uy), .second, .val (.long uz), .second, .val (.long vx), .second, .val (.long vy), .second, .val (.long vz), .second, .val (.ref bi1), .val (.ref bi3), .unset, .unset] [(.long (uy * vy)), (.long (ux * vx))]))) (fun t_ k_ => XS.lmul Xi4.here hx rfl (hb hby at_89) rfl k_) ?_
  refine Go.st (U := (Ti4.setTop (mkF m 91 #[.val (.int p0), .val (.int p1), .val (.int p2), .val (.int p3), .val (.int p4), .val (.int p5), .val (.long ux), .second, .val (.long uy), .second, .val (.long uz), .second, .val (.long vx), .second, .val (.long vy), .second, .val (.long vz), .second, .val (.ref bi1), .val (.ref bi3), .unset, .unset] [(.long ((ux * vx) + (uy * vy)))]))) (fun t_ k_ => XS.ladd Xi4.here hx rfl (hb hby at_90) rfl k_) ?_
  refine Go.st (U := (Ti4.setTop (mkF m 93 #[.val (.int p0), .val (.int p1), .val (.int p2), .val (.int p3), .val (.int p4), .val (.int p5), .val (.long ux), .second, .val (.long uy), .second, .val (.long uz), .second, .val (.long vx), .second, .val (.long vy), .second, .val (.long vz), .second, .val (.ref bi1), .val (.ref bi3), .unset, .unset] [(.long uz), (.long ((ux * vx) + (uy * vy)))]))) (fun t_ k_ => XS.lload Xi4.here hx rfl (hb hby at_91) rfl k_) ?_
  refine Go.st (U := (Ti4.setTop (mkF m 95 #[.val (.int p0), .val (.int p1), .val (.int p2), .val (.int p3), .val (.int p4), .val (.int p5), .val (.long ux), .second, .val (.long uy), .second, .val (.long uz), .second, .val (.long vx), .second, .val (.long vy), .second, .val (.long vz), .second, .val (.ref bi1), .val (.ref bi3), .unset, .unset] [(.long vz), (.long uz), (.long ((ux * vx) + (uy * vy)))]))) (fun t_ k_ => XS.lload Xi4.here hx rfl (hb hby at_93) rfl k_) ?_
  refine Go.st (U := (Ti4.setTop (mkF m 96 #[.val (.int p0), .val (.int p1), .val (.int p2), .val (.int p3), .val (.int p4), .val (.int p5), .val (.long ux), .second, .val (.long uy), .second, .val (.long uz), .second, .val (.long vx), .second, .val (.long vy), .second, .val (.long vz), .second, .val (.ref bi1), .val (.ref bi3), .unset, .unset] [(.long (uz * vz)), (.long ((ux * vx) + (uy * vy)))]))) (fun t_ k_ => XS.lmul Xi4.here hx rfl (hb hby at_95) rfl k_) ?_
  refine Go.st (U := (Ti4.setTop (mkF m 97 #[.val (.int p0), .val (.int p1), .val (.int p2), .val (.int p3), .val (.int p4), .val (.int p5), .val (.long ux), .second, .val (.long uy), .second, .val (.long uz), .second, .val (.long vx), .second, .val (.long vy), .second, .val (.long vz), .second, .val (.ref bi1), .val (.ref bi3), .unset, .unset] [(.long (((ux * vx) + (uy * vy)) + (uz * vz)))]))) (fun t_ k_ => XS.ladd Xi4.here hx rfl (hb hby at_96) rfl k_) ?_
  generalize q_ex : (((ux * vx) + (uy * vy)) + (uz * vz)) = ex
  refine Go.st (U := (Ti4.setTop (mkF m 99 #[.val (.int p0), .val (.int p1), .val (.int p2), .val (.int p3), .val (.int p4), .val (.int p5), .val (.long ux), .second, .val (.long uy), .second, .val (.long uz), .second, .val (.long vx), .second, .val (.long vy), .second, .val (.long vz), .second, .val (.ref bi1), .val (.ref bi3), .val (.long ex), .second] []))) (fun t_ k_ => XS.lstore Xi4.here hx rfl (hb hby at_97) rfl (l' := #[.val (.int p0), .val (.int p1), .val (.int p2), .val (.int p3), .val (.int p4), .val (.int p5), .val (.long ux), .second, .val (.long uy), .second, .val (.long uz), .second, .val (.long vx), .second, .val (.long vy), .second, .val (.long vz), .second, .val (.ref bi1), .val (.ref bi3), .val (.long ex), .second]) rfl k_) ?_
  obtain ⟨D1, D2, D3, D4, D5, D6⟩ := own_dot (own_sh q_ux) (own_sh q_uy) (own_sh q_uz) (own_sh q_vx) (own_sh q_vy) (own_sh q_vz) q_ex
  refine Go.st (U := (Ti4.setTop (mkF m 101 #[.val (.int p0), .val (.int p1), .val (.int p2), .val (.int p3), .val (.int p4), .val (.int p5), .val (.long ux), .second, .val (.long uy), .second, .val (.long uz), .second, .val (.long vx), .second, .val (.long vy), .second, .val (.long vz), .second, .val (.ref bi1), .val (.ref bi3), .val (.long ex), .second] [(.ref bi1)]))) (fun t_ k_ => XS.aload Xi4.here hx rfl (hb hby at_99) rfl rfl k_) ?_
  refine Go.st (U := (Ti4.setTop (mkF m 103 #[.val (.int p0), .val (.int p1), .val (.int p2), .val (.int p3), .val (.int p4), .val (.int p5), .val (.long ux), .second, .val (.long uy), .second, .val (.long uz), .second, .val (.long vx), .second, .val (.long vy), .second, .val (.long vz), .second, .val (.ref bi1), .val (.ref bi3), .val (.long ex), .second] [(.ref bi3), (.ref bi1)]))) (fun t_ k_ => XS.aload Xi4.here hx rfl (hb hby at_101) rfl rfl k_) ?_
  refine Go.callV Xi4 hx hZ hown (hw _ (List.mem_of_getElem? (i := 20) rfl)) (hw _ (List.mem_of_getElem? (i := 21) rfl)) (hw _ (List.mem_of_getElem? (i := 23) rfl)) (hw _ (List.mem_of_getElem? (i := 22) rfl)) (hw _ (List.mem_of_getElem? (i := 2) rfl)) (hw _ (List.mem_of_getElem? (i := 24) rfl)) (by decide) (rm_dot l Z a0 hw [] bi1 bi3 (FP.l2d ux) (FP.l2d uy) (FP.l2d uz) (FP.l2d vx) (FP.l2d vy) (FP.l2d vz) Ti4.heap n0 Zi4 Fi4_bi1_x Fi4_bi1_y Fi4_bi1_z Fi4_bi3_x Fi4_bi3_y Fi4_bi3_z (Jvm.OwnFl.nn_int D1) (Jvm.OwnFl.nn_int D2) (Jvm.OwnFl.nn_int D3) (Jvm.OwnFl.nn_int D4) (Jvm.OwnFl.nn_int D5)) (rfl : Ti4.heap = Ti4.heap) bi1 Ei4_bi1 0 (by decide) (by decide) (g := (mkF m 103 #[.val (.int p0), .val (.int p1), .val (.int p2), .val (.int p3), .val (.int p4), .val (.int p5), .val (.long ux), .second, .val (.long uy), .second, .val (.long uz), .second, .val (.long vx), .second, .val (.long vy), .second, .val (.long vz), .second, .val (.ref bi1), .val (.ref bi3), .val (.long ex), .second] [(.ref bi3), (.ref bi1)])) rfl (by rw [hml]; rfl) [(.ref bi3)] [] rfl (lenOf pd2 rfl) rfl (by show 2 * 0 + _ ≤ _; exact Nat.le_of_eq rfl) (hb hby at_103) (by decide) (by decide) ?_
  intro vi5 Ti5 Li5 hQi5 Xi5
  obtain ⟨rfl, Ni5, ei5⟩ := hQi5
  have Ni5 := Fr.app Ni4 Ni5
  show Go p e below s _ _ (Ti5.setTop (mkF m 106 #[.val (.int p0), .val (.int p1), .val (.int p2), .val (.int p3), .val (.int p4), .val (.int p5), .val (.long ux), .second, .val (.long uy), .second, .val (.long uz), .second, .val (.long vx), .second, .val (.long vy), .second, .val (.long vz), .second, .val (.ref bi1), .val (.ref bi3), .val (.long ex), .second] [(.double (FP.dadd (FP.dadd (FP.dmul (FP.l2d ux) (FP.l2d vx)) (FP.dmul (FP.l2d uy) (FP.l2d vy))) (FP.dmul (FP.l2d uz) (FP.l2d vz))))]))
  refine Go.st (U := (Ti5.setTop (mkF m 108 #[.val (.int p0), .val (.int p1), .val (.int p2), .val (.int p3), .val (.int p4), .val (.int p5), .val (.long ux), .second, .val (.long uy), .second, .val (.long uz), .second, .val (.long vx), .second, .val (.long vy), .second, .val (.long vz), .second, .val (.ref bi1), .val (.ref bi3), .val (.long ex), .second] [(.long ex), (.double (FP.dadd (FP.dadd (FP.dmul (FP.l2d ux) (FP.l2d vx)) (FP.dmul (FP.l2d uy) (FP.l2d vy))) (FP.dmul (FP.l2d uz) (FP.l2d vz))))]))) (fun t_ k_ => XS.lload Xi5.here hx rfl (hb hby at_106) rfl k_) ?_
  refine Go.st (U := (Ti5.setTop (mkF m 109 #[.val (.int p0), .val (.int p1), .val (.int p2), .val (.int p3), .val (.int p4), .val (.int p5), .val (.long ux), .second, .val (.long uy), .second, .val (.long uz), .second, .val (.long vx), .second, .val (.long vy), .second, .val (.long vz), .second, .val (.ref bi1), .val (.ref bi3), .val (.long ex), .second] [(.double (FP.l2d ex)), (.double (FP.dadd (FP.dadd (FP.dmul (FP.l2d ux) (FP.l2d vx)) (FP.dmul (FP.l2d uy) (FP.l2d vy))) (FP.dmul (FP.l2d uz) (FP.l2d vz))))]))) (fun t_ k_ => XS.l2dS Xi5.here hx rfl (hb hby at_108) rfl rfl k_) ?_
  refine Go.st (U := (Ti5.setTop (mkF m 110 #[.val (.int p0), .val (.int p1), .val (.int p2), .val (.int p3), .val (.int p4), .val (.int p5), .val (.long ux), .second, .val (.long uy), .second, .val (.long uz), .second, .val (.long vx), .second, .val (.long vy), .second, .val (.long vz), .second, .val (.ref bi1), .val (.ref bi3), .val (.long ex), .second] [(.int (cmpValue (FP.dcmp (FP.dadd (FP.dadd (FP.dmul (FP.l2d ux) (FP.l2d vx)) (FP.dmul (FP.l2d uy) (FP.l2d vy))) (FP.dmul (FP.l2d uz) (FP.l2d vz))) (FP.l2d ex)) .l))]))) (fun t_ k_ => XS.dcmpS Xi5.here hx rfl (hb hby at_109) rfl rfl k_) ?_
  refine Go.st (U := (Ti5.setTop (mkF m 113 #[.val (.int p0), .val (.int p1), .val (.int p2), .val (.int p3), .val (.int p4), .val (.int p5), .val (.long ux), .second, .val (.long uy), .second, .val (.long uz), .second, .val (.long vx), .second, .val (.long vy), .second, .val (.long vz), .second, .val (.ref bi1), .val (.ref bi3), .val (.long ex), .second] []))) (fun t_ k_ => XS.ifNo Xi5.here hx rfl (hb hby at_110) rfl ((if0 _ _).trans (teq (Jvm.OwnFl.cvi_eq D5 D6 rfl .l)).2) k_) ?_
  refine Go.st (U := (Ti5.setTop (mkF m 114 #[.val (.int p0), .val (.int p1), .val (.int p2), .val (.int p3), .val (.int p4), .val (.int p5), .val (.long ux), .second, .val (.long uy), .second, .val (.long uz), .second, .val (.long vx), .second, .val (.long vy), .second, .val (.long vz), .second, .val (.ref bi1), .val (.ref bi3), .val (.long ex), .second] [(.int (1 : Int32))]))) (fun t_ k_ => XS.iconst Xi5.here hx rfl (hb hby at_113) k_) ?_
  refine Go.st (U := (Ti5.setTop (mkF m 118 #[.val (.int p0), .val (.int p1), .val (.int p2), .val (.int p3), .val (.int p4), .val (.int p5), .val (.long ux), .second, .val (.long uy), .second, .val (.long uz), .second, .val (.long vx), .second, .val (.long vy), .second, .val (.long vz), .second, .val (.ref bi1), .val (.ref bi3), .val (.long ex), .second] [(.int (1 : Int32))]))) (fun t_ k_ => XS.goto Xi5.here hx rfl (pc0 := 114) (pc' := 118) rfl (hb hby at_114) (by decide) (by decide) k_) ?_
  refine Go.retZ Xi5 hx hlk hret (hb hby at_118) (by decide) (by decide) ?_
  exact ⟨rfl, Ni5⟩
set_option maxRecDepth 65536 in
set_option maxHeartbeats 40000000 in
theorem comes_1 {Post : Tables → Env → Array Value → State → Outcome → State → Prop} (hpost : ∀ tb e args s v u, (limb_1_1.after args s (.returned v) u = true ∧ limb_1_2.after args s (.returned v) u = true ∧ True) → FrameEnd s (.returned v) u (Jvm.fieldLocs frame_1_writes args s ++ Jvm.arrayLocs frame_1_arrays args s ++ Jvm.staticLocs frame_1_statics s) 16 128 → Post tb e args s (.returned v) u) :
    ArmFor flags0 classFile x code maxLocals ret World_1 tables_1 room_1 Calls_1 rest_1 Pre_1 Post := by
  intro l hfl _ _ p e ha hc hk s m args below hf hA hF happ hP
  obtain ⟨hcalls, hrest, hpre⟩ := hP
  obtain ⟨-, -, -, hnamed, -, -, -, hat⟩ := (Spec.applies_iff hf).mp happ
  obtain ⟨hg, hn⟩ := and_e (Cond.before_iff.mp (show (Jvm.Cond.and given_1 narrow_1).before args s = true from hpre))
  obtain ⟨hcnt, k0⟩ := and_e hg
  obtain ⟨j0, k1⟩ := and_e k0
  obtain ⟨j1, k2⟩ := and_e k1
  obtain ⟨j2, k3⟩ := and_e k2
  obtain ⟨j3, k4⟩ := and_e k3
  obtain ⟨j4, k5⟩ := and_e k4
  have j5 := k5
  obtain ⟨w0, w1, w2, w3, w4, w5, rfl⟩ : ∃ w0 w1 w2 w3 w4 w5 : Value, args = #[w0, w1, w2, w3, w4, w5] := by
    have hs : args.size = 6 := by simpa [Cond.value, given_1] using hcnt
    obtain ⟨L⟩ := args
    match L, hs with
    | [w0, w1, w2, w3, w4, w5], _ => exact ⟨w0, w1, w2, w3, w4, w5, rfl⟩
  have hw := fun d (hd : d ∈ tables_1) => atoms_spec (ws := Jvm.Cond.code x code maxLocals ret :: tables_1) hat d (List.mem_cons_of_mem _ hd)
  have hfit : Fit s := fun {y c} hc i hi => by
    obtain ⟨ha, rfl⟩ := Array.getElem?_eq_some_iff.mp hc
    have q := List.all_eq_true.mp ((Array.all_eq_true_iff_forall_mem.mp hF) _ (Array.getElem_mem ha)) i (List.mem_range.mpr hi)
    simpa [Array.getElem?_eq_getElem hi] using q
  obtain ⟨i0, e0⟩ := is_v j0
  obtain rfl : w0 = (.int i0) := Option.some.inj e0
  obtain ⟨i1, e1⟩ := is_v j1
  obtain rfl : w1 = (.int i1) := Option.some.inj e1
  obtain ⟨i2, e2⟩ := is_v j2
  obtain rfl : w2 = (.int i2) := Option.some.inj e2
  obtain ⟨i3, e3⟩ := is_v j3
  obtain rfl : w3 = (.int i3) := Option.some.inj e3
  obtain ⟨i4, e4⟩ := is_v j4
  obtain rfl : w4 = (.int i4) := Option.some.inj e4
  obtain ⟨i5, e5⟩ := is_v j5
  obtain rfl : w5 = (.int i5) := Option.some.inj e5
  obtain ⟨n, o, h1, h2, h3, _, L, rfl, ⟨rfl, N⟩, hq⟩ := rm_law l s _ hw tables_1 i0 i1 i2 i3 i4 i5  s.heap s.heap.size (Nat.le_refl _)  p e ha hc hk s m _ below hf ((Spec.applies_iff_loose hf).mp happ).1 ⟨rfl, State.Warmed39.refl s, rfl⟩ trivial
  refine ⟨n, _, h1, h2, h3, hpost _ _ _ _ _ _ ⟨Cond.after_iff.mpr rfl, Cond.after_iff.mpr (eq_i res_at (Term.int_eval (1)) rfl), trivial⟩ ⟨hq.1, hq.2.1, (hq.2.2.sift fun y hy => Or.inr (N y hy)).mono (by decide) (by decide)⟩⟩
theorem main_1_1 : Claimed_1_1 := comes_1 fun _ _ _ _ _ _ h hF => ⟨h.1, hF⟩
theorem main_1_2 : Claimed_1_2 := comes_1 fun _ _ _ _ _ _ h hF => ⟨h.2.1, hF⟩
end Jvm.Pilot.@@N@@
namespace Jvm.Pilot.@@N@@
open Jvm Jvm.ClassFile Sem Op Lib Jvm.Free Jvm.Stand Jvm.Pilot.@@N@@.Jvm.D
/-! MADE BY PROGRAM (witnessworld.py) out of the Statement's table words and the real class files: 10 classes; the members and pool entries that the words name. The judged class is class 1, her method 1. -/
namespace start1
open Jvm.ClassFile
def u (s : String) : CpInfo := .utf8 (stringToUtf16 s)
/-- a pool by its gaps: so many unusable entries, then the entry; so many at the end -/
def gap : Nat → List CpInfo → List CpInfo
  | 0, r => r
  | n + 1, r => .unusable :: gap n r
def poolList (es : List (Nat × CpInfo)) (last : Nat) : List CpInfo := es.foldr (fun e r => gap e.1 (e.2 :: r)) (gap last [])
def pool (es : List (Nat × CpInfo)) (last : Nat) : Array CpInfo := ⟨poolList es last⟩
def fileOf (pool : Array CpInfo) (this : Nat) (attrs : Array Attribute := #[]) (ms : Array MethodInfo := #[]) (fl : Nat := 33) (sup : Nat := 0) (ifs : Array Nat := #[]) (fds : Array FieldInfo := #[]) : ClassFile where
  minorVersion := 0
  majorVersion := 65
  constantPool := pool
  accessFlags := fl
  thisClass := this
  superClass := sup
  interfaces := ifs
  fields := fds
  methods := ms
  attributes := attrs
def plain (name : String) (sup : Option ClassId) : Class where
  name := name
  kind := .ordinary
  loader := none
  accessFlags := 33
  super := sup
  interfaces := #[]
  cf := none
  fields := #[]
  methods := #[]
  instanceTypes := #[]
  staticTypes := #[]
  resolved := #[]
  callSites := []
  init := .initialized
  statics := none
  mirror := none

def pool0 : Array CpInfo := pool [(5, u "<init>"), (0, u "()V"), (1, .class_ 10), (1, u "java/lang/Object")] 113

def k0c0 : Code := { maxStack := 0, maxLocals := 1, code := object_method_1_code, exceptionTable := #[], attributes := #[] }
def k0m0 : Method := { name := "<init>", desc := "()V", sig := { parameters := [], returnType := none }, accessFlags := 1, code := some k0c0 }
/-- java/lang/Object -/
def k0 : Class := { plain "java/lang/Object" none with
  accessFlags := 33
  interfaces := #[]
  cf := some (fileOf pool0 8 #[] #[{ accessFlags := 1, nameIndex := 5, descriptorIndex := 6, attributes := #[] }] 33 0 #[] #[])
  fields := #[]
  methods := #[k0m0]
  instanceTypes := #[]
  staticTypes := #[]
  resolved := Array.replicate 124 none
  statics := none }

def pool1 : Array CpInfo := pool [(2, .class_ 4), (1, u "java/lang/Object"), (0, u "<init>"), (0, u "()V"), (0, .class_ 8), (0, u "org/pulsewarp/geometry/Vector"), (0, .methodref 7 10), (0, .nameAndType 5 11), (0, u "(DDD)V"), (0, .methodref 7 13), (0, .nameAndType 14 15), (0, u "dot"), (0, u "(Lorg/pulsewarp/geometry/Vector;)D"), (0, .class_ 17), (0, u "org/pulsewarp/geometry/VectorDotPinLaw"), (2, u "law"), (0, u "(IIIIII)Z")] 3

def k1m0 : Method := { name := "<init>", desc := "()V", sig := { parameters := [], returnType := none }, accessFlags := 2, code := none }
def k1c1 : Code := { maxStack := 8, maxLocals := 22, code := code, exceptionTable := #[], attributes := #[] }
def k1m1 : Method := { name := "law", desc := "(IIIIII)Z", sig := { parameters := [.int, .int, .int, .int, .int, .int], returnType := some .boolean }, accessFlags := 9, code := some k1c1 }
/-- org/pulsewarp/geometry/VectorDotPinLaw -/
def k1 : Class := { plain "org/pulsewarp/geometry/VectorDotPinLaw" (some 0) with
  accessFlags := 49
  interfaces := #[]
  cf := some (fileOf pool1 16 #[] #[{ accessFlags := 2, nameIndex := 5, descriptorIndex := 6, attributes := #[] }, { accessFlags := 9, nameIndex := 20, descriptorIndex := 21, attributes := #[] }] 49 2 #[] #[])
  fields := #[]
  methods := #[k1m0, k1m1]
  instanceTypes := #[]
  staticTypes := #[]
  resolved := Array.replicate 25 none
  statics := none }

def pool2 : Array CpInfo := pool [(1, .methodref 2 3), (0, .class_ 4), (0, .nameAndType 5 6), (0, u "java/lang/Object"), (0, u "<init>"), (0, u "()V"), (0, .class_ 8), (0, u "java/lang/Record")] 13

def k2c0 : Code := { maxStack := 1, maxLocals := 1, code := jdk_30_method_1_code, exceptionTable := #[], attributes := #[] }
def k2m0 : Method := { name := "<init>", desc := "()V", sig := { parameters := [], returnType := none }, accessFlags := 4, code := some k2c0 }
/-- java/lang/Record -/
def k2 : Class := { plain "java/lang/Record" (some 0) with
  accessFlags := 1057
  interfaces := #[]
  cf := some (fileOf pool2 7 #[] #[{ accessFlags := 4, nameIndex := 5, descriptorIndex := 6, attributes := #[] }] 1057 2 #[] #[])
  fields := #[]
  methods := #[k2m0]
  instanceTypes := #[]
  staticTypes := #[]
  resolved := Array.replicate 22 none
  statics := none }

def pool3 : Array CpInfo := pool [(1, .methodref 2 3), (0, .class_ 4), (0, .nameAndType 5 6), (0, u "java/lang/Record"), (0, u "<init>"), (0, u "()V"), (0, .fieldref 8 9), (0, .class_ 10), (0, .nameAndType 11 12), (0, u "org/pulsewarp/geometry/Vector"), (0, u "x"), (0, u "D"), (0, .fieldref 8 14), (0, .nameAndType 15 12), (0, u "y"), (0, .fieldref 8 17), (0, .nameAndType 18 12), (0, u "z"), (2, u "(DDD)V"), (2, u "dot"), (0, u "(Lorg/pulsewarp/geometry/Vector;)D")] 102

def k3c0 : Code := { maxStack := 3, maxLocals := 7, code := prog_94_method_1_code, exceptionTable := #[], attributes := #[] }
def k3m0 : Method := { name := "<init>", desc := "(DDD)V", sig := { parameters := [.double, .double, .double], returnType := none }, accessFlags := 1, code := some k3c0 }
def k3c1 : Code := { maxStack := 6, maxLocals := 2, code := prog_94_method_6_code, exceptionTable := #[], attributes := #[] }
def k3m1 : Method := { name := "dot", desc := "(Lorg/pulsewarp/geometry/Vector;)D", sig := { parameters := [(.object "org/pulsewarp/geometry/Vector")], returnType := some .double }, accessFlags := 1, code := some k3c1 }
/-- org/pulsewarp/geometry/Vector -/
def k3 : Class := { plain "org/pulsewarp/geometry/Vector" (some 2) with
  accessFlags := 49
  interfaces := #[]
  cf := some (fileOf pool3 8 #[] #[{ accessFlags := 1, nameIndex := 5, descriptorIndex := 21, attributes := #[] }, { accessFlags := 1, nameIndex := 24, descriptorIndex := 25, attributes := #[] }] 49 2 #[] #[{ accessFlags := 18, nameIndex := 11, descriptorIndex := 12, attributes := #[] }, { accessFlags := 18, nameIndex := 15, descriptorIndex := 12, attributes := #[] }, { accessFlags := 18, nameIndex := 18, descriptorIndex := 12, attributes := #[] }])
  fields := #[{ name := "x", type := .double, accessFlags := 18, slot := 0, constantValue := 0 }, { name := "y", type := .double, accessFlags := 18, slot := 1, constantValue := 0 }, { name := "z", type := .double, accessFlags := 18, slot := 2, constantValue := 0 }]
  methods := #[k3m0, k3m1]
  instanceTypes := #[.double, .double, .double]
  staticTypes := #[]
  resolved := Array.replicate 128 none
  statics := none }

def pool4 : Array CpInfo := pool [(1, u "java/lang/Cloneable"), (0, .class_ 1), (0, u "java/lang/Object"), (0, .class_ 3)] 3

/-- java/lang/Cloneable -/
def k4 : Class := { plain "java/lang/Cloneable" (some 0) with
  accessFlags := 1537
  interfaces := #[]
  cf := some (fileOf pool4 2 #[] #[] 1537 4 #[] #[])
  fields := #[]
  methods := #[]
  instanceTypes := #[]
  staticTypes := #[]
  resolved := Array.replicate 8 none
  statics := none }

def pool5 : Array CpInfo := pool [(1, u "java/io/Serializable"), (0, .class_ 1), (0, u "java/lang/Object"), (0, .class_ 3)] 3

/-- java/io/Serializable -/
def k5 : Class := { plain "java/io/Serializable" (some 0) with
  accessFlags := 1537
  interfaces := #[]
  cf := some (fileOf pool5 2 #[] #[] 1537 4 #[] #[])
  fields := #[]
  methods := #[]
  instanceTypes := #[]
  staticTypes := #[]
  resolved := Array.replicate 8 none
  statics := none }

/-- the primitive byte -/
def k6 : Class := { plain "byte" none with kind := .primitive 'B', accessFlags := 0x411 }
/-- [B -/
def k7 : Class := { plain "[B" (some 0) with kind := .array 6 .byte, interfaces := #[4, 5], accessFlags := 1041 }

/-- the primitive int -/
def k8 : Class := { plain "int" none with kind := .primitive 'I', accessFlags := 0x411 }
/-- [I -/
def k9 : Class := { plain "[I" (some 0) with kind := .array 8 .int, interfaces := #[4, 5], accessFlags := 1041 }

def heap : Heap := #[]
def classes : Array Class := #[k0, k1, k2, k3, k4, k5, k6, k7, k8, k9]
def interned : List (Array UInt16 × Addr) := []
def slotsUsed : Nat := 0
def theMethod : MethodId := ⟨1, 1⟩
def args0 : Array Value := #[.int 5, .int 7, .int 9, .int 11, .int 100000, .int 70000]
def aboutOver (below : List Frame) : State where
  vm := { classes := classes, interned := interned.toArray }
  heap := heap
  slotsUsed := slotsUsed
  threads := #[{ frames := .invoking theMethod args0 :: below }]
def below0 : List Frame := [.native { method := ⟨0, 0⟩, args := #[] }]
def about1 : State := aboutOver below0
def p0 : Program := .bare "" "" ""
def e0 : Env := launch0.env 0 0 0
theorem w_frames : about1.frames = Frame.invoking theMethod args0 :: below0 := rfl
set_option maxRecDepth 65536 in
theorem w_args : argsFit about1.vm theMethod args0 = true := by decide +kernel
set_option maxRecDepth 65536 in
theorem w_heap : heapFits about1 = true := by decide +kernel
set_option maxRecDepth 65536 in
theorem w_runnable : about1.curStatus? = some .runnable := by decide +kernel
set_option maxRecDepth 65536 in
theorem w_alone : about1.alone = true := by decide +kernel
set_option maxRecDepth 65536 in
theorem w_named : about1.methodNamed? x = some theMethod := by decide +kernel
set_option maxRecDepth 65536 in
theorem w_hears : about1.hears theMethod below0 = true := by decide +kernel
set_option maxRecDepth 65536 in
theorem w_ripe : about1.ripe theMethod args0 below0 = true := by decide +kernel
theorem w_running : about1.status = .running := rfl
set_option maxRecDepth 65536 in
theorem w_room : about1.hasRoom e0.platform room_1 = true :=
  launch0.hasRoom_least _ room_1 (by decide +kernel) (by decide +kernel) (by decide +kernel) (by decide +kernel) (by decide +kernel) (by decide +kernel)
theorem allAtoms_all (ts : List Jvm.Cond) (a : Array Jvm.Value) (st : Jvm.State) : (allAtoms ts).before a st = ts.all (fun c => c.before a st) := by
  induction ts with
  | nil => rfl
  | cons c t ih =>
    show (Jvm.Cond.and c (allAtoms t)).before a st = _
    rw [Jvm.Cond.before_and, ih, List.all_cons]
def words1 : List Jvm.Cond := Jvm.Cond.code x code maxLocals ret :: tables_1
/-- a 'code' word, met by the world's own term for the bytes: nothing is compared byte by byte -/
theorem code_word {y : MethodName} {bytes : ByteArray} {mx : Nat} {rt : Option FieldType} {a : Array Value} {s : State} {m : MethodId} {meth : Method} {c : Code} (h1 : s.methodNamed? y = some m) (h2 : s.vm.method? m = some meth) (h3 : meth.code = some c) (h4 : c.code = bytes)
    (h5 : (c.maxLocals == mx && c.exceptionTable.isEmpty && decide (c.maxStack ≤ mostOperands) && decide (meth.sig.returnType = rt) && !meth.locks && decide (parseMethodDescriptor y.desc = some meth.sig)) = true) : (Jvm.Cond.code y bytes mx rt).before a s = true := by
  simp only [Bool.and_eq_true, beq_iff_eq, Bool.not_eq_true', decide_eq_true_eq] at h5
  obtain ⟨⟨⟨⟨⟨g1, g2⟩, g3⟩, g4⟩, g5⟩, g6⟩ := h5
  simp [Cond.before, Cond.holds, Cond.value, h1, h2, h3, h4, g1, g2, g3, g4, g5, g6]
def isCode : Jvm.Cond → Bool
  | .code _ _ _ _ => true
  | _ => false
theorem all_split {L : List Jvm.Cond} {P : Jvm.Cond → Bool} (h1 : L.all (fun c => isCode c || P c) = true) (h2 : ∀ c ∈ L.filter isCode, P c = true) : L.all P = true := by
  refine List.all_eq_true.mpr fun c hc => ?_
  have h := List.all_eq_true.mp h1 c hc
  rcases Bool.eq_false_or_eq_true (isCode c) with hi | hi
  · exact h2 c (List.mem_filter.mpr ⟨hc, hi⟩)
  · simpa [hi] using h
set_option maxRecDepth 65536 in
theorem w_c0 : (Jvm.Cond.code x code maxLocals ret).before args0 about1 = true := code_word (m := ⟨1, 1⟩) (meth := k1m1) (c := k1c1) (by decide +kernel) rfl rfl rfl (by decide +kernel)
set_option maxRecDepth 65536 in
theorem w_c1 : (Jvm.Cond.code ({ cls := "org/pulsewarp/geometry/Vector", name := "<init>", desc := "(DDD)V" } : Jvm.MethodName) prog_94_method_1_code (7 : Nat) (Option.none : Option Jvm.ClassFile.FieldType)).before args0 about1 = true := code_word (m := ⟨3, 0⟩) (meth := k3m0) (c := k3c0) (by decide +kernel) rfl rfl rfl (by decide +kernel)
set_option maxRecDepth 65536 in
theorem w_c2 : (Jvm.Cond.code ({ cls := "java/lang/Record", name := "<init>", desc := "()V" } : Jvm.MethodName) jdk_30_method_1_code (1 : Nat) (Option.none : Option Jvm.ClassFile.FieldType)).before args0 about1 = true := code_word (m := ⟨2, 0⟩) (meth := k2m0) (c := k2c0) (by decide +kernel) rfl rfl rfl (by decide +kernel)
set_option maxRecDepth 65536 in
theorem w_c3 : (Jvm.Cond.code ({ cls := "java/lang/Object", name := "<init>", desc := "()V" } : Jvm.MethodName) object_method_1_code (1 : Nat) (Option.none : Option Jvm.ClassFile.FieldType)).before args0 about1 = true := code_word (m := ⟨0, 0⟩) (meth := k0m0) (c := k0c0) (by decide +kernel) rfl rfl rfl (by decide +kernel)
set_option maxRecDepth 65536 in
theorem w_c4 : (Jvm.Cond.code ({ cls := "org/pulsewarp/geometry/Vector", name := "dot", desc := "(Lorg/pulsewarp/geometry/Vector;)D" } : Jvm.MethodName) prog_94_method_6_code (2 : Nat) (Option.some Jvm.ClassFile.FieldType.double)).before args0 about1 = true := code_word (m := ⟨3, 1⟩) (meth := k3m1) (c := k3c1) (by decide +kernel) rfl rfl rfl (by decide +kernel)
def codes1 : List Jvm.Cond := [Jvm.Cond.code x code maxLocals ret, Jvm.Cond.code ({ cls := "org/pulsewarp/geometry/Vector", name := "<init>", desc := "(DDD)V" } : Jvm.MethodName) prog_94_method_1_code (7 : Nat) (Option.none : Option Jvm.ClassFile.FieldType), Jvm.Cond.code ({ cls := "java/lang/Record", name := "<init>", desc := "()V" } : Jvm.MethodName) jdk_30_method_1_code (1 : Nat) (Option.none : Option Jvm.ClassFile.FieldType), Jvm.Cond.code ({ cls := "java/lang/Object", name := "<init>", desc := "()V" } : Jvm.MethodName) object_method_1_code (1 : Nat) (Option.none : Option Jvm.ClassFile.FieldType), Jvm.Cond.code ({ cls := "org/pulsewarp/geometry/Vector", name := "dot", desc := "(Lorg/pulsewarp/geometry/Vector;)D" } : Jvm.MethodName) prog_94_method_6_code (2 : Nat) (Option.some Jvm.ClassFile.FieldType.double)]
set_option maxRecDepth 65536 in
theorem codes_eq : words1.filter isCode = codes1 := rfl
theorem w_codes : ∀ c ∈ words1.filter isCode, c.before args0 about1 = true := by
  rw [codes_eq]
  intro c hc
  simp only [codes1, List.mem_cons, List.not_mem_nil, or_false] at hc
  rcases hc with rfl | rfl | rfl | rfl | rfl
  · exact w_c0
  · exact w_c1
  · exact w_c2
  · exact w_c3
  · exact w_c4
set_option maxRecDepth 65536 in
theorem w_t1 : (words1.take 24).all (fun c => isCode c || c.before args0 about1) = true := by decide +kernel
set_option maxRecDepth 65536 in
theorem w_t2 : (words1.drop 24).all (fun c => isCode c || c.before args0 about1) = true := by decide +kernel
theorem w_tables : (allAtoms (Jvm.Cond.code x code maxLocals ret :: tables_1)).before args0 about1 = true := by
  rw [allAtoms_all]
  show words1.all (fun c => c.before args0 about1) = true
  refine all_split ?_ w_codes
  rw [← List.take_append_drop 24 words1, List.all_append, w_t1, w_t2]
  rfl
set_option maxRecDepth 65536 in
theorem w_case : (Jvm.Cond.and given_1 narrow_1).before args0 about1 = true := by decide +kernel
theorem w_applies : (headSpec (Jvm.Cond.code x code maxLocals ret :: tables_1) room_1).applies x e0.platform about1 = true :=
  (Spec.applies_iff w_frames).mpr ⟨w_running, w_runnable, w_alone, w_named, w_hears, w_ripe, w_room, w_tables⟩
theorem atStart : AtStart classFile x code maxLocals ret World_1 tables_1 room_1 Calls_1 rest_1 Pre_1 launch0 p0 e0 about1 theMethod args0 below0 :=
  ⟨lists_1, trivial, launch0.admits_env _ _ _, launch0.least_env, fairChoices_fair.cas, fairChoices_fair.clock, w_frames, w_args, w_heap, w_applies, trivial, trivial, w_case⟩
end start1
theorem witness_1 : WitnessClaimed_1 := ⟨start1.p0, start1.e0, start1.about1, start1.theMethod, start1.args0, start1.below0, start1.atStart⟩
end Jvm.Pilot.@@N@@
