import JvmDerived
import JvmDerived.Pilot.@@N@@Statement
import JvmDerived.Pilot.@@N@@Code
set_option linter.unusedVariables false
set_option linter.unusedSimpArgs false
@@BLOCK:NumsL.lean.txt@@
namespace Jvm.RoadKit
open Sem ClassFile Op Lib Jvm.Stand Jvm.Free Jvm.LawKit
section Go
variable {p : Program} {l : Launch} {e : Env} {R : Room} {s : State} {m : MethodId} {args : Array Value} {below : List Frame} {meth : Method} {c : Code} {T : State} {locs : List Loc} {cells slots : Nat} {Z : State} {a0 : Array Value} {h : Heap}
/-- the run from U comes to its return, and leaves what Qv says -/
def Go (p : Program) (e : Env) (below : List Frame) (s : State) (R : Room) (Qv : Option Value → Heap → List Loc → Prop) (U : State) : Prop :=
  ∃ s₂ o, Steps p.tables e below U s₂ ∧ s₂.status = .running ∧ Ended s₂ below o ∧ ∃ v L, o = .returned v ∧ Qv v s₂.heap L ∧ FrameEnd s o s₂ L R.cells R.slots
variable {Qv : Option Value → Heap → List Loc → Prop} {U V : State}
theorem Go.st (h : ∀ t, Steps p.tables e below U t → Steps p.tables e below V t) (k : Go p e below s R Qv U) : Go p e below s R Qv V := by
  obtain ⟨t, o, h1, r⟩ := k
  exact ⟨t, o, h t h1, r⟩
theorem Go.ret (X : Stand p l e R s m args below meth c T locs cells slots) (hlk : meth.locks = false) {v : Option Value} (hv : meth.sig.returnType = none → v = none) (hc : cells ≤ R.cells) (hs : slots ≤ R.slots) (hq : Qv v T.heap locs)
    (st : ∀ fs, (∀ (f : JFrame) (acts : List Action), f.method = m → f.locked = none → f.entered = [] → (doReturn e (T.setTop f) acts v).1 = T.setFrames fs) → Steps p.tables e below V (T.setFrames fs)) : Go p e below s R Qv V := by
  obtain ⟨fs, hr, hrun, hended, hW, hsame⟩ := X.leave (v := v) hv hlk
  exact ⟨_, _, st fs hr, hrun, hended, _, _, rfl, hq, ⟨_, rfl⟩, hW, hsame.mono hc hs⟩
theorem Go.retD (X : Stand p l e R s m args below meth c T locs cells slots) (hx : p.tables.exec = Jvm.exec) (hlk : meth.locks = false) (hret : meth.sig.returnType = some .double) {pc : Nat} {Ls : Array Slot} {z : UInt64} {rest : List Value} (hd : decode c.code pc = .ok (.dreturn, 1)) (hc : cells ≤ R.cells) (hs : slots ≤ R.slots)
    (hq : Qv (some (.double z)) T.heap locs) : Go p e below s R Qv (T.setTop (mkF m pc Ls (.double z :: rest))) :=
  Go.ret X hlk (v := some (.double z)) (fun q => by rw [hret] at q; cases q) hc hs hq fun fs hr => retOut X hx hret rfl (Or.inr (Or.inr (Or.inl ⟨rfl, rfl, _, rfl⟩))) hd hr
theorem Go.retJ (X : Stand p l e R s m args below meth c T locs cells slots) (hx : p.tables.exec = Jvm.exec) (hlk : meth.locks = false) (hret : meth.sig.returnType = some .long) {pc : Nat} {Ls : Array Slot} {z : Int64} {rest : List Value} (hd : decode c.code pc = .ok (.lreturn, 1)) (hc : cells ≤ R.cells) (hs : slots ≤ R.slots)
    (hq : Qv (some (.long z)) T.heap locs) : Go p e below s R Qv (T.setTop (mkF m pc Ls (.long z :: rest))) :=
  Go.ret X hlk (v := some (.long z)) (fun q => by rw [hret] at q; cases q) hc hs hq fun fs hr => retOut X hx hret rfl (Or.inr (Or.inl ⟨rfl, rfl, _, rfl⟩)) hd hr
theorem Go.retI (X : Stand p l e R s m args below meth c T locs cells slots) (hx : p.tables.exec = Jvm.exec) (hlk : meth.locks = false) (hret : meth.sig.returnType = some .int) {pc : Nat} {Ls : Array Slot} {z : Int32} {rest : List Value} (hd : decode c.code pc = .ok (.ireturn, 1)) (hc : cells ≤ R.cells) (hs : slots ≤ R.slots)
    (hq : Qv (some (.int z)) T.heap locs) : Go p e below s R Qv (T.setTop (mkF m pc Ls (.int z :: rest))) :=
  Go.ret X hlk (v := some (.int z)) (fun q => by rw [hret] at q; cases q) hc hs hq fun fs hr => retOut X hx hret rfl (Or.inl ⟨rfl, Or.inl rfl, _, rfl⟩) hd hr
theorem Go.retZ (X : Stand p l e R s m args below meth c T locs cells slots) (hx : p.tables.exec = Jvm.exec) (hlk : meth.locks = false) (hret : meth.sig.returnType = some .boolean) {pc : Nat} {Ls : Array Slot} {z : Int32} {rest : List Value} (hd : decode c.code pc = .ok (.ireturn, 1)) (hc : cells ≤ R.cells) (hs : slots ≤ R.slots)
    (hq : Qv (some (.int (nar .boolean z))) T.heap locs) : Go p e below s R Qv (T.setTop (mkF m pc Ls (.int z :: rest))) :=
  Go.ret X hlk (v := some (.int (nar .boolean z))) (fun q => by rw [hret] at q; cases q) hc hs hq fun fs hr => retN X hx hret (Or.inl rfl) hd hr
theorem Go.retV (X : Stand p l e R s m args below meth c T locs cells slots) (hx : p.tables.exec = Jvm.exec) (hlk : meth.locks = false) (hret : meth.sig.returnType = none) {pc : Nat} {Ls : Array Slot} {st : List Value} (hd : decode c.code pc = .ok (.return_, 1)) (hc : cells ≤ R.cells) (hs : slots ≤ R.slots)
    (hq : Qv none T.heap locs) : Go p e below s R Qv (T.setTop (mkF m pc Ls [])) :=
  Go.ret X hlk (v := none) (fun _ => rfl) hc hs hq fun fs hr => X.returnOut hx hret hd hr
theorem Go.callS (X : Stand p l e R s m args below meth c T locs cells slots) (hx : p.tables.exec = Jvm.exec) (hZ : Z.Warmed39 s.vm) {own : String} {index : Nat} {y : MethodName} {bytes : ByteArray} {maxL : Nat} {ret : Option FieldType} (hown : s.vm.findClass own = some m.cls)
    (w1 : (Cond.methodLink own index y).before a0 Z = true) (w2 : (Cond.static y).before a0 Z = true) (w3 : (Cond.initialized y.cls).before a0 Z = true) (w4 : (Cond.code y bytes maxL ret).before a0 Z = true) (hy : y.cls ≠ "java/lang/invoke/MethodHandle" ∧ y.cls ≠ "java/lang/invoke/VarHandle")
    {rm : Room} {as' : Array Value} {Q : Option Value → Heap → List Loc → Prop}
    (hM : MetFree l y (head1 [Cond.code y bytes maxL ret] rm) (fun a U => a = as' ∧ Z.Warmed39 U.vm ∧ U.heap = h) (fun _ _ _ _ _ => True) (fun _ U o U' => ∃ v L, o = .returned v ∧ Q v U'.heap L ∧ FrameEnd U o U' L rm.cells rm.slots))
    (eT : T.heap = h) (W : Nat) (hf : rm.frames + 1 ≤ R.frames) (hl : W + (maxL + 11) + rm.locals ≤ R.locals) {g : JFrame} (hg : g.method = m) (hsize : g.locals.size = c.maxLocals) (argsL rest : List Value) (ha : as' = argsL.toArray)
    (hlen : ∀ sig, parseMethodDescriptor y.desc = some sig → argsL.length = sig.parameters.length) (hst : g.stack = argsL.reverse ++ rest) (hW : 2 * g.monitorRoom + (rest.map fun v => v.category).sum ≤ W) (hd : decode c.code g.pc = .ok (.invokestatic index, 3)) (hc : cells + rm.cells ≤ R.cells) (hs : slots + rm.slots ≤ R.slots)
    (k : ∀ v T' L, Q v T'.heap L → Stand p l e R s m args below meth c T' (locs ++ L) (cells + rm.cells) (slots + rm.slots) → Go p e below s R Qv (T'.setTop { g with pc := g.pc + 3, stack := v.toList ++ rest })) : Go p e below s R Qv (T.setTop g) := by
  subst ha
  obtain ⟨v, vm1, ⟨T', L', c', n'⟩, -, X', ⟨L, hQ, l1, y1, z1⟩, st⟩ := Jvm.LawKit.callS X hx hown (mvT hZ w1) (mvT hZ w2) (mvT hZ w3) (mvT hZ w4) hy (backOf (W := W) hM hZ w4 w3 hf hl) hg hsize (argsL := argsL) (rest := rest) hlen hst hW hd (fun _ _ => ⟨rfl, eT, hc, hs⟩)
  dsimp only [Pt.U, Pt.locs, Pt.cells, Pt.slots] at X' l1 y1 z1 st hQ
  subst l1 y1 z1
  exact Go.st st (k v T' L hQ X')
theorem Go.callI (X : Stand p l e R s m args below meth c T locs cells slots) (hx : p.tables.exec = Jvm.exec) (hZ : Z.Warmed39 s.vm) {own : String} {index : Nat} {y : MethodName} {bytes : ByteArray} {maxL : Nat} (hown : s.vm.findClass own = some m.cls) (hy1 : y.name = "<init>")
    (w1 : (Cond.methodLink own index y).before a0 Z = true) (w2 : (Cond.instanceMethod y).before a0 Z = true) (w3 : (Cond.initialized y.cls).before a0 Z = true) (w4 : (Cond.code y bytes maxL none).before a0 Z = true) (hy : y.cls ≠ "java/lang/invoke/MethodHandle" ∧ y.cls ≠ "java/lang/invoke/VarHandle")
    {rm : Room} {as' : Array Value} {Q : Option Value → Heap → List Loc → Prop}
    (hM : MetFree l y (head1 [Cond.code y bytes maxL none] rm) (fun a U => a = as' ∧ Z.Warmed39 U.vm ∧ U.heap = h) (fun _ _ _ _ _ => True) (fun _ U o U' => ∃ v L, o = .returned v ∧ Q v U'.heap L ∧ FrameEnd U o U' L rm.cells rm.slots))
    (eT : T.heap = h) (W : Nat) (hf : rm.frames + 1 ≤ R.frames) (hl : W + (maxL + 11) + rm.locals ≤ R.locals) {g : JFrame} (hg : g.method = m) (hsize : g.locals.size = c.maxLocals) (a : Addr) (argsL rest : List Value) (ha : as' = (.ref a :: argsL).toArray)
    (hlen : ∀ sig, parseMethodDescriptor y.desc = some sig → argsL.length = sig.parameters.length) (hst : g.stack = argsL.reverse ++ .ref a :: rest) (hW : 2 * g.monitorRoom + (rest.map fun v => v.category).sum ≤ W) (hd : decode c.code g.pc = .ok (.invokespecial index, 3)) (hc : cells + rm.cells ≤ R.cells) (hs : slots + rm.slots ≤ R.slots)
    (k : ∀ v T' L, Q v T'.heap L → Stand p l e R s m args below meth c T' (locs ++ L) (cells + rm.cells) (slots + rm.slots) → Go p e below s R Qv (T'.setTop { g with pc := g.pc + 3, stack := v.toList ++ rest })) : Go p e below s R Qv (T.setTop g) := by
  subst ha
  obtain ⟨v, vm1, ⟨T', L', c', n'⟩, -, X', ⟨L, hQ, l1, y1, z1⟩, st⟩ := X.specialBack hx hy1 hown (mvT hZ w1) (mvT hZ w2) (mvT hZ w4) hy (backOf (W := W) hM hZ w4 w3 hf hl) hg hsize (Steps.refl _) (a := a) (argsL := argsL) (rest := rest) hlen hst hW hd (fun _ _ => ⟨rfl, eT, hc, hs⟩)
  dsimp only [Pt.U, Pt.locs, Pt.cells, Pt.slots] at X' l1 y1 z1 st hQ
  subst l1 y1 z1
  exact Go.st (fun t k => st.trans k) (k v T' L hQ X')
theorem Go.callV (X : Stand p l e R s m args below meth c T locs cells slots) (hx : p.tables.exec = Jvm.exec) (hZ : Z.Warmed39 s.vm) {own C : String} {index : Nat} {y : MethodName} {bytes : ByteArray} {maxL : Nat} {ret : Option FieldType} (hown : s.vm.findClass own = some m.cls)
    (w1 : (Cond.methodLink own index y).before a0 Z = true) (w2 : (Cond.declares y).before a0 Z = true) (w5 : (Cond.selects C y y).before a0 Z = true) (w6 : (Cond.instanceMethod y).before a0 Z = true) (w3 : (Cond.initialized y.cls).before a0 Z = true) (w4 : (Cond.code y bytes maxL ret).before a0 Z = true) (hy : y.cls ≠ "java/lang/invoke/MethodHandle" ∧ y.cls ≠ "java/lang/invoke/VarHandle")
    {rm : Room} {as' : Array Value} {Q : Option Value → Heap → List Loc → Prop}
    (hM : MetFree l y (head1 [Cond.code y bytes maxL ret] rm) (fun a U => a = as' ∧ Z.Warmed39 U.vm ∧ U.heap = h) (fun _ _ _ _ _ => True) (fun _ U o U' => ∃ v L, o = .returned v ∧ Q v U'.heap L ∧ FrameEnd U o U' L rm.cells rm.slots))
    (eT : T.heap = h) (a : Addr) (E : Exa Z h a C) (W : Nat) (hf : rm.frames + 1 ≤ R.frames) (hl : W + (maxL + 11) + rm.locals ≤ R.locals) {g : JFrame} (hg : g.method = m) (hsize : g.locals.size = c.maxLocals) (argsL rest : List Value) (ha : as' = (.ref a :: argsL).toArray)
    (hlen : ∀ sig, parseMethodDescriptor y.desc = some sig → argsL.length = sig.parameters.length) (hst : g.stack = argsL.reverse ++ .ref a :: rest) (hW : 2 * g.monitorRoom + (rest.map fun v => v.category).sum ≤ W) (hd : decode c.code g.pc = .ok (.invokevirtual index, 3)) (hc : cells + rm.cells ≤ R.cells) (hs : slots + rm.slots ≤ R.slots)
    (k : ∀ v T' L, Q v T'.heap L → Stand p l e R s m args below meth c T' (locs ++ L) (cells + rm.cells) (slots + rm.slots) → Go p e below s R Qv (T'.setTop { g with pc := g.pc + 3, stack := v.toList ++ rest })) : Go p e below s R Qv (T.setTop g) := by
  subst ha
  obtain ⟨cB, kB, q1, q2, q3⟩ := isOf hZ eT E
  obtain ⟨v, vm1, ⟨T', L', c', n'⟩, -, X', ⟨L, hQ, l1, y1, z1⟩, st⟩ := X.virtualBack hx hown (mvT hZ w1) (mvT hZ w2) (notFace_of_selects (args := #[]) (mvT hZ w5)) (mvT hZ w5) (mvT hZ w6) hy (backOf (W := W) hM hZ w4 w3 hf hl) q1 q3 hg hsize (Steps.refl _) (argsL := argsL) (rest := rest) hlen hst hW hd (fun _ _ => ⟨rfl, eT, hc, hs⟩)
  dsimp only [Pt.U, Pt.locs, Pt.cells, Pt.slots] at X' l1 y1 z1 st hQ
  subst l1 y1 z1
  exact Go.st (fun t k => st.trans k) (k v T' L hQ X')
/-- a body's contract, by its walk -/
theorem Go.met {y : MethodName} {bytes : ByteArray} {maxL : Nat} {ret : Option FieldType} {ws : List Cond} {rm : Room} {as' : Array Value} {Q : Option Value → Heap → List Loc → Prop} (hn : plainFor y = true)
    (body : ∀ (p : Program) (e : Env) (s : State) (m : MethodId) (below : List Frame) (meth : Method) (c : Code) (s₁ : State), p.tables.exec = Jvm.exec → c.code = bytes → c.maxLocals = maxL → s.vm.findClass y.cls = some m.cls → meth.name = y.name → meth.sig.returnType = ret → meth.locks = false → Z.Warmed39 s.vm → s₁.heap = h →
      Stand p l e rm s m as' below meth c s₁ [] 0 0 → Go p e below s rm Q (s₁.setTop (entryFrame m as' maxL))) :
    MetFree l y (head1 (Cond.code y bytes maxL ret :: ws) rm) (fun a U => a = as' ∧ Z.Warmed39 U.vm ∧ U.heap = h) (fun _ _ _ _ _ => True) (fun _ U o U' => ∃ v L, o = .returned v ∧ Q v U'.heap L ∧ FrameEnd U o U' L rm.cells rm.slots) := by
  refine MetFree.of_bodySF hn hisR ?_
  intro p e s m args below meth c s₁ Bd hml hP hK
  obtain ⟨rfl, hZ, hh⟩ := hP
  exact body p e s m below meth c s₁ Bd.exec Bd.bytes hml (findClass_of_methodNamed Bd.named) (name_of_methodNamed Bd.named Bd.method).1 Bd.returns Bd.notSynchronized hZ (by rw [← hh, Bd.state]; rfl) (Stand.of_body Bd)
theorem Keep.size_le {h0 h : Heap} {ws : List Addr} (K : Keep h0 h ws) : h0.size ≤ h.size := K.1
theorem Go.cast {g g' : JFrame} (q : g = g') (k : Go p e below s R Qv (T.setTop g')) : Go p e below s R Qv (T.setTop g) := q ▸ k
end Go
end Jvm.RoadKit
namespace Jvm.RoadKit
open Sem ClassFile Op Lib Jvm.Stand Jvm.Free Jvm.LawKit
section GoArr
variable {p : Program} {l : Launch} {e : Env} {R : Room} {s : State} {m : MethodId} {args : Array Value} {below : List Frame} {meth : Method} {c : Code} {T : State} {locs : List Loc} {cells slots : Nat} {Z : State} {a0 : Array Value} {h : Heap} {Qv : Option Value → Heap → List Loc → Prop} {a : Addr} {k : ClassId} {ty : FieldType} {z j : Int32} {vs : List Value} {dv v : Value}
/-- an array's length -/
theorem Go.alen (X : Stand p l e R s m args below meth c T locs cells slots) (hx : p.tables.exec = Jvm.exec) (hZ : Z.Warmed39 s.vm) (eT : T.heap = h) (F : Arv Z h a k ty z vs dv) {g : JFrame} (hg : g.method = m) {rest : List Value} (hs : g.stack = .ref a :: rest) (hd : decode c.code g.pc = .ok (.arraylength, 1))
    (kk : Go p e below s R Qv (T.setTop { g with pc := g.pc + 1, stack := .int z :: rest })) : Go p e below s R Qv (T.setTop g) := by
  obtain ⟨cl, A, q1, S, q3, H, G⟩ := F
  refine Go.st (fun t k => X.arraylength hx (cell := cl) (by rw [eT]; exact A.1) (State.isArrayOf_alike hZ.alike A.2.1) hg hs hd t k) ?_
  rw [len_of S q3]; exact kk
theorem Go.dald (X : Stand p l e R s m args below meth c T locs cells slots) (hx : p.tables.exec = Jvm.exec) (hZ : Z.Warmed39 s.vm) (eT : T.heap = h) (F : Arv Z h a k .double z vs dv) (q : ¬ j < 0 ∧ j < z) (hv : vs.getD j.toNatClampNeg dv = v) {g : JFrame} (hg : g.method = m) {rest : List Value} (hs : g.stack = .int j :: .ref a :: rest) (hd : decode c.code g.pc = .ok (.daload, 1))
    (kk : Go p e below s R Qv (T.setTop { g with pc := g.pc + 1, stack := v :: rest })) : Go p e below s R Qv (T.setTop g) := by
  obtain ⟨cl, A, q1, S, q3, H, G⟩ := F
  have hin := inb_of S q
  refine Go.st (fun t k => X.daload hx (cell := cl) (by rw [eT]; exact A.1) (State.isArrayOf_alike hZ.alike A.2.1) A.2.2 hin (by rw [H _ (Nat.lt_of_not_le fun r => hin (Or.inr r)), hv]) hg hs hd t k) ?_
  exact kk
theorem Go.iald (X : Stand p l e R s m args below meth c T locs cells slots) (hx : p.tables.exec = Jvm.exec) (hZ : Z.Warmed39 s.vm) (eT : T.heap = h) (F : Arv Z h a k .int z vs dv) (q : ¬ j < 0 ∧ j < z) (hv : vs.getD j.toNatClampNeg dv = v) {g : JFrame} (hg : g.method = m) {rest : List Value} (hs : g.stack = .int j :: .ref a :: rest) (hd : decode c.code g.pc = .ok (.iaload, 1))
    (kk : Go p e below s R Qv (T.setTop { g with pc := g.pc + 1, stack := v :: rest })) : Go p e below s R Qv (T.setTop g) := by
  obtain ⟨cl, A, q1, S, q3, H, G⟩ := F
  have hin := inb_of S q
  refine Go.st (fun t k => X.iaload hx (cell := cl) (by rw [eT]; exact A.1) (State.isArrayOf_alike hZ.alike A.2.1) A.2.2 hin (by rw [H _ (Nat.lt_of_not_le fun r => hin (Or.inr r)), hv]) hg hs hd t k) ?_
  exact kk
theorem Arv.skip (F : Arv Z h a k .int z vs dv) (q : ¬ j < z) (hj : j.toNatClampNeg = vs.length) (x : Int32) : Arv Z h a k .int z (vs ++ [.int x]) dv := by
  obtain ⟨cl, A, q1, S, q3, H, G⟩ := F
  have hl : cl.slots.size ≤ vs.length := by
    rw [S, ← hj]
    rw [Int32.lt_iff_toInt_lt] at q
    simp only [Int32.toNatClampNeg]; omega
  have e : ∀ i, i < cl.slots.size → (vs ++ [Value.int x]).getD i dv = vs.getD i dv := fun i hi => by
    simp only [List.getD_eq_getElem?_getD]; rw [List.getElem?_append_left (by omega)]
  exact ⟨cl, A, q1, S, q3, fun i hi => by rw [e i hi]; exact H i hi, fun i hi => by rw [e i hi]; exact G i hi⟩
theorem Go.iast {rest : List Value} {x : Int32} (X : Stand p l e R s m args below meth c T locs cells slots) (hx : p.tables.exec = Jvm.exec) (hZ : Z.Warmed39 s.vm) (eT : T.heap = h) (F : Arv Z h a k .int z vs dv) (q : ¬ j < 0 ∧ j < z) (hj : j.toNatClampNeg = vs.length) {g : JFrame} (hg : g.method = m) (hs : g.stack = .int x :: .int j :: .ref a :: rest) (hd : decode c.code g.pc = .ok (.iastore, 1))
    (kk : ∀ T' h', Stand p l e R s m args below meth c T' (locs ++ [⟨a, j.toNatClampNeg⟩]) cells slots → T'.heap = h' → Wr h h' a j.toNatClampNeg (.int x) → Arv Z h' a k .int z (vs ++ [.int x]) dv → Go p e below s R Qv (T'.setTop { g with pc := g.pc + 1, stack := rest })) : Go p e below s R Qv (T.setTop g) := by
  obtain ⟨cl, A, q1, S, q3, H, G⟩ := Arv.pad (vs' := vs ++ List.replicate 1 dv) F (pad_rep vs dv 1)
  obtain ⟨T', h', X', e', W, st⟩ := stI X hx hZ eT A (inb_of S q) hg hs hd
  have V := Arv.set A q1 S q3 H G (v := .int x) rfl W vs.length hj (by simp)
  rw [show (vs ++ List.replicate 1 dv).set vs.length (.int x) = vs ++ [.int x] from by simp] at V
  exact Go.st st (kk T' h' X' e' W V)
end GoArr
end Jvm.RoadKit
namespace Jvm.RoadKit
open Sem ClassFile Op Lib Jvm.Stand Jvm.Free Jvm.LawKit Jvm.Free.Hsc
section GoStr
variable {p : Program} {l : Launch} {e : Env} {R : Room} {s : State} {m : MethodId} {args : Array Value} {below : List Frame} {meth : Method} {c : Code} {T : State} {locs : List Loc} {cells slots : Nat} {Z : State} {a0 : Array Value} {h : Heap} {Qv : Option Value → Heap → List Loc → Prop} {a : Addr} {k : ClassId} {ty : FieldType} {z j : Int32} {vs : List Value} {dv v : Value}
theorem Go.cast_ {rest : List Value} {x : Int32} (X : Stand p l e R s m args below meth c T locs cells slots) (hx : p.tables.exec = Jvm.exec) (hZ : Z.Warmed39 s.vm) (eT : T.heap = h) (F : Arv Z h a k .char z vs dv) (q : ¬ j < 0 ∧ j < z) (hj : j.toNatClampNeg = vs.length) {g : JFrame} (hg : g.method = m) (hs : g.stack = .int x :: .int j :: .ref a :: rest) (hd : decode c.code g.pc = .ok (.castore, 1))
    (kk : ∀ T' h', Stand p l e R s m args below meth c T' (locs ++ [⟨a, j.toNatClampNeg⟩]) cells slots → T'.heap = h' → Wr h h' a j.toNatClampNeg (.int (nar .char x)) → Arv Z h' a k .char z (vs ++ [.int (nar .char x)]) dv → Go p e below s R Qv (T'.setTop { g with pc := g.pc + 1, stack := rest })) : Go p e below s R Qv (T.setTop g) := by
  obtain ⟨cl, A, q1, S, q3, H, G⟩ := Arv.pad (vs' := vs ++ List.replicate 1 dv) F (pad_rep vs dv 1)
  obtain ⟨T', h', X', e', W, st⟩ := stC X hx hZ eT A (inb_of S q) hg hs hd
  have V := Arv.set A q1 S q3 H G (v := .int (nar .char x)) (fits_nar_char _) W vs.length hj (by simp)
  rw [show (vs ++ List.replicate 1 dv).set vs.length (.int (nar .char x)) = vs ++ [.int (nar .char x)] from by simp] at V
  exact Go.st st (kk T' h' X' e' W V)
theorem Go.retA (X : Stand p l e R s m args below meth c T locs cells slots) (hx : p.tables.exec = Jvm.exec) (hlk : meth.locks = false) {C : String} (hret : meth.sig.returnType = some (.object C)) {pc : Nat} {Ls : Array Slot} {b : Addr} {rest : List Value} (hd : decode c.code pc = .ok (.areturn, 1)) (hc : cells ≤ R.cells) (hs : slots ≤ R.slots)
    (hq : Qv (some (.ref b)) T.heap locs) : Go p e below s R Qv (T.setTop (mkF m pc Ls (.ref b :: rest))) :=
  Go.ret X hlk (v := some (.ref b)) (fun q => by rw [hret] at q; cases q) hc hs hq fun fs hr => retOut X hx hret rfl (Or.inr (Or.inr (Or.inr (Or.inr ⟨rfl, rfl, rfl⟩)))) hd hr
/-- Math.round(double), by the library's own law -/
theorem Go.rnd (X : Stand p l e R s m args below meth c T locs cells slots) (hx : p.tables.exec = Jvm.exec) (hZ : Z.Warmed39 s.vm) {own : String} {index : Nat} {b1 : ByteArray} (hown : s.vm.findClass own = some m.cls)
    (w1 : (Cond.methodLink own index MRound.yN).before a0 Z = true) (w2 : (Cond.static MRound.yN).before a0 Z = true) (w3 : (Cond.initialized MA).before a0 Z = true) (w4 : (Cond.code MRound.yN b1 10 (some .long)).before a0 Z = true) (eb1 : b1 = MRound.yB)
    (u1 : (Cond.methodLink MA 79 doubleToRawLongBitsName).before a0 Z = true) (u2 : (Cond.native doubleToRawLongBitsName).before a0 Z = true) (u3 : (Cond.static doubleToRawLongBitsName).before a0 Z = true) (u4 : (Cond.initialized "java/lang/Double").before a0 Z = true)
    (k1 : (Cond.constantLong MA 87 9218868437227405312).before a0 Z = true) (k2 : (Cond.constantLong MA 89 1074).before a0 Z = true) (k3 : (Cond.constantLong MA 91 (-64)).before a0 Z = true) (k4 : (Cond.constantLong MA 93 4503599627370495).before a0 Z = true) (k5 : (Cond.constantLong MA 95 4503599627370496).before a0 Z = true)
    {v : UInt64} (eT : T.heap = h) (W : Nat) (hfr : 2 ≤ R.frames) (hlo : W + (10 + 11) + 40 ≤ R.locals) {g : JFrame} (hg : g.method = m) (hsize : g.locals.size = c.maxLocals) (rest : List Value) (hst : g.stack = .double v :: rest) (hW : 2 * g.monitorRoom + (rest.map fun v => v.category).sum ≤ W)
    (hd : decode c.code g.pc = .ok (.invokestatic index, 3)) (hc : cells ≤ R.cells) (hs : slots ≤ R.slots)
    (k : ∀ T', T'.heap = h → Stand p l e R s m args below meth c T' locs cells slots → Go p e below s R Qv (T'.setTop { g with pc := g.pc + 3, stack := .long (MRound.roundOf v) :: rest })) : Go p e below s R Qv (T.setTop g) := by
  subst eb1
  have htab : MRound.tab.before args s = true := by
    unfold MRound.tab
    simp only [Cond.before_and, Bool.and_eq_true]
    exact ⟨mvT hZ w4, mvT hZ u1, mvT hZ u2, mvT hZ u3, mvT hZ u4, mvT hZ k1, mvT hZ k2, mvT hZ k3, mvT hZ k4, mvT hZ k5⟩
  obtain ⟨vv, vm1, ⟨T', L', c', n'⟩, -, X', ⟨⟨h1, h2, h3, h4⟩, hv⟩, st⟩ := Jvm.LawKit.callS X hx hown (mvT hZ w1) (mvT hZ w2) (mvT hZ w3) (mvT hZ w4) (by decide) (MRound.pays (W := W) hfr hlo htab (mvT hZ w3)) hg hsize (argsL := [.double v]) (rest := rest) (fun sig q => by
    have : parseMethodDescriptor MRound.yN.desc = some ⟨[.double], some .long⟩ := by decide +kernel
    rw [this] at q; cases q; rfl) hst hW hd (fun _ _ => ⟨hc, hs, v, rfl⟩)
  dsimp only [Pt.U, Pt.locs, Pt.cells, Pt.slots] at X' h1 h2 h3 h4 st
  subst h2 h3 h4
  have e1 := hv v rfl
  subst e1
  exact Go.st st (k T' (h1.trans eT) X')
end GoStr
end Jvm.RoadKit
namespace Jvm.OwnFl
open Jvm Jvm.FP Jvm.FP.Core Jvm.Free.Fl Op
/-- a double as a whole number of the least doubles -/
abbrev zv (a : UInt64) : Int := zval b64 (val64 a)
theorem zv_def (a : UInt64) : zv a = zval b64 (val64 a) := rfl
theorem nn_int {i : Int} {a : UInt64} (h : DInt i a) : NoNaN64 a := val64_no.mpr (DInt_ne_nan h)
theorem nn_fin {a : UInt64} (h : DFin a) : NoNaN64 a := val64_no.mpr h.ne_nan
theorem fin_int {i : Int} {a : UInt64} (h : DInt i a) : DFin a := by
  unfold DInt at h
  cases hv : val64 a with
  | nan => rw [hv] at h; exact h.elim
  | inf s => rw [hv] at h; exact h.elim
  | fin s c q => exact ⟨s, c, q, hv⟩
/-! what a comparison pushes -/
theorem cv_lt {a b : UInt64} (ha : NoNaN64 a) (hb : NoNaN64 b) (h : zv a < zv b) (o : ClassFile.CmpOp) : cmpValue (FP.dcmp a b) o = -1 := by
  rw [show FP.dcmp a b = some .lt by
    show Core.dcmp a b = _
    rw [dcmp_zval (val64_no.mp ha) (val64_no.mp hb)]; exact congrArg some ((compare_lt_iff _ _).mpr h)]
  cases o <;> rfl
theorem cv_eq {a b : UInt64} (ha : NoNaN64 a) (hb : NoNaN64 b) (h : zv a = zv b) (o : ClassFile.CmpOp) : cmpValue (FP.dcmp a b) o = 0 := by
  rw [show FP.dcmp a b = some .eq by
    show Core.dcmp a b = _
    rw [dcmp_zval (val64_no.mp ha) (val64_no.mp hb)]; exact congrArg some ((compare_eq_iff _ _).mpr h)]
  cases o <;> rfl
theorem cv_gt {a b : UInt64} (ha : NoNaN64 a) (hb : NoNaN64 b) (h : zv b < zv a) (o : ClassFile.CmpOp) : cmpValue (FP.dcmp a b) o = 1 := by
  rw [show FP.dcmp a b = some .gt by
    show Core.dcmp a b = _
    rw [dcmp_zval (val64_no.mp ha) (val64_no.mp hb)]; exact congrArg some ((compare_gt_iff _ _).mpr h)]
  cases o <;> rfl
theorem cv_ge {a b : UInt64} (ha : NoNaN64 a) (hb : NoNaN64 b) (h : zv b ≤ zv a) (o : ClassFile.CmpOp) : ¬ (cmpValue (FP.dcmp a b) o < 0) := by
  rcases Int.lt_or_eq_of_le h with h | h
  · rw [cv_gt ha hb h o]; decide
  · rw [cv_eq ha hb h.symm o]; decide
theorem cv_le {a b : UInt64} (ha : NoNaN64 a) (hb : NoNaN64 b) (h : zv a ≤ zv b) (o : ClassFile.CmpOp) : ¬ (0 < cmpValue (FP.dcmp a b) o) := by
  rcases Int.lt_or_eq_of_le h with h | h
  · rw [cv_lt ha hb h o]; decide
  · rw [cv_eq ha hb h o]; decide
theorem cv_lt' {a b : UInt64} (ha : NoNaN64 a) (hb : NoNaN64 b) (h : zv a < zv b) (o : ClassFile.CmpOp) : cmpValue (FP.dcmp a b) o < 0 := by rw [cv_lt ha hb h o]; decide
theorem cv_gt' {a b : UInt64} (ha : NoNaN64 a) (hb : NoNaN64 b) (h : zv b < zv a) (o : ClassFile.CmpOp) : 0 < cmpValue (FP.dcmp a b) o := by rw [cv_gt ha hb h o]; decide
theorem cv_ne {a b : UInt64} (ha : NoNaN64 a) (hb : NoNaN64 b) (h : zv a ≠ zv b) (o : ClassFile.CmpOp) : ¬ (cmpValue (FP.dcmp a b) o = 0) := by
  rcases Int.lt_or_gt_of_ne h with h | h
  · rw [cv_lt ha hb h o]; decide
  · rw [cv_gt ha hb h o]; decide
/-! what lcmp pushes -/
theorem lc_eq {x y : Int64} : Jvm.RoadKit.lcmpW x y = 0 ↔ x.toInt = y.toInt := by
  rw [Int64.toInt_inj]
  unfold Jvm.RoadKit.lcmpW
  by_cases h : x > y
  · rw [if_pos h]; constructor
    · intro h1; exact absurd h1 (by decide)
    · rintro rfl; exact absurd h (Int64.lt_irrefl)
  · rw [if_neg h]
    by_cases h2 : x = y
    · rw [if_pos h2]; simp [h2]
    · rw [if_neg h2]; constructor
      · intro h1; exact absurd h1 (by decide)
      · intro h1; exact absurd h1 h2
theorem lc_gt {x y : Int64} : 0 < Jvm.RoadKit.lcmpW x y ↔ y.toInt < x.toInt := by
  rw [← Int64.lt_iff_toInt_lt]
  unfold Jvm.RoadKit.lcmpW
  by_cases h : x > y
  · rw [if_pos h]; exact ⟨fun _ => h, fun _ => by decide⟩
  · rw [if_neg h]
    by_cases h2 : x = y
    · rw [if_pos h2]; exact ⟨fun h1 => absurd h1 (by decide), fun h1 => absurd h1 h⟩
    · rw [if_neg h2]; exact ⟨fun h1 => absurd h1 (by decide), fun h1 => absurd h1 h⟩
theorem lc_lt {x y : Int64} : Jvm.RoadKit.lcmpW x y < 0 ↔ x.toInt < y.toInt := by
  by_cases h : x > y
  · have h3 := Int64.lt_iff_toInt_lt.mp h
    unfold Jvm.RoadKit.lcmpW
    rw [if_pos h]; exact ⟨fun h1 => absurd h1 (by decide), fun h1 => by omega⟩
  · have h3 : ¬ (y.toInt < x.toInt) := fun q => h (Int64.lt_iff_toInt_lt.mpr q)
    unfold Jvm.RoadKit.lcmpW
    rw [if_neg h]
    by_cases h2 : x = y
    · rw [if_pos h2]; subst h2; exact ⟨fun h1 => absurd h1 (by decide), fun h1 => by omega⟩
    · rw [if_neg h2]
      have h4 : x.toInt ≠ y.toInt := fun q => h2 (Int64.toInt_inj.mp q)
      exact ⟨fun _ => by omega, fun _ => by decide⟩
/-! whole numbers -/
theorem zv_int {i : Int} {a : UInt64} (h : DInt i a) : zv a = i * (one64 : Int) := DInt_zval h
theorem one_pos : (0 : Int) < (one64 : Int) := Int.ofNat_lt.mpr one64_pos
theorem cvi_eq {i j : Int} {a b : UInt64} (ha : DInt i a) (hb : DInt j b) (h : i = j) (o : ClassFile.CmpOp) : cmpValue (FP.dcmp a b) o = 0 :=
  cv_eq (nn_int ha) (nn_int hb) (by rw [zv_int ha, zv_int hb, h]) o
theorem cvi_lt {i j : Int} {a b : UInt64} (ha : DInt i a) (hb : DInt j b) (h : i < j) (o : ClassFile.CmpOp) : cmpValue (FP.dcmp a b) o = -1 :=
  cv_lt (nn_int ha) (nn_int hb) (by rw [zv_int ha, zv_int hb]; exact Int.mul_lt_mul_of_pos_right h one_pos) o
theorem cvi_gt {i j : Int} {a b : UInt64} (ha : DInt i a) (hb : DInt j b) (h : j < i) (o : ClassFile.CmpOp) : cmpValue (FP.dcmp a b) o = 1 :=
  cv_gt (nn_int ha) (nn_int hb) (by rw [zv_int ha, zv_int hb]; exact Int.mul_lt_mul_of_pos_right h one_pos) o
theorem zint : DInt 0 (0 : UInt64) := by unfold DInt; rw [val64_zero]; show signed false (0 * _) = 0 * _; simp [signed]
theorem l2dI {x : Int64} (h1 : -9007199254740992 ≤ x.toInt) (h2 : x.toInt ≤ 9007199254740992) : DInt x.toInt (FP.l2d x) := l2d_int (by omega)
theorem i2dI (x : Int32) : DInt x.toInt (FP.i2d x) := i2d_int x
theorem mulI {i j : Int} {a b : UInt64} (ha : DInt i a) (hb : DInt j b) (h : (i * j).natAbs ≤ 9007199254740992) : DInt (i * j) (FP.dmul a b) := dmul_int ha hb h
theorem addI {i j : Int} {a b : UInt64} (ha : DInt i a) (hb : DInt j b) (h : (i + j).natAbs ≤ 9007199254740992) : DInt (i + j) (FP.dadd a b) := dadd_int ha hb h
theorem subI {i j : Int} {a b : UInt64} (ha : DInt i a) (hb : DInt j b) (h : (i - j).natAbs ≤ 9007199254740992) : DInt (i - j) (FP.dsub a b) := dsub_int ha hb h
theorem absMul {i j : Int} {A B : Nat} (h1 : i.natAbs ≤ A) (h2 : j.natAbs ≤ B) : (i * j).natAbs ≤ A * B := by rw [Int.natAbs_mul]; exact Nat.mul_le_mul h1 h2
end Jvm.OwnFl
namespace Jvm.OwnFl
open Jvm Jvm.FP Jvm.FP.Core Jvm.Free.Fl Op
/-! ROUNDING: rz A B: the double nearest A / B, as a whole number of the least doubles -/
def rz (A B : Nat) : Nat := zmag b64 (roundRatio b64 false A B 0)
/-- v least doubles are a double -/
def Rep (v : Nat) : Prop := ∃ c q, Core.fits b64 (.fin false c q) ∧ inUnits c q b64.qmin = v
theorem qz : b64.qmin = -1074 := by decide
theorem rep_of {c k : Nat} (hc : c < 2 ^ 53) (hk : k ≤ 2045) : Rep (c * 2 ^ k) := by
  obtain ⟨c', q', h1, h2⟩ := round_exact good_b64 false (c := c) (q := b64.qmin + k) hc (by omega) (by have : b64.qmax = 971 := by decide
                                                                                                       rw [qz, this]; omega)
  refine ⟨c', q', ?_, ?_⟩
  · rw [← h1]; exact round_fits good_b64 _
  · rw [h2]; unfold inUnits; rw [show (b64.qmin + (k : Int) - b64.qmin).toNat = k by omega]
theorem rep_le {n k : Nat} (hn : n ≤ 2 ^ 53) (hk : k ≤ 2044) : Rep (n * 2 ^ k) := by
  rcases Nat.lt_or_eq_of_le hn with h | h
  · exact rep_of h (by omega)
  · have := rep_of (c := 2 ^ 52) (k := k + 1) (by decide) (by omega)
    rw [h]; rw [Nat.pow_succ] at this
    rw [show (2 : Nat) ^ 53 * 2 ^ k = 2 ^ 52 * (2 ^ k * 2) by rw [show (2 : Nat) ^ 53 = 2 ^ 52 * 2 from rfl]; grind]
    exact this
theorem rep_int {n : Nat} (hn : n ≤ 2 ^ 53) : Rep (n * one64) := rep_le hn (by decide)
theorem inU (A : Nat) : inUnits A 0 b64.qmin = A * one64 := by
  unfold inUnits; rw [← pow_qmin64, show (0 - b64.qmin : Int) = -b64.qmin by omega]
theorem rz_le {A B v : Nat} (hB : 0 < B) (hv : Rep v) (h : A * one64 ≤ v * B) : rz A B ≤ v := by
  obtain ⟨c, q, hf, rfl⟩ := hv
  refine zmag_roundRatio_le good_b64 hB hf (by simp) (e0 := b64.qmin) (Int.le_refl _) (by rw [qz]; decide) ?_
  rw [inU, show (b64.qmin - b64.qmin : Int).toNat = 0 by omega, Nat.pow_zero, Nat.mul_one]
  exact h
theorem rz_ge {A B v : Nat} (hB : 0 < B) (hv : Rep v) (h : v * B ≤ A * one64) : v ≤ rz A B := by
  obtain ⟨c, q, hf, rfl⟩ := hv
  refine zmag_roundRatio_ge good_b64 hB hf (e0 := b64.qmin) (Int.le_refl _) (by rw [qz]; decide) ?_
  rw [inU, show (b64.qmin - b64.qmin : Int).toNat = 0 by omega, Nat.pow_zero, Nat.mul_one]
  exact h
theorem rz_exact {A B v : Nat} (hB : 0 < B) (hv : Rep v) (h : A * one64 = v * B) : rz A B = v :=
  Nat.le_antisymm (rz_le hB hv (Nat.le_of_eq h)) (rz_ge hB hv (Nat.le_of_eq h.symm))
theorem rz_congr {A B A' B' : Nat} (hB : 0 < B) (hB' : 0 < B') (h : A * B' = A' * B) : rz A B = rz A' B' := by
  unfold rz
  rw [roundRatio_congr (f := b64) (s := false) (e := 0) (e' := 0) hB hB' (by simpa using h)]
theorem rz_zero (B : Nat) : rz 0 B = 0 := by
  unfold rz roundRatio; simp [zmag, inUnits]
theorem zmag_sign (s : Bool) (A B : Nat) (e : Int) : zmag b64 (roundRatio b64 s A B e) = zmag b64 (roundRatio b64 false A B e) := by
  unfold roundRatio roundAt settle bound
  split
  · rfl
  · split
    · split <;> rfl
    · split <;> rfl
/-- the quotient of two finite doubles -/
theorem val_ddiv {a b : UInt64} (ha : DFin a) (hb : DFin b) (h0 : zv b ≠ 0) :
    ∃ s A B, 0 < B ∧ zv a = signed (sgn (val64 a)) A ∧ zv b = signed (sgn (val64 b)) B ∧ s = (sgn (val64 a) != sgn (val64 b)) ∧ val64 (FP.ddiv a b) = roundRatio b64 s A B 0 := by
  obtain ⟨s, c, q, e1⟩ := ha
  obtain ⟨t, d, r, e2⟩ := hb
  have f1 := val64_fits a
  have f2 := val64_fits b
  have hzb : zv b = signed t (inUnits d r b64.qmin) := by rw [zv_def, e2]; rfl
  have hd : d ≠ 0 := by
    intro hd; apply h0; rw [hzb, hd]; unfold inUnits; rw [Nat.zero_mul, signed_zero]
  rw [e1] at f1; rw [e2] at f2
  have q1 := f1.2.1; have q2 := f2.2.1
  refine ⟨s != t, inUnits c q b64.qmin, inUnits d r b64.qmin, Nat.mul_pos (Nat.pos_of_ne_zero hd) (Nat.two_pow_pos _), by rw [zv_def, e1]; rfl, by rw [zv_def, e2]; rfl, by rw [e1, e2]; rfl, ?_⟩
  show val64 (Core.ddiv a b) = _
  rw [val64_ddiv, e1, e2]
  show (if d = 0 then _ else roundRatio b64 (s != t) c d (q - r)) = _
  rw [if_neg hd]
  refine roundRatio_congr (Nat.pos_of_ne_zero hd) (Nat.mul_pos (Nat.pos_of_ne_zero hd) (Nat.two_pow_pos _)) ?_
  unfold inUnits
  have e3 : (r - b64.qmin).toNat + (q - r - 0).toNat = (q - b64.qmin).toNat + (0 - (q - r)).toNat := by omega
  rw [show c * (d * 2 ^ (r - b64.qmin).toNat) * 2 ^ (q - r - 0).toNat = c * d * (2 ^ (r - b64.qmin).toNat * 2 ^ (q - r - 0).toNat) by grind, ← Nat.pow_add, e3, Nat.pow_add]
  grind
theorem zv_round (s : Bool) (A B : Nat) : zval b64 (roundRatio b64 s A B 0) = signed s (rz A B) := by
  unfold zval; rw [sgn_roundRatio, zmag_sign]; rfl
theorem nn_ddiv {a b : UInt64} (ha : DFin a) (hb : DFin b) (h0 : zv b ≠ 0) : NoNaN64 (FP.ddiv a b) := by
  obtain ⟨s, A, B, -, -, -, -, h⟩ := val_ddiv ha hb h0
  refine val64_no.mpr ?_
  rw [h]; exact roundRatio_ne_nan _ _ _ _ _
/-- where both are positive, or the dividend nought -/
theorem zv_ddiv {a b : UInt64} {A B : Nat} (ha : DFin a) (hb : DFin b) (h1 : zv a = (A : Int)) (h2 : zv b = (B : Int)) (hB : 0 < B) : zv (FP.ddiv a b) = (rz A B : Int) := by
  obtain ⟨s, A', B', p, q1, q2, hs, h⟩ := val_ddiv ha hb (by omega)
  have e1 : A' = A := by
    have := natAbs_signed (sgn (val64 a)) A'
    rw [← q1, h1] at this; omega
  have e2 : B' = B := by
    have := natAbs_signed (sgn (val64 b)) B'
    rw [← q2, h2] at this; omega
  subst e1 e2
  rw [zv_def, h, zv_round]
  by_cases z : A' = 0
  · subst z; rw [rz_zero, signed_zero]; rfl
  · have s1 : sgn (val64 a) = false := by
      cases hq : sgn (val64 a) with
      | false => rfl
      | true => rw [hq, h1] at q1; simp only [signed, if_true] at q1; omega
    have s2 : sgn (val64 b) = false := by
      cases hq : sgn (val64 b) with
      | false => rfl
      | true => rw [hq, h2] at q2; simp only [signed, if_true] at q2; omega
    rw [hs, s1, s2]; rfl
/-- the quotient of two whole numbers, the divisor positive -/
theorem zv_divI {i j : Nat} {a b : UInt64} (ha : DInt i a) (hb : DInt j b) (hj : 0 < j) : zv (FP.ddiv a b) = (rz i j : Int) := by
  have h1 : zv a = ((i * one64 : Nat) : Int) := by rw [zv_int ha]; rfl
  have h2 : zv b = ((j * one64 : Nat) : Int) := by rw [zv_int hb]; rfl
  rw [zv_ddiv (fin_int ha) (fin_int hb) h1 h2 (Nat.mul_pos hj one64_pos)]
  exact congrArg Int.ofNat (rz_congr (Nat.mul_pos hj one64_pos) hj (by grind))
theorem nn_divI {i j : Int} {a b : UInt64} (ha : DInt i a) (hb : DInt j b) (hj : j ≠ 0) : NoNaN64 (FP.ddiv a b) :=
  nn_ddiv (fin_int ha) (fin_int hb) (by rw [zv_int hb]; have := one_pos; intro h; rcases Int.mul_eq_zero.mp h with h | h <;> omega)
theorem sgn_key {k : Int} {t : Bool} {K : Nat} (hk : k * (one64 : Int) = signed t K) (h0 : k ≠ 0) : t = decide (k < 0) := by
  rcases Int.lt_or_gt_of_ne h0 with h | h
  · have h1 := Int.mul_neg_of_neg_of_pos h one_pos
    cases t with
    | true => simp [h]
    | false => rw [hk] at h1; simp only [signed] at h1; exfalso; simp at h1; omega
  · have h1 := Int.mul_pos h one_pos
    cases t with
    | false => simp; omega
    | true => rw [hk] at h1; simp only [signed, if_true] at h1; exfalso; omega
/-- the quotient of two whole numbers, by their signs -/
theorem zv_divS {i j : Int} {a b : UInt64} (ha : DInt i a) (hb : DInt j b) (hj : j ≠ 0) : ((0 ≤ i ∧ 0 < j) ∨ (i ≤ 0 ∧ j < 0) → zv (FP.ddiv a b) = (rz i.natAbs j.natAbs : Int)) ∧ ((0 ≤ i ∧ j < 0) ∨ (i ≤ 0 ∧ 0 < j) → zv (FP.ddiv a b) = -(rz i.natAbs j.natAbs : Int)) := by
  have hz : zv b ≠ 0 := by rw [zv_int hb]; have := one_pos; intro h; rcases Int.mul_eq_zero.mp h with h | h <;> omega
  obtain ⟨s, A, B, hB, h1, h2, hs, h⟩ := val_ddiv (fin_int ha) (fin_int hb) hz
  rw [zv_int ha] at h1; rw [zv_int hb] at h2
  have eA : i.natAbs * one64 = A := by have := congrArg Int.natAbs h1; rw [natAbs_signed, Int.natAbs_mul, Int.natAbs_natCast] at this; exact this
  have eB : j.natAbs * one64 = B := by have := congrArg Int.natAbs h2; rw [natAbs_signed, Int.natAbs_mul, Int.natAbs_natCast] at this; exact this
  have hr : rz A B = rz i.natAbs j.natAbs := by subst eA eB; exact rz_congr hB (by omega) (by generalize one64 = o; ac_rfl)
  have hv : zv (FP.ddiv a b) = signed s (rz A B) := by rw [zv_def, h, zv_round]
  have sb := sgn_key h2 hj
  by_cases hi : i = 0
  · have : rz A B = 0 := by rw [hr, hi]; exact rz_zero _
    rw [hv, this, signed_zero]
    rw [this] at hr
    omega
  · have sa := sgn_key h1 hi
    rw [sa, sb] at hs
    rw [hv, hr, hs]
    constructor
    · rintro (⟨q1, q2⟩ | ⟨q1, q2⟩)
      · have : ¬ i < 0 := by omega
        have : ¬ j < 0 := by omega
        simp [*, signed]
      · have : i < 0 := by omega
        simp [*, signed]
    · rintro (⟨q1, q2⟩ | ⟨q1, q2⟩)
      · have : ¬ i < 0 := by omega
        simp [*, signed]
      · have : i < 0 := by omega
        have : ¬ j < 0 := by omega
        simp [*, signed]
end Jvm.OwnFl
namespace Jvm.OwnFl
open Jvm Jvm.FP Jvm.FP.Core Jvm.Free.Fl Op
/-! sums, differences, products: rounded between the doubles that bound them -/
theorem repz {v : Int} (h : Rep v.natAbs) : ∃ V, Core.fits b64 V ∧ V ≠ .nan ∧ zval b64 V = v := by
  obtain ⟨c, q, hf, hq⟩ := h
  refine ⟨.fin (decide (v < 0)) c q, hf, by simp, ?_⟩
  show signed (decide (v < 0)) (inUnits c q b64.qmin) = v
  rw [hq]; unfold signed
  by_cases h : v < 0 <;> simp [h] <;> omega
theorem q0 : ((2 ^ (b64.qmin - b64.qmin).toNat : Nat) : Int) = 1 := by rw [show (b64.qmin - b64.qmin).toNat = 0 by omega]; rfl
theorem zadd_le {a b : UInt64} {v : Int} (ha : DFin a) (hb : DFin b) (hv : Rep v.natAbs) (h : zv a + zv b ≤ v) : zv (FP.dadd a b) ≤ v := by
  obtain ⟨V, h1, h2, rfl⟩ := repz hv
  obtain ⟨s, c, q, e1⟩ := ha
  obtain ⟨t, d, r, e2⟩ := hb
  have f1 := val64_fits a
  have f2 := val64_fits b
  rw [zv_def, zv_def, e1, e2] at h
  rw [e1] at f1; rw [e2] at f2
  obtain ⟨sg, n, e, k1, k2, k3⟩ := sum_units f1 f2
  show zval b64 (val64 (Core.dadd a b)) ≤ _
  rw [val64_dadd, e1, e2, k1]
  exact zval_round_le good_b64 h1 h2 (Int.le_refl _) k2 (by rw [k3, q0, Int.mul_one]; exact h)
theorem zadd_ge {a b : UInt64} {v : Int} (ha : DFin a) (hb : DFin b) (hv : Rep v.natAbs) (h : v ≤ zv a + zv b) : v ≤ zv (FP.dadd a b) := by
  obtain ⟨V, h1, h2, rfl⟩ := repz hv
  obtain ⟨s, c, q, e1⟩ := ha
  obtain ⟨t, d, r, e2⟩ := hb
  have f1 := val64_fits a
  have f2 := val64_fits b
  rw [zv_def, zv_def, e1, e2] at h
  rw [e1] at f1; rw [e2] at f2
  obtain ⟨sg, n, e, k1, k2, k3⟩ := sum_units f1 f2
  show _ ≤ zval b64 (val64 (Core.dadd a b))
  rw [val64_dadd, e1, e2, k1]
  exact zval_round_ge good_b64 h1 h2 (Int.le_refl _) k2 (by rw [k3, q0, Int.mul_one]; exact h)
theorem zadd {a b : UInt64} (ha : DFin a) (hb : DFin b) (hv : Rep (zv a + zv b).natAbs) : zv (FP.dadd a b) = zv a + zv b :=
  Int.le_antisymm (zadd_le ha hb hv (Int.le_refl _)) (zadd_ge ha hb hv (Int.le_refl _))
theorem zneg (a : UInt64) : zv (Core.dneg a) = -zv a := by
  show zval b64 (val64 (Core.dneg a)) = _
  rw [Core.val64_dneg]; exact zval_negate _ _
theorem neg_fin {a : UInt64} (ha : DFin a) : DFin (Core.dneg a) := by
  obtain ⟨s, c, q, e1⟩ := ha
  exact ⟨!s, c, q, by rw [Core.val64_dneg, e1]; rfl⟩
theorem zsub_le {a b : UInt64} {v : Int} (ha : DFin a) (hb : DFin b) (hv : Rep v.natAbs) (h : zv a - zv b ≤ v) : zv (FP.dsub a b) ≤ v := by
  show zv (Core.dsub a b) ≤ v
  rw [Core.dsub_eq]
  exact zadd_le ha (neg_fin hb) hv (by rw [zneg]; omega)
theorem zsub_ge {a b : UInt64} {v : Int} (ha : DFin a) (hb : DFin b) (hv : Rep v.natAbs) (h : v ≤ zv a - zv b) : v ≤ zv (FP.dsub a b) := by
  show v ≤ zv (Core.dsub a b)
  rw [Core.dsub_eq]
  exact zadd_ge ha (neg_fin hb) hv (by rw [zneg]; omega)
theorem zsub {a b : UInt64} (ha : DFin a) (hb : DFin b) (hv : Rep (zv a - zv b).natAbs) : zv (FP.dsub a b) = zv a - zv b :=
  Int.le_antisymm (zsub_le ha hb hv (Int.le_refl _)) (zsub_ge ha hb hv (Int.le_refl _))
theorem q2 : ((2 ^ (b64.qmin - 2 * b64.qmin).toNat : Nat) : Int) = (one64 : Int) := by rw [← pow_qmin64, show (b64.qmin - 2 * b64.qmin) = -b64.qmin by omega]
theorem zmul_le {a b : UInt64} {v : Int} (ha : DFin a) (hb : DFin b) (hv : Rep v.natAbs) (h : zv a * zv b ≤ v * (one64 : Int)) : zv (FP.dmul a b) ≤ v := by
  obtain ⟨V, h1, h2, rfl⟩ := repz hv
  obtain ⟨s, c, q, e1⟩ := ha
  obtain ⟨t, d, r, e2⟩ := hb
  have f1 := val64_fits a
  have f2 := val64_fits b
  rw [zv_def, zv_def, e1, e2] at h
  rw [e1] at f1; rw [e2] at f2
  obtain ⟨k1, k2, k3⟩ := product_units f1 f2
  show zval b64 (val64 (Core.dmul a b)) ≤ _
  rw [val64_dmul, e1, e2, k1]
  exact zval_round_le good_b64 h1 h2 (e0 := 2 * b64.qmin) (by rw [qz]; decide) k2 (by rw [k3, q2, signed_xor]; exact h)
theorem zmul_ge {a b : UInt64} {v : Int} (ha : DFin a) (hb : DFin b) (hv : Rep v.natAbs) (h : v * (one64 : Int) ≤ zv a * zv b) : v ≤ zv (FP.dmul a b) := by
  obtain ⟨V, h1, h2, rfl⟩ := repz hv
  obtain ⟨s, c, q, e1⟩ := ha
  obtain ⟨t, d, r, e2⟩ := hb
  have f1 := val64_fits a
  have f2 := val64_fits b
  rw [zv_def, zv_def, e1, e2] at h
  rw [e1] at f1; rw [e2] at f2
  obtain ⟨k1, k2, k3⟩ := product_units f1 f2
  show _ ≤ zval b64 (val64 (Core.dmul a b))
  rw [val64_dmul, e1, e2, k1]
  exact zval_round_ge good_b64 h1 h2 (e0 := 2 * b64.qmin) (by rw [qz]; decide) k2 (by rw [k3, q2, signed_xor]; exact h)
theorem zmul {a b : UInt64} {v : Int} (ha : DFin a) (hb : DFin b) (hv : Rep v.natAbs) (h : zv a * zv b = v * (one64 : Int)) : zv (FP.dmul a b) = v :=
  Int.le_antisymm (zmul_le ha hb hv (Int.le_of_eq h)) (zmul_ge ha hb hv (Int.le_of_eq h.symm))
theorem fin_le {a : UInt64} (hn : NoNaN64 a) (h : (zv a).natAbs ≤ 2 ^ 1974) : DFin a := by
  cases hv : val64 a with
  | nan => exact absurd hv (val64_no.mp hn)
  | fin s c q => exact ⟨s, c, q, hv⟩
  | inf s =>
    exfalso
    rw [zv_def, hv] at h
    have h1 : (zval b64 (.inf s)).natAbs = b64.tails * 2 ^ (b64.exps - 2) := natAbs_signed _ _
    rw [h1] at h
    have h3 : (2 : Nat) ^ 1974 < b64.tails * 2 ^ (b64.exps - 2) := by decide +kernel
    exact absurd (Nat.lt_of_le_of_lt h h3) (Nat.lt_irrefl _)
theorem nn_add {a b : UInt64} (ha : DFin a) (hb : DFin b) : NoNaN64 (FP.dadd a b) := noNaN64_no.mpr (Core.dadd_out ha.notNaN hb)
theorem nn_sub {a b : UInt64} (ha : DFin a) (hb : DFin b) : NoNaN64 (FP.dsub a b) := noNaN64_no.mpr (Core.dsub_out ha.notNaN hb)
theorem nn_mul {a b : UInt64} (ha : DFin a) (hb : DFin b) : NoNaN64 (FP.dmul a b) := noNaN64_no.mpr (Core.dmul_out ha hb)
end Jvm.OwnFl
namespace Jvm.OwnFl
open Jvm Jvm.FP Jvm.FP.Core Jvm.Free.Fl Op
theorem int_of_zv {i : Int} {a : UInt64} (ha : DFin a) (h : zv a = i * (one64 : Int)) : DInt i a := by
  obtain ⟨s, c, q, e1⟩ := ha
  have f1 := val64_fits a
  rw [e1] at f1
  have q1 := f1.2.1
  rw [qz] at q1
  unfold DInt
  rw [e1]
  show signed s (c * 2 ^ q.toNat) = i * ((2 ^ (-q).toNat : Nat) : Int)
  have h2 : signed s (c * 2 ^ (q - b64.qmin).toNat) = i * (one64 : Int) := by
    rw [zv_def, e1] at h; exact h
  have p : (0 : Int) < ((2 ^ (1074 - (-q).toNat) : Nat) : Int) := Int.ofNat_lt.mpr (Nat.two_pow_pos _)
  refine Int.eq_of_mul_eq_mul_right (Int.ne_of_gt p) ?_
  rw [← signed_mul, Nat.mul_assoc, ← Nat.pow_add, show q.toNat + (1074 - (-q).toNat) = (q - b64.qmin).toNat by rw [qz]; omega, h2, Int.mul_assoc, ← Int.natCast_mul, ← Nat.pow_add, show (-q).toNat + (1074 - (-q).toNat) = 1074 by omega]
  rfl
/-- a quotient of whole numbers that is whole -/
theorem divI {i j k : Int} {a b : UInt64} (ha : DInt i a) (hb : DInt j b) (hj : j ≠ 0) (hi : i = k * j) (hk : k.natAbs ≤ 9007199254740992) : DInt k (FP.ddiv a b) := by
  have hn := nn_divI ha hb hj
  have hr : rz i.natAbs j.natAbs = k.natAbs * one64 := rz_exact (by omega) (rep_int (by omega)) (by rw [hi, Int.natAbs_mul]; generalize one64 = o; ac_rfl)
  have hz : zv (FP.ddiv a b) = k * (one64 : Int) := by
    obtain ⟨hp, hm⟩ := zv_divS ha hb hj
    rw [hr, Int.natCast_mul] at hp hm
    rcases Int.lt_or_gt_of_ne hj with h | h <;> rcases Int.lt_or_le k 0 with h' | h'
    · have := Int.mul_pos_of_neg_of_neg h' h
      rw [hm (Or.inl ⟨by omega, h⟩), show ((k.natAbs : Nat) : Int) = -k by omega, Int.neg_mul, Int.neg_neg]
    · have := Int.mul_nonpos_of_nonneg_of_nonpos h' (Int.le_of_lt h)
      rw [hp (Or.inr ⟨by omega, h⟩), show ((k.natAbs : Nat) : Int) = k by omega]
    · have := Int.mul_neg_of_neg_of_pos h' h
      rw [hm (Or.inr ⟨by omega, h⟩), show ((k.natAbs : Nat) : Int) = -k by omega, Int.neg_mul, Int.neg_neg]
    · have := Int.mul_nonneg h' (Int.le_of_lt h)
      rw [hp (Or.inl ⟨by omega, h⟩), show ((k.natAbs : Nat) : Int) = k by omega]
  refine int_of_zv (fin_le hn ?_) hz
  rw [hz, Int.natAbs_mul, Int.natAbs_natCast]
  refine Nat.le_trans (Nat.mul_le_mul_right _ hk) ?_
  unfold one64; rw [show (9007199254740992 : Nat) = 2 ^ 53 from rfl, ← Nat.pow_add]; exact Nat.pow_le_pow_right (by decide) (by decide)
theorem negI {i : Int} {a : UInt64} (ha : DInt i a) : DInt (-i) (FP.dneg a) := by
  rw [FP.dneg_core ((noNaN64_no (x := a)).mp (nn_int ha))]; exact dneg_int ha
end Jvm.OwnFl
namespace Jvm.OwnFl
open Jvm Jvm.FP Jvm.FP.Core Jvm.Free.Fl Op
/-- a whole number by a power of two: exact -/
theorem divP {i : Int} {k : Nat} {a b : UInt64} (ha : DInt i a) (hb : DInt ((2 ^ k : Nat) : Int) b) (hi : i.natAbs ≤ 9007199254740992) (hk : k ≤ 1000) : NoNaN64 (FP.ddiv a b) ∧ DFin (FP.ddiv a b) ∧ zv (FP.ddiv a b) = i * ((2 ^ (1074 - k) : Nat) : Int) := by
  have hp : 0 < 2 ^ k := Nat.two_pow_pos k
  have hj : ((2 ^ k : Nat) : Int) ≠ 0 := by omega
  have hn := nn_divI ha hb hj
  have hr : rz i.natAbs (((2 ^ k : Nat) : Int)).natAbs = i.natAbs * 2 ^ (1074 - k) := by
    rw [Int.natAbs_natCast]
    refine rz_exact hp (rep_le hi (by omega)) ?_
    unfold one64
    rw [Nat.mul_assoc, ← Nat.pow_add, show 1074 - k + k = 1074 by omega]
  have hz : zv (FP.ddiv a b) = i * ((2 ^ (1074 - k) : Nat) : Int) := by
    obtain ⟨h1, h2⟩ := zv_divS ha hb hj
    rw [hr, Int.natCast_mul] at h1 h2
    rcases Int.lt_or_le i 0 with h | h
    · rw [h2 (Or.inr ⟨by omega, by omega⟩), show ((i.natAbs : Nat) : Int) = -i by omega, Int.neg_mul, Int.neg_neg]
    · rw [h1 (Or.inl ⟨h, by omega⟩), show ((i.natAbs : Nat) : Int) = i by omega]
  refine ⟨hn, fin_le hn ?_, hz⟩
  rw [hz, Int.natAbs_mul, Int.natAbs_natCast]
  refine Nat.le_trans (Nat.mul_le_mul hi (Nat.pow_le_pow_right (by decide) (show 1074 - k ≤ 1074 by omega))) ?_
  rw [show (9007199254740992 : Nat) = 2 ^ 53 from rfl, ← Nat.pow_add]; exact Nat.pow_le_pow_right (by decide) (by decide)
theorem f64 {a : UInt64} (h : DFin a) : Fin64 a := fin64_core.mpr h
end Jvm.OwnFl
namespace Jvm.OwnFl
open Jvm.FP.Core Jvm.Free.Fl Jvm.Free.Hsc.MRound
/-- Math.round(double), in whole numbers -/
theorem rd_arith {z R K : Int} (hK : 0 < K) (h1 : (2 * R - 1) * K ≤ z) (h2 : z < (2 * R + 1) * K) : (z / K + 1) / 2 = R := by
  have a1 := Int.le_ediv_of_mul_le hK h1
  have a2 := Int.ediv_lt_of_lt_mul hK h2
  omega
theorem rd_and (n : Nat) (hn : n < 2 ^ 64) : (n &&& 9218868437227405312) / 2 ^ 52 = n / 2 ^ 52 % 2 ^ 11 := by
  rw [← Nat.shiftRight_eq_div_pow, Nat.shiftRight_and_distrib, show (9218868437227405312 : Nat) >>> 52 = 2 ^ 11 - 1 from rfl, Nat.and_two_pow_sub_one_eq_mod, Nat.shiftRight_eq_div_pow]
theorem rd_and_lt (n : Nat) : (n &&& 9218868437227405312) < 2 ^ 63 := Nat.lt_of_le_of_lt Nat.and_le_right (by decide)
theorem rd_toInt {x : Int64} {n : Nat} (h : x.toBitVec.toNat = n) (hn : n < 2 ^ 63) : x.toInt = (n : Int) := by
  show x.toBitVec.toInt = _
  rw [BitVec.toInt_eq_toNat_cond, h, if_pos (by omega)]
theorem rd_exp (b : UInt64) : (bexp b).toInt = ((b.toNat / 2 ^ 52 % 2 ^ 11 : Nat) : Int) := by
  unfold bexp
  rw [Jvm.Kit.i64_shr _ _ (k := 52) (by decide)]
  rw [rd_toInt (n := b.toNat &&& 9218868437227405312) (by rfl) (rd_and_lt _)]
  rw [← rd_and _ b.toNat_lt]
  rfl
theorem rd_sig (b : UInt64) : (sigOf b).toInt = ((2 ^ 52 + b.toNat % 2 ^ 52 : Nat) : Int) := by
  have e : (sigOf b).toBitVec.toNat = (b.toNat &&& 4503599627370495) ||| 4503599627370496 := rfl
  have q : (b.toNat &&& 4503599627370495) ||| 4503599627370496 = 2 ^ 52 + b.toNat % 2 ^ 52 := by
    rw [show (4503599627370495 : Nat) = 2 ^ 52 - 1 from rfl, Nat.and_two_pow_sub_one_eq_mod, Nat.or_comm, show (4503599627370496 : Nat) = 2 ^ 52 * 1 from rfl, ← Nat.two_pow_add_eq_or_of_lt (Nat.mod_lt _ (by decide))]
  rw [q] at e
  exact rd_toInt e (by have := Nat.mod_lt b.toNat (show 0 < 2 ^ 52 by decide); omega)
theorem rd_neg (b : UInt64) : b.toInt64 < 0 ↔ 2 ^ 63 ≤ b.toNat := by
  have hb := b.toNat_lt
  rw [Int64.lt_iff_toInt_lt]
  have e : b.toInt64.toInt = if 2 * b.toNat < 2 ^ 64 then (b.toNat : Int) else (b.toNat : Int) - (2 ^ 64 : Nat) := by
    show b.toBitVec.toInt = _
    rw [BitVec.toInt_eq_toNat_cond]; rfl
  rw [e, show (0 : Int64).toInt = 0 from rfl]
  split <;> omega
set_option maxRecDepth 65536 in
theorem rd_sh : ∀ E : Fin 2048, (((1074 : Int64) - Int64.ofNat E.val) &&& (-64) = 0 ↔ 1011 ≤ E.val ∧ E.val ≤ 1074) ∧ (1011 ≤ E.val ∧ E.val ≤ 1074 → ((((1074 : Int64) - Int64.ofNat E.val).toInt32.toInt64 &&& 63).toBitVec.smod 64).toNat = 1074 - E.val) := by decide +kernel
theorem rd_bexp (b : UInt64) : bexp b = Int64.ofNat (b.toNat / 2 ^ 52 % 2 ^ 11) := by
  apply Int64.toInt_inj.mp
  have h := Nat.mod_lt (b.toNat / 2 ^ 52) (show 0 < 2 ^ 11 by decide)
  rw [rd_exp, Int64.toInt_ofNat_of_lt (by omega)]
theorem rd_half (b : UInt64) (r : Int64) (hE : 1011 ≤ b.toNat / 2 ^ 52 % 2 ^ 11 ∧ b.toNat / 2 ^ 52 % 2 ^ 11 ≤ 1074) (hr : -2 ^ 54 < r.toInt ∧ r.toInt < 2 ^ 54) : (halfOf b r).toInt = (r.toInt / 2 ^ (1074 - b.toNat / 2 ^ 52 % 2 ^ 11) + 1) / 2 := by
  have h := Nat.mod_lt (b.toNat / 2 ^ 52) (show 0 < 2 ^ 11 by decide)
  have s := (rd_sh ⟨_, h⟩).2 hE
  dsimp only at s
  unfold halfOf shrOf shOf
  rw [rd_bexp]
  rw [Jvm.Kit.i64_shr _ _ (k := 1) (by decide)]
  have e1 := Jvm.Kit.i64_shr r _ s
  have b1 : -2 ^ 54 ≤ r.toInt / 2 ^ (1074 - b.toNat / 2 ^ 52 % 2 ^ 11) ∧ r.toInt / 2 ^ (1074 - b.toNat / 2 ^ 52 % 2 ^ 11) ≤ 2 ^ 54 := by
    have p : (0 : Int) < 2 ^ (1074 - b.toNat / 2 ^ 52 % 2 ^ 11) := Int.pow_pos (by decide)
    generalize (2 : Int) ^ (1074 - b.toNat / 2 ^ 52 % 2 ^ 11) = K at p
    constructor
    · refine Int.le_ediv_of_mul_le p ?_
      have : (-2 ^ 54 : Int) * K ≤ -2 ^ 54 * 1 := by rw [Int.neg_mul, Int.neg_mul]; exact Int.neg_le_neg (Int.mul_le_mul_of_nonneg_left (by omega) (by decide))
      omega
    · have := Int.ediv_lt_of_lt_mul p (show r.toInt < 2 ^ 54 * K by
        have : (2 ^ 54 : Int) * 1 ≤ 2 ^ 54 * K := Int.mul_le_mul_of_nonneg_left (by omega) (by decide)
        omega)
      omega
  rw [Jvm.Kit.i64_add (by rw [e1]; show -2 ^ 63 ≤ _ + 1; omega) (by rw [e1]; show _ + 1 < 2 ^ 63; omega), e1]
  rfl
/-- a finite double by its fields -/
theorem rd_val {b : UInt64} (hb : DFin b) : b.toNat / 2 ^ 52 % 2 ^ 11 < 2047 ∧ zv b = signed (decide (2 ^ 63 ≤ b.toNat)) (if b.toNat / 2 ^ 52 % 2 ^ 11 = 0 then b.toNat % 2 ^ 52 else (2 ^ 52 + b.toNat % 2 ^ 52) * 2 ^ (b.toNat / 2 ^ 52 % 2 ^ 11 - 1)) := by
  have hlt := b.toNat_lt
  obtain ⟨s, c, q, e⟩ := hb
  have hs : fieldS b64 b.toNat = decide (2 ^ 63 ≤ b.toNat) := by
    unfold fieldS
    rw [show b64.tails = 2 ^ 52 from rfl, show b64.exps = 2 ^ 11 from rfl]
    by_cases h : 2 ^ 63 ≤ b.toNat
    · rw [decide_eq_true h]; rw [show b.toNat / 2 ^ 52 / 2 ^ 11 = 1 by omega]; rfl
    · rw [decide_eq_false h]; rw [show b.toNat / 2 ^ 52 / 2 ^ 11 = 0 by omega]; rfl
  have hE : fieldE b64 b.toNat = b.toNat / 2 ^ 52 % 2 ^ 11 := rfl
  have hT : fieldT b64 b.toNat = b.toNat % 2 ^ 52 := rfl
  have hm := Nat.mod_lt (b.toNat / 2 ^ 52) (show 0 < 2 ^ 11 by decide)
  have hd : val64 b = decode b64 b.toNat := rfl
  unfold decode at hd
  rw [hE, hT, hs, show b64.exps - 1 = 2047 from rfl, show b64.tails = 2 ^ 52 from rfl] at hd
  by_cases h1 : b.toNat / 2 ^ 52 % 2 ^ 11 = 2047
  · rw [if_pos h1] at hd
    rw [e] at hd
    split at hd <;> cases hd
  · rw [if_neg h1] at hd
    refine ⟨by omega, ?_⟩
    by_cases h0 : b.toNat / 2 ^ 52 % 2 ^ 11 = 0
    · rw [if_pos h0] at hd ⊢
      rw [zv_def, hd]
      show signed _ (inUnits _ _ _) = _
      unfold inUnits; rw [show (b64.qmin - b64.qmin : Int).toNat = 0 by omega, Nat.pow_zero, Nat.mul_one]
      rfl
    · rw [if_neg h0] at hd ⊢
      rw [zv_def, hd]
      show signed _ (inUnits _ _ _) = _
      unfold inUnits
      rw [show (b64.qmin + (((b.toNat / 2 ^ 52 % 2 ^ 11 : Nat) : Int) - 1) - b64.qmin).toNat = b.toNat / 2 ^ 52 % 2 ^ 11 - 1 by omega]
      rfl
theorem rd_sgn (t : Bool) (K : Nat) : signed t K = (if t = true then -(K : Int) else (K : Int)) := by cases t <;> rfl
/-- Math.round(double) of a double between R - 1/2 and R + 1/2 -/
theorem rd_main {b : UInt64} {R : Int} {H : Int} (hH : H = 2 ^ 1073) (hb : DFin b) (hR : R.natAbs ≤ 2 ^ 51) (h1 : (2 * R - 1) * H ≤ zv b) (h2 : zv b < (2 * R + 1) * H) : (roundOf b).toInt = R := by
  obtain ⟨hE, hz⟩ := rd_val hb
  have hm := Nat.mod_lt (b.toNat / 2 ^ 52) (show 0 < 2 ^ 11 by decide)
  have hT := Nat.mod_lt b.toNat (show 0 < 2 ^ 52 by decide)
  have hsh := (rd_sh ⟨_, hm⟩).1
  dsimp only at hsh
  have hneg := rd_neg b
  have hpos : 0 < H := by rw [hH]; exact Int.pow_pos (by decide)
  have hs : (shOf b &&& (-64) = 0) ↔ 1011 ≤ b.toNat / 2 ^ 52 % 2 ^ 11 ∧ b.toNat / 2 ^ 52 % 2 ^ 11 ≤ 1074 := by unfold shOf; rw [rd_bexp]; exact hsh
  have sg := rd_sig b
  have hhalf := rd_half b
  generalize b.toNat / 2 ^ 52 % 2 ^ 11 = E at *
  generalize b.toNat % 2 ^ 52 = T at *
  unfold roundOf
  by_cases hr : 1011 ≤ E ∧ E ≤ 1074
  · rw [if_pos (hs.mpr hr)]
    have hKP : H = (2 : Int) ^ (1074 - E) * 2 ^ (E - 1) := by rw [hH, ← Int.pow_add, show 1074 - E + (E - 1) = 1073 by omega]
    rw [if_neg (by omega)] at hz
    have core : ∀ r : Int64, -2 ^ 54 < r.toInt ∧ r.toInt < 2 ^ 54 → zv b = r.toInt * 2 ^ (E - 1) → (halfOf b r).toInt = R := by
      intro r hr' hzr
      rw [hhalf r hr hr']
      have hK : (0 : Int) < 2 ^ (1074 - E) := Int.pow_pos (by decide)
      have hP : (0 : Int) < 2 ^ (E - 1) := Int.pow_pos (by decide)
      rw [hzr, hKP, ← Int.mul_assoc] at h1 h2
      exact rd_arith hK (Int.le_of_mul_le_mul_right h1 hP) (Int.lt_of_mul_lt_mul_right h2 (Int.le_of_lt hP))
    by_cases hn : b.toInt64 < 0
    · rw [if_pos hn]
      have e : (-(sigOf b)).toInt = -(sigOf b).toInt := Jvm.Kit.i64_neg (by rw [sg]; omega)
      refine core _ (by rw [e, sg]; omega) ?_
      rw [hz, decide_eq_true (hneg.mp hn), rd_sgn, if_pos rfl, e, sg, Int.natCast_mul, Int.natCast_pow, Int.neg_mul]; rfl
    · rw [if_neg hn]
      refine core _ (by rw [sg]; omega) ?_
      rw [hz, decide_eq_false (mt hneg.mpr hn), rd_sgn, if_neg (by decide), sg, Int.natCast_mul, Int.natCast_pow]; rfl
  · rw [if_neg (mt hs.mp hr)]
    by_cases hbig : 1075 ≤ E
    · exfalso
      rw [if_neg (by omega)] at hz
      have hz' : H * 2 ^ 53 ≤ (((2 ^ 52 + T) * 2 ^ (E - 1) : Nat) : Int) := by
        have q : (2 : Nat) ^ 1073 * 2 ^ 53 ≤ (2 ^ 52 + T) * 2 ^ (E - 1) := by
          have a1 : (2 : Nat) ^ 52 * 2 ^ 1074 ≤ (2 ^ 52 + T) * 2 ^ (E - 1) := Nat.mul_le_mul (Nat.le_add_right _ _) (Nat.pow_le_pow_right (by decide) (by omega))
          refine Nat.le_trans (Nat.le_of_eq ?_) a1
          rw [← Nat.pow_add, ← Nat.pow_add]
        have q' := Int.ofNat_le.mpr q
        rw [hH]
        refine Int.le_trans (Int.le_of_eq ?_) q'
        rw [Int.natCast_mul, Int.natCast_pow, Int.natCast_pow]; rfl
      rw [hz, rd_sgn] at h1 h2
      split at h1
      · rename_i hd; rw [if_pos hd] at h2
        have : (2 * R - 1) * H ≤ -(2 ^ 53) * H := by rw [Int.neg_mul, Int.mul_comm (2 ^ 53) H]; omega
        have := Int.le_of_mul_le_mul_right this hpos
        omega
      · rename_i hd; rw [if_neg hd] at h2
        have : 2 ^ 53 * H < (2 * R + 1) * H := by rw [Int.mul_comm (2 ^ 53) H]; omega
        have := Int.lt_of_mul_lt_mul_right this (Int.le_of_lt hpos)
        omega
    · have hzm : (if E = 0 then T else (2 ^ 52 + T) * 2 ^ (E - 1)) < 2 ^ 1073 := by
        split
        · exact Nat.lt_of_lt_of_le hT (Nat.pow_le_pow_right (by decide) (by decide))
        · refine Nat.lt_of_lt_of_le (Nat.mul_lt_mul_of_pos_right (show 2 ^ 52 + T < 2 ^ 53 by omega) (Nat.pow_pos (by decide))) ?_
          rw [← Nat.pow_add]; exact Nat.pow_le_pow_right (by decide) (by omega)
      generalize (if E = 0 then T else (2 ^ 52 + T) * 2 ^ (E - 1)) = M at *
      have hMH : (M : Int) < H := by
        rw [hH]; have := Int.ofNat_lt.mpr hzm; rw [Int.natCast_pow] at this; exact this
      have hR0 : R = 0 := by
        have l1 : zv b < H := by rw [hz, rd_sgn]; split <;> omega
        have l2 : -H < zv b := by rw [hz, rd_sgn]; split <;> omega
        have a1 : (2 * R - 1) * H < 1 * H := by omega
        have a2 : (-1) * H < (2 * R + 1) * H := by omega
        have := Int.lt_of_mul_lt_mul_right a1 (Int.le_of_lt hpos)
        have := Int.lt_of_mul_lt_mul_right a2 (Int.le_of_lt hpos)
        omega
      have hzn : zmag b64 (val64 b) = M := by
        have e1 : (zv b).natAbs = zmag b64 (val64 b) := by
          rw [zv_def]; unfold zval; rw [rd_sgn]; split <;> omega
        have e2 : (zv b).natAbs = M := by rw [hz, rd_sgn]; split <;> omega
        rw [← e1, e2]
      have hdl := d2l_val (a := b) hb.ne_nan
      rw [hzn, Nat.div_eq_of_lt (Nat.lt_of_lt_of_le hzm (by unfold one64; exact Nat.pow_le_pow_right (by decide) (by decide)))] at hdl
      rw [hR0]
      refine Eq.trans (show (FP.d2l b).toInt = (Jvm.FP.Core.d2l b).toInt from rfl) (hdl.trans ?_)
      rw [rd_sgn]; split <;> decide
end Jvm.OwnFl
namespace Jvm.OwnFl
open Jvm Jvm.FP Jvm.FP.Core Jvm.Free.Fl Op Jvm.Free.Hsc.MRound
abbrev M6 : UInt64 := (4696837146684686336 : UInt64)
abbrev M7 : UInt64 := (4711630319722168320 : UInt64)
theorem m6 : DInt 1000000 M6 := by
  unfold DInt; rw [show val64 4696837146684686336 = .fin false 8589934592000000 (-33) from by decide +kernel]; show signed false _ = _; decide
theorem m7 : DInt 10000000 M7 := by
  unfold DInt; rw [show val64 4711630319722168320 = .fin false 5368709120000000 (-29) from by decide +kernel]; show signed false _ = _; decide
theorem m128 : DInt ((2 ^ 7 : Nat) : Int) (4638707616191610880 : UInt64) := by
  unfold DInt; rw [show val64 4638707616191610880 = .fin false 4503599627370496 (-45) from by decide +kernel]; show signed false _ = _; decide
theorem rep_fin {a : UInt64} (ha : DFin a) : Rep (zv a).natAbs := by
  obtain ⟨s, c, q, e⟩ := ha
  have f := val64_fits a
  rw [e] at f
  refine ⟨c, q, f, ?_⟩
  rw [zv_def, e]
  show _ = (signed s (inUnits c q b64.qmin)).natAbs
  rw [rd_sgn]; split <;> omega
theorem abs_div {i : Int} {x : UInt64} (hx : DInt i x) : (zv (FP.ddiv x M6)).natAbs = rz i.natAbs (1000000 : Int).natAbs := by
  by_cases h : 0 ≤ i
  · rw [(zv_divS hx m6 (by decide)).1 (Or.inl ⟨h, by decide⟩)]; omega
  · rw [(zv_divS hx m6 (by decide)).2 (Or.inr ⟨by omega, by decide⟩)]; omega
def own_ok (sc ex : UInt64) : Prop := NoNaN64 (FP.dmul sc M6) ∧ NoNaN64 (FP.ddiv (FP.l2d (roundOf (FP.dmul sc M6))) M6) ∧ NoNaN64 (FP.dadd (FP.ddiv (FP.l2d (roundOf (FP.dmul sc M6))) M6) (0 : UInt64)) ∧ cmpValue (FP.dcmp (FP.dadd (FP.ddiv (FP.l2d (roundOf (FP.dmul sc M6))) M6) (0 : UInt64)) ex) .l = (0 : Int32)
theorem pw1974 : 2 ^ 52 * one64 ≤ 2 ^ 1974 := by unfold one64; rw [← Nat.pow_add]; exact Nat.pow_le_pow_right (by decide) (by decide)
theorem own_core {sc ex : UInt64} {R : Int64} {H : Int} (hH : H = 2 ^ 1073) (n1 : NoNaN64 (FP.dmul sc M6)) (hR : R.toInt.natAbs ≤ 2 ^ 51) (h1 : (2 * R.toInt - 1) * H ≤ zv (FP.dmul sc M6)) (h2 : zv (FP.dmul sc M6) < (2 * R.toInt + 1) * H) (he : NoNaN64 ex) (hz : zv ex = zv (FP.ddiv (FP.l2d R) M6)) : own_ok sc ex := by
  have hpos : 0 < H := by rw [hH]; exact Int.pow_pos (by decide)
  have hb : (zv (FP.dmul sc M6)).natAbs ≤ 2 ^ 1974 := by
    have a1 : -(2 ^ 53) * H ≤ (2 * R.toInt - 1) * H := Int.mul_le_mul_of_nonneg_right (by omega) (Int.le_of_lt hpos)
    have a2 : (2 * R.toInt + 1) * H ≤ 2 ^ 53 * H := Int.mul_le_mul_of_nonneg_right (by omega) (Int.le_of_lt hpos)
    rw [Int.neg_mul] at a1
    have a3 : ((zv (FP.dmul sc M6)).natAbs : Int) ≤ 2 ^ 53 * H := by omega
    have a4 : (zv (FP.dmul sc M6)).natAbs ≤ 2 ^ 53 * 2 ^ 1073 := by
      refine Int.ofNat_le.mp (Int.le_trans a3 (Int.le_of_eq ?_))
      rw [hH, Int.natCast_mul, Int.natCast_pow, Int.natCast_pow]; rfl
    refine Nat.le_trans a4 ?_
    rw [← Nat.pow_add]; exact Nat.pow_le_pow_right (by decide) (by decide)
  have hr : roundOf (FP.dmul sc M6) = R := Int64.toInt_inj.mp (rd_main hH (fin_le n1 hb) hR h1 h2)
  unfold own_ok; rw [hr]
  have dR : DInt R.toInt (FP.l2d R) := l2dI (by omega) (by omega)
  have n2 := nn_divI dR m6 (by decide)
  have hx : (zv (FP.ddiv (FP.l2d R) M6)).natAbs ≤ 2 ^ 52 * one64 := by
    rw [abs_div dR]
    refine rz_le (by decide) (rep_int (by decide)) ?_
    rw [show (1000000 : Int).natAbs = 1000000 from rfl]
    have a : R.toInt.natAbs ≤ 2 ^ 52 * 1000000 := by omega
    have b := Nat.mul_le_mul_right one64 a
    rw [Nat.mul_right_comm] at b
    exact b
  have f2 := fin_le n2 (Nat.le_trans hx pw1974)
  have fz := fin_int zint
  have z0 : zv (0 : UInt64) = 0 := by rw [zv_int zint, Int.zero_mul]
  have hzz : zv (FP.dadd (FP.ddiv (FP.l2d R) M6) (0 : UInt64)) = zv (FP.ddiv (FP.l2d R) M6) := by
    have := zadd f2 fz (by rw [z0, Int.add_zero]; exact rep_fin f2)
    rw [z0, Int.add_zero] at this; exact this
  exact ⟨n1, n2, nn_add f2 fz, cv_eq (nn_add f2 fz) he (by rw [hzz, hz]) .l⟩
theorem one2 : (one64 : Int) = 2 * 2 ^ 1073 := by
  unfold one64; rw [Int.natCast_pow, show (1074 : Nat) = 1073 + 1 from rfl, Int.pow_succ, Int.mul_comm]; rfl
/-- the kind 3 -/
theorem own_C (n : Int32) : own_ok (FP.i2d n) (FP.i2d n) := by
  have b1 := n.le_toInt; have b2 := n.toInt_lt
  have d1 : DInt (n.toInt * 1000000) (FP.dmul (FP.i2d n) M6) := mulI (i2dI n) m6 (by omega)
  have eR : (n.toInt64 * (1000000 : Int64)).toInt = n.toInt * 1000000 := by
    rw [Jvm.Kit.i64_mul (by rw [Jvm.Kit.i64_of_i32]; show _ ≤ _ * 1000000; omega) (by rw [Jvm.Kit.i64_of_i32]; show _ * 1000000 < _; omega), Jvm.Kit.i64_of_i32]; rfl
  obtain ⟨H, hH⟩ : ∃ H : Int, H = 2 ^ 1073 := ⟨_, rfl⟩
  have hpos : 0 < H := by rw [hH]; exact Int.pow_pos (by decide)
  have e := zv_int d1
  rw [one2, ← hH] at e
  have e' : zv (FP.dmul (FP.i2d n) M6) = (2 * (n.toInt * 1000000)) * H := by rw [e, ← Int.mul_assoc, Int.mul_comm (n.toInt * 1000000) 2]
  refine own_core (R := n.toInt64 * (1000000 : Int64)) hH (nn_int d1) (by rw [eR]; omega) ?_ ?_ (nn_int (i2dI n)) ?_
  · rw [eR, e']; exact Int.mul_le_mul_of_nonneg_right (by omega) (Int.le_of_lt hpos)
  · rw [eR, e']; exact Int.mul_lt_mul_of_pos_right (by omega) hpos
  · have dR : DInt (n.toInt * 1000000) (FP.l2d (n.toInt64 * (1000000 : Int64))) := by rw [← eR]; exact l2dI (by omega) (by omega)
    have d2 : DInt n.toInt (FP.ddiv (FP.l2d (n.toInt64 * (1000000 : Int64))) M6) := divI dR m6 (by decide) rfl (by omega)
    rw [zv_int d2, zv_int (i2dI n)]
/-- the kind 2 -/
theorem own_B {o : Int64} (ho : -4194304 ≤ o.toInt ∧ o.toInt ≤ 4194304) (hodd : o.toInt % 2 = 1) : NoNaN64 (FP.ddiv (FP.l2d o) (4638707616191610880 : UInt64)) ∧ NoNaN64 (FP.ddiv (FP.l2d ((o * (15625 : Int64) + 1) / (2 : Int64))) M6) ∧ own_ok (FP.ddiv (FP.l2d o) (4638707616191610880 : UInt64)) (FP.ddiv (FP.l2d ((o * (15625 : Int64) + 1) / (2 : Int64))) M6) := by
  have dO := l2dI (x := o) (by omega) (by omega)
  obtain ⟨n0, f0, z0⟩ := divP dO m128 (by omega) (by decide)
  have e1 : (o * (15625 : Int64)).toInt = o.toInt * 15625 := by
    rw [Jvm.Kit.i64_mul (by show _ ≤ _ * 15625; omega) (by show _ * 15625 < _; omega)]; rfl
  have e2 : (o * (15625 : Int64) + 1).toInt = o.toInt * 15625 + 1 := by
    rw [Jvm.Kit.i64_add (by rw [e1]; show _ ≤ _ + 1; omega) (by rw [e1]; show _ + 1 < _; omega), e1]; rfl
  have e3 : 2 * ((o * (15625 : Int64) + 1) / (2 : Int64)).toInt = o.toInt * 15625 + 1 := by
    rw [Jvm.Kit.i64_div (by rintro ⟨-, q⟩; revert q; decide), e2, show (2 : Int64).toInt = 2 from rfl]
    have : (2 : Int) ∣ o.toInt * 15625 + 1 := by omega
    rw [Int.mul_tdiv_cancel' this]
  generalize ((o * (15625 : Int64) + 1) / (2 : Int64)) = R at *
  have dR := l2dI (x := R) (by omega) (by omega)
  have nR := nn_divI dR m6 (by decide)
  have n1 := nn_mul f0 (fin_int m6)
  obtain ⟨H, hH⟩ : ∃ H : Int, H = 2 ^ 1073 := ⟨_, rfl⟩
  have hpos : 0 < H := by rw [hH]; exact Int.pow_pos (by decide)
  have hP : H = 64 * ((2 ^ (1074 - 7) : Nat) : Int) := by
    rw [hH, Int.natCast_pow, show (1073 : Nat) = 6 + (1074 - 7) from rfl, Int.pow_add]; rfl
  have hs : zv (FP.dmul (FP.ddiv (FP.l2d o) (4638707616191610880 : UInt64)) M6) = (o.toInt * 15625) * H := by
    refine zmul f0 (fin_int m6) ?_ ?_
    · rw [Int.natAbs_mul, hH]
      rw [show ((2 : Int) ^ 1073).natAbs = 2 ^ 1073 from by rw [Int.natAbs_pow]; rfl]
      exact rep_le (by omega) (by decide)
    · rw [z0, zv_int m6, hP]
      generalize ((2 ^ (1074 - 7) : Nat) : Int) = P
      generalize (one64 : Int) = O
      rw [show (1000000 : Int) = 15625 * 64 from rfl]
      grind
  refine ⟨n0, nR, own_core (R := R) hH n1 (by omega) ?_ ?_ nR rfl⟩
  · rw [hs]; exact Int.mul_le_mul_of_nonneg_right (by omega) (Int.le_of_lt hpos)
  · rw [hs]; exact Int.mul_lt_mul_of_pos_right (by omega) hpos
theorem quoU {a : Nat} (ha : a ≤ 2 ^ 40) {U : Nat} (hU : U = 2 ^ 1048) : (a * 2 ^ 26 / 10000000) * U ≤ rz a 10000000 ∧ rz a 10000000 ≤ ((a * 2 ^ 26 + 9999999) / 10000000) * U := by
  have h1 : one64 = 2 ^ 26 * U := by rw [hU, ← Nat.pow_add]; rfl
  constructor
  · refine rz_ge (by decide) (by rw [hU]; exact rep_le (by omega) (by decide)) ?_
    rw [h1, ← Nat.mul_assoc, Nat.mul_right_comm]
    exact Nat.mul_le_mul_right _ (by omega)
  · refine rz_le (by decide) (by rw [hU]; exact rep_le (by omega) (by decide)) ?_
    rw [h1, ← Nat.mul_assoc, Nat.mul_right_comm _ U]
    exact Nat.mul_le_mul_right _ (by omega)
/-- the kinds 0, 1 -/
theorem own_A {v r : Int64} (hv : -1099511627776 < v.toInt ∧ v.toInt < 1099511627776) (h : 10 * r.toInt - 4 ≤ v.toInt ∧ v.toInt ≤ 10 * r.toInt + 4) : NoNaN64 (FP.ddiv (FP.l2d v) M7) ∧ NoNaN64 (FP.ddiv (FP.l2d r) M6) ∧ own_ok (FP.ddiv (FP.l2d v) M7) (FP.ddiv (FP.l2d r) M6) := by
  have dV := l2dI (x := v) (by omega) (by omega)
  have dR := l2dI (x := r) (by omega) (by omega)
  have nR := nn_divI dR m6 (by decide)
  have nV := nn_divI dV m7 (by decide)
  obtain ⟨U, hU⟩ : ∃ U : Nat, U = 2 ^ 1048 := ⟨_, rfl⟩
  have q := quoU (a := v.toInt.natAbs) (by omega) hU
  have hUp : 0 < (U : Int) := by rw [hU, Int.natCast_pow]; exact Int.pow_pos (by decide)
  obtain ⟨g, f, hg, hf, zl, zh⟩ : ∃ g f : Int, 10000000 * g ≤ v.toInt * 67108864 + 10000000 ∧ v.toInt * 67108864 - 10000000 ≤ 10000000 * f ∧ f * (U : Int) ≤ zv (FP.ddiv (FP.l2d v) M7) ∧ zv (FP.ddiv (FP.l2d v) M7) ≤ g * (U : Int) := by
    by_cases h0 : 0 ≤ v.toInt
    · refine ⟨((v.toInt.natAbs * 2 ^ 26 + 9999999) / 10000000 : Nat), (v.toInt.natAbs * 2 ^ 26 / 10000000 : Nat), by omega, by omega, ?_, ?_⟩
      · rw [(zv_divS dV m7 (by decide)).1 (Or.inl ⟨h0, by decide⟩), ← Int.natCast_mul]; exact Int.ofNat_le.mpr q.1
      · rw [(zv_divS dV m7 (by decide)).1 (Or.inl ⟨h0, by decide⟩), ← Int.natCast_mul]; exact Int.ofNat_le.mpr q.2
    · refine ⟨-((v.toInt.natAbs * 2 ^ 26 / 10000000 : Nat) : Int), -(((v.toInt.natAbs * 2 ^ 26 + 9999999) / 10000000 : Nat) : Int), by omega, by omega, ?_, ?_⟩
      · rw [(zv_divS dV m7 (by decide)).2 (Or.inr ⟨by omega, by decide⟩), Int.neg_mul, ← Int.natCast_mul]; exact Int.neg_le_neg (Int.ofNat_le.mpr q.2)
      · rw [(zv_divS dV m7 (by decide)).2 (Or.inr ⟨by omega, by decide⟩), Int.neg_mul, ← Int.natCast_mul]; exact Int.neg_le_neg (Int.ofNat_le.mpr q.1)
  have fV : DFin (FP.ddiv (FP.l2d v) M7) := by
    refine fin_le nV ?_
    have a1 : -(2 ^ 53) * (U : Int) ≤ f * (U : Int) := Int.mul_le_mul_of_nonneg_right (by omega) (Int.le_of_lt hUp)
    have a2 : g * (U : Int) ≤ 2 ^ 53 * (U : Int) := Int.mul_le_mul_of_nonneg_right (by omega) (Int.le_of_lt hUp)
    rw [Int.neg_mul] at a1
    have a3 : ((zv (FP.ddiv (FP.l2d v) M7)).natAbs : Int) ≤ 2 ^ 53 * (U : Int) := by omega
    have a4 : (zv (FP.ddiv (FP.l2d v) M7)).natAbs ≤ 2 ^ 53 * U := by
      refine Int.ofNat_le.mp (Int.le_trans a3 (Int.le_of_eq ?_))
      rw [Int.natCast_mul, Int.natCast_pow]; rfl
    refine Nat.le_trans a4 ?_
    rw [hU, ← Nat.pow_add]; exact Nat.pow_le_pow_right (by decide) (by decide)
  have n1 := nn_mul fV (fin_int m6)
  obtain ⟨H, hH⟩ : ∃ H : Int, H = 2 ^ 1073 := ⟨_, rfl⟩
  have hHU : H = 8 * (4194304 * (U : Int)) := by
    rw [hH, hU, Int.natCast_pow, show ((2 : Nat) : Int) = 2 from rfl, show (1073 : Nat) = 25 + 1048 from rfl, Int.pow_add, ← Int.mul_assoc, show (2 : Int) ^ 25 = 8 * 4194304 from rfl]
  have hW : (4194304 * (U : Int)).natAbs = 2 ^ 1070 := by
    rw [Int.natAbs_mul, Int.natAbs_natCast, hU, show (4194304 : Int).natAbs = 2 ^ 22 from rfl, ← Nat.pow_add]
  have rp : ∀ k : Int, k.natAbs ≤ 2 ^ 53 → Rep (k * (4194304 * (U : Int))).natAbs := fun k hk => by
    rw [Int.natAbs_mul, hW]; exact rep_le hk (by decide)
  have hi : zv (FP.dmul (FP.ddiv (FP.l2d v) M7) M6) ≤ (16 * r.toInt + 7) * (4194304 * (U : Int)) := by
    refine zmul_le fV (fin_int m6) (rp _ (by omega)) ?_
    rw [zv_int m6, ← Int.mul_assoc]
    refine Int.mul_le_mul_of_nonneg_right ?_ (Int.le_of_lt one_pos)
    have b1 := Int.mul_le_mul_of_nonneg_right zh (show (0 : Int) ≤ 1000000 by decide)
    have b2 : (g * 1000000) * (U : Int) ≤ ((16 * r.toInt + 7) * 4194304) * (U : Int) := Int.mul_le_mul_of_nonneg_right (by omega) (Int.le_of_lt hUp)
    refine Int.le_trans b1 ?_
    rw [Int.mul_right_comm, ← Int.mul_assoc]; exact b2
  have lo : (16 * r.toInt - 7) * (4194304 * (U : Int)) ≤ zv (FP.dmul (FP.ddiv (FP.l2d v) M7) M6) := by
    refine zmul_ge fV (fin_int m6) (rp _ (by omega)) ?_
    rw [zv_int m6, ← Int.mul_assoc (zv _)]
    refine Int.mul_le_mul_of_nonneg_right ?_ (Int.le_of_lt one_pos)
    have b1 := Int.mul_le_mul_of_nonneg_right zl (show (0 : Int) ≤ 1000000 by decide)
    have b2 : ((16 * r.toInt - 7) * 4194304) * (U : Int) ≤ (f * 1000000) * (U : Int) := Int.mul_le_mul_of_nonneg_right (by omega) (Int.le_of_lt hUp)
    refine Int.le_trans ?_ b1
    rw [Int.mul_right_comm, ← Int.mul_assoc]; exact b2
  have hWp : 0 < 4194304 * (U : Int) := by omega
  generalize 4194304 * (U : Int) = W at *
  refine ⟨nV, nR, own_core (R := r) hH n1 (by omega) (Int.le_trans ?_ lo) (Int.lt_of_le_of_lt hi ?_) nR rfl⟩
  · rw [hHU, ← Int.mul_assoc]; exact Int.mul_le_mul_of_nonneg_right (by omega) (Int.le_of_lt hWp)
  · rw [hHU, ← Int.mul_assoc]; exact Int.mul_lt_mul_of_pos_right (by omega) hWp
end Jvm.OwnFl
/- laws to paste: Road.backV (cut by pick.py; bodies as the Statement names them) -/
namespace Jvm.Pilot.@@N@@
namespace StrChars
open Jvm Sem ClassFile Op Lib Jvm.Stand Jvm.Free.XT Jvm.Free.ALB Jvm.Free.JM Jvm.Free
open Jvm.Lib.Cold (StaticIs)
/-- a char array whose places are chars -/
def Ch (a : Addr) (A : Cell) (U : State) : Prop := Arr .char a A U ∧ Typed .char A
theorem Ch.mv {a : Addr} {A : Cell} {U U' : State} (h : Ch a A U) (hal : U.vm.Alike U'.vm) (hh : U'.heap = U.heap) : Ch a A U' := ⟨h.1.mv hal hh, h.2⟩
theorem Ch.keep {a : Addr} {A : Cell} {U U' : State} (h : Ch a A U) (hal : U.vm.Alike U'.vm) (hk : U'.heap[a]? = some A) : Ch a A U' := ⟨h.1.keep hal hk, h.2⟩
/-- what place i of a char[]'s cell holds -/
def cv (A : Cell) (i : Nat) : Int32 := match A.slots[i]? with | some (.int x) => x | _ => 0
theorem Ch.get {a : Addr} {A : Cell} {U : State} (h : Ch a A U) {i : Nat} (hi : i < A.slots.size) : A.slots[i]? = some (.int (cv A i)) := by
  have e := Array.getElem?_eq_getElem hi
  have f := h.2 i _ e
  unfold cv; rw [e]
  generalize A.slots[i] = v at f
  cases v <;> simp [fits] at f ⊢
/-- the byte that i2b leaves of a char -/
def lo8 (x : Int32) : Int32 := x.toInt8.toInt32
theorem fits_lo8 (y : Int32) : fits .byte (.int (lo8 y)) = true := by
  have h1 := y.toInt8.le_toInt
  have h2 := y.toInt8.toInt_lt
  simp only [lo8, fits, Bool.and_eq_true, decide_eq_true_eq, Int32.le_iff_toInt_le, Int8.toInt_toInt32, show (-128 : Int32).toInt = -128 from by decide, show (127 : Int32).toInt = 127 from by decide]
  omega
/-- A' is A but that each place j of lo .. hi - 1 holds f j -/
def Laid (A A' : Cell) (lo hi : Nat) (f : Nat → Value) : Prop := A'.cls = A.cls ∧ A'.vm = A.vm ∧ A'.slots.size = A.slots.size ∧ ∀ i, A'.slots[i]? = if lo ≤ i ∧ i < hi then some (f i) else A.slots[i]?
theorem Laid.zero (A : Cell) (lo : Nat) (f : Nat → Value) : Laid A A lo (lo + 0) f := ⟨rfl, rfl, rfl, fun i => by rw [if_neg (by omega)]⟩
theorem Laid.step {A Ak : Cell} {lo k : Nat} {f : Nat → Value} {v : Value} (h : Laid A Ak lo k f) (hlo : lo ≤ k) (hk : k < Ak.slots.size) (hv : v = f k) : Laid A (Ak.setSlot k v) lo (k + 1) f := by
  refine ⟨h.1, h.2.1, by simpa [Cell.setSlot] using h.2.2.1, fun i => ?_⟩
  by_cases e : k = i
  · subst e; rw [Cell.slots_setSlot_self v hk, if_pos (by omega), hv]
  · rw [Cell.slots_setSlot_ne v e, h.2.2.2 i]
    by_cases q : lo ≤ i ∧ i < k
    · rw [if_pos q, if_pos (by omega)]
    · rw [if_neg q, if_neg (by omega)]
def U16 : String := "java/lang/StringUTF16"
namespace Cmp5
def yN : MethodName := ⟨"java/lang/StringUTF16", "compress", "([CI[BII)I"⟩
abbrev yB : ByteArray := jdk_52_method_21_code
theorem d0 : decode yB 0 = .ok (.iconst 0, 1) := by decide +kernel
theorem d1 : decode yB 1 = .ok (.istore 5, 2) := by decide +kernel
theorem d3 : decode yB 3 = .ok (.iload 5, 2) := by decide +kernel
theorem d5 : decode yB 5 = .ok (.iload 4, 2) := by decide +kernel
theorem d7 : decode yB 7 = .ok (.if_icmp (.ge) 37, 3) := by decide +kernel
theorem d10 : decode yB 10 = .ok (.aload_n 0, 1) := by decide +kernel
theorem d11 : decode yB 11 = .ok (.iload_n 1, 1) := by decide +kernel
theorem d12 : decode yB 12 = .ok (.caload, 1) := by decide +kernel
theorem d13 : decode yB 13 = .ok (.istore 6, 2) := by decide +kernel
theorem d15 : decode yB 15 = .ok (.iload 6, 2) := by decide +kernel
theorem d17 : decode yB 17 = .ok (.sipush 255, 3) := by decide +kernel
theorem d20 : decode yB 20 = .ok (.if_icmp (.le) 6, 3) := by decide +kernel
theorem d26 : decode yB 26 = .ok (.aload_n 2, 1) := by decide +kernel
theorem d27 : decode yB 27 = .ok (.iload_n 3, 1) := by decide +kernel
theorem d28 : decode yB 28 = .ok (.iload 6, 2) := by decide +kernel
theorem d30 : decode yB 30 = .ok (.i2b, 1) := by decide +kernel
theorem d31 : decode yB 31 = .ok (.bastore, 1) := by decide +kernel
theorem d32 : decode yB 32 = .ok (.iinc 1 1, 3) := by decide +kernel
theorem d35 : decode yB 35 = .ok (.iinc 3 1, 3) := by decide +kernel
theorem d38 : decode yB 38 = .ok (.iinc 5 1, 3) := by decide +kernel
theorem d41 : decode yB 41 = .ok (.goto (-38), 3) := by decide +kernel
theorem d44 : decode yB 44 = .ok (.iload 4, 2) := by decide +kernel
theorem d46 : decode yB 46 = .ok (.ireturn, 1) := by decide +kernel
def site : List Cond := []
def tab : Cond := tabOf yN yB 7 (some .int) site
def P (b : Addr) (A : Cell) (d : Addr) (B : Cell) (o q len : Nat) (args : Array Value) (s : State) : Prop := args = #[.ref b, .int (Int32.ofNat o), .ref d, .int (Int32.ofNat q), .int (Int32.ofNat len)] ∧ Ch b A s ∧ Arr .byte d B s ∧ b ≠ d ∧ o + len ≤ A.slots.size ∧ q + len ≤ B.slots.size ∧ ∀ i, i < len → ¬ 255 < cv A (o + i)
def E (b : Addr) (A : Cell) (d : Addr) (B : Cell) (o q len : Nat) (r : Option Value) (s u : State) : Prop := r = some (.int (Int32.ofNat len)) ∧ ∃ B', Put d B' s u ∧ Laid B B' q (q + len) (fun j => Value.int (lo8 (cv A (o + (j - q)))))
/-- no char of the range above 255: len; the places written hold each char's low byte -/
theorem law (l : Launch) (b : Addr) (A : Cell) (d : Addr) (B : Cell) (o q len : Nat) : Law l yN 5 5 0 0 yB 7 (some .int) site (P b A d B o q len) (E b A d B o q len) (copyLocs d q len) 0 0 := by
  refine Law.of_walk (plainFor_of_name (by decide +kernel)) (by decide +kernel) (by decide +kernel) (by decide) (fun _ _ h => by rw [h.1]; rfl) (fun _ U U' hal hh h => ⟨h.1, h.2.1.mv hal hh, h.2.2.1.mv hal hh, h.2.2.2⟩) (fun r U U' V V' h1 hal h2 h => ⟨h.1, h.2.elim fun B' q => ⟨B', q.1.mv h1 h2, q.2⟩⟩) ?_
  intro p e s m args below meth c s₁ X0 hexec hbytes hml hret hlk hnm hown hh0 W hP
  obtain ⟨rfl, hA, hB, hne, l1, l2, hp⟩ := hP
  have c1 : Steps p.tables e below (s₁.setTop (entryFrame m #[.ref b, .int (Int32.ofNat o), .ref d, .int (Int32.ofNat q), .int (Int32.ofNat len)] 7)) (s₁.setTop (mkF m 0 #[.val (.ref b), .val (.int (Int32.ofNat o)), .val (.ref d), .val (.int (Int32.ofNat q)), .val (.int (Int32.ofNat len)), .unset, .unset] [])) := entry rfl
  have hA0 := hA.1.mv X0.warmed.alike hh0
  have hB0 := hB.mv X0.warmed.alike hh0
  have a31 := hA.1.2.2.2
  have c2 : Steps p.tables e below (s₁.setTop (entryFrame m #[.ref b, .int (Int32.ofNat o), .ref d, .int (Int32.ofNat q), .int (Int32.ofNat len)] 7)) (s₁.setTop (mkF m 3 #[.val (.ref b), .val (.int (Int32.ofNat o)), .val (.ref d), .val (.int (Int32.ofNat q)), .val (.int (Int32.ofNat len)), .val (.int 0), .unset] [])) := c1.trans (by
    refine iconstV X0.here hexec rfl 0 (hb hbytes d0) (by decide) ?_
    refine XS.istore X0.here hexec rfl (hb hbytes d1) rfl rfl ?_
    exact Steps.refl _)
  have loop : ∀ (r i : Nat), i + r = len → ∀ (z : Slot), (z = .unset ∨ ∃ w, z = .val w ∧ w.category = 1) → ∀ (Tl : State) (Bk : Cell), Stand p l e { frames := 0, locals := 0, cells := 0, slots := 0 } s m #[.ref b, .int (Int32.ofNat o), .ref d, .int (Int32.ofNat q), .int (Int32.ofNat len)] below meth c Tl ([] ++ copyLocs d q i) 0 0 → Put d Bk s₁ Tl → Laid B Bk q (q + i) (fun j => Value.int (lo8 (cv A (o + (j - q))))) →
      Steps p.tables e below (s₁.setTop (entryFrame m #[.ref b, .int (Int32.ofNat o), .ref d, .int (Int32.ofNat q), .int (Int32.ofNat len)] 7)) (Tl.setTop (mkF m 3 #[.val (.ref b), .val (.int (Int32.ofNat (o + i))), .val (.ref d), .val (.int (Int32.ofNat (q + i))), .val (.int (Int32.ofNat len)), .val (.int (Int32.ofNat i)), z] [])) → ∃ (T' : State) (B' : Cell) (z' : Slot), Stand p l e { frames := 0, locals := 0, cells := 0, slots := 0 } s m #[.ref b, .int (Int32.ofNat o), .ref d, .int (Int32.ofNat q), .int (Int32.ofNat len)] below meth c T' ([] ++ copyLocs d q len) 0 0 ∧ Put d B' s₁ T' ∧ Laid B B' q (q + len) (fun j => Value.int (lo8 (cv A (o + (j - q))))) ∧
      Steps p.tables e below (s₁.setTop (entryFrame m #[.ref b, .int (Int32.ofNat o), .ref d, .int (Int32.ofNat q), .int (Int32.ofNat len)] 7)) (T'.setTop (mkF m 3 #[.val (.ref b), .val (.int (Int32.ofNat (o + len))), .val (.ref d), .val (.int (Int32.ofNat (q + len))), .val (.int (Int32.ofNat len)), .val (.int (Int32.ofNat len)), z'] [])) := by
    intro r
    induction r with
    | zero =>
      intro i hi z hz Tl Bk Xl pl fl cl
      have hil : i = len := by omega
      rw [hil] at Xl fl cl
      exact ⟨Tl, Bk, z, Xl, pl, fl, cl⟩
    | succ r ih =>
      intro i hi z hz Tl Bk Xl pl fl cl
      have all := X0.warmed.alike.symm.trans Xl.warmed.alike
      have hAl := hA0.keep all (pl.other hne hA0.1)
      have hBk := hB0.like all pl.1 fl.1 fl.2.1 fl.2.2.1
      have hlt : q + i < Bk.slots.size := by rw [fl.2.2.1]; omega
      have c3 : Steps p.tables e below (s₁.setTop (entryFrame m #[.ref b, .int (Int32.ofNat o), .ref d, .int (Int32.ofNat q), .int (Int32.ofNat len)] 7)) (Tl.setTop (mkF m 12 #[.val (.ref b), .val (.int (Int32.ofNat (o + i))), .val (.ref d), .val (.int (Int32.ofNat (q + i))), .val (.int (Int32.ofNat len)), .val (.int (Int32.ofNat i)), z] [.int (Int32.ofNat (o + i)), .ref b])) := cl.trans (by
        refine XS.iload Xl.here hexec rfl (hb hbytes d3) rfl ?_
        refine XS.iload Xl.here hexec rfl (hb hbytes d5) rfl ?_
        refine XS.icmpNo Xl.here hexec rfl (hb hbytes d7) rfl (ii_ge_f (lt32 (by omega) (by omega))) ?_
        refine XS.aloadN Xl.here hexec rfl (hb hbytes d10) rfl rfl ?_
        refine XS.iloadN Xl.here hexec rfl (hb hbytes d11) rfl ?_
        exact Steps.refl _)
      have c4 : Steps p.tables e below (s₁.setTop (entryFrame m #[.ref b, .int (Int32.ofNat o), .ref d, .int (Int32.ofNat q), .int (Int32.ofNat len)] 7)) (Tl.setTop (mkF m 13 #[.val (.ref b), .val (.int (Int32.ofNat (o + i))), .val (.ref d), .val (.int (Int32.ofNat (q + i))), .val (.int (Int32.ofNat len)), .val (.int (Int32.ofNat i)), z] [.int (cv A (o + i))])) := c3.trans (by
        refine Xl.aget hexec hAl rfl (hA.get (i := o + i) (by omega)) rfl rfl (hb hbytes d12) ?_
        exact Steps.refl _)
      have c5 : Steps p.tables e below (s₁.setTop (entryFrame m #[.ref b, .int (Int32.ofNat o), .ref d, .int (Int32.ofNat q), .int (Int32.ofNat len)] 7)) (Tl.setTop (mkF m 15 #[.val (.ref b), .val (.int (Int32.ofNat (o + i))), .val (.ref d), .val (.int (Int32.ofNat (q + i))), .val (.int (Int32.ofNat len)), .val (.int (Int32.ofNat i)), .val (.int (cv A (o + i)))] [])) := c4.trans (by
        refine XS.istoreS Xl.here hexec rfl (hb hbytes d13) rfl rfl hz ?_
        exact Steps.refl _)
      have c6 : Steps p.tables e below (s₁.setTop (entryFrame m #[.ref b, .int (Int32.ofNat o), .ref d, .int (Int32.ofNat q), .int (Int32.ofNat len)] 7)) (Tl.setTop (mkF m 31 #[.val (.ref b), .val (.int (Int32.ofNat (o + i))), .val (.ref d), .val (.int (Int32.ofNat (q + i))), .val (.int (Int32.ofNat len)), .val (.int (Int32.ofNat i)), .val (.int (cv A (o + i)))] [.int (lo8 (cv A (o + i))), .int (Int32.ofNat (q + i)), .ref d])) := c5.trans (by
        refine XS.iload Xl.here hexec rfl (hb hbytes d15) rfl ?_
        refine sipushV Xl.here hexec rfl 255 (hb hbytes d17) (by decide) ?_
        refine XS.icmpYes Xl.here hexec rfl (pc0 := 20) rfl (hb hbytes d20) rfl (ii_le_t (hp i (by omega))) (by decide) rfl ?_
        refine XS.aloadN Xl.here hexec rfl (hb hbytes d26) rfl rfl ?_
        refine XS.iloadN Xl.here hexec rfl (hb hbytes d27) rfl ?_
        refine XS.iload Xl.here hexec rfl (hb hbytes d28) rfl ?_
        refine i2b Xl.here hexec rfl (hb hbytes d30) rfl ?_
        exact Steps.refl _)
      obtain ⟨T7, X7, p7, st7⟩ := Xl.aput hexec hBk rfl hlt rfl (fits_lo8 (cv A (o + i))) (g := (mkF m 31 #[.val (.ref b), .val (.int (Int32.ofNat (o + i))), .val (.ref d), .val (.int (Int32.ofNat (q + i))), .val (.int (Int32.ofNat len)), .val (.int (Int32.ofNat i)), .val (.int (cv A (o + i)))] [.int (lo8 (cv A (o + i))), .int (Int32.ofNat (q + i)), .ref d])) rfl (rest := []) rfl (hb hbytes d31)
      have c8 : Steps p.tables e below (s₁.setTop (entryFrame m #[.ref b, .int (Int32.ofNat o), .ref d, .int (Int32.ofNat q), .int (Int32.ofNat len)] 7)) (T7.setTop (mkF m 32 #[.val (.ref b), .val (.int (Int32.ofNat (o + i))), .val (.ref d), .val (.int (Int32.ofNat (q + i))), .val (.int (Int32.ofNat len)), .val (.int (Int32.ofNat i)), .val (.int (cv A (o + i)))] [])) := c6.trans (st7 _ (Steps.refl _))
      have c9 : Steps p.tables e below (s₁.setTop (entryFrame m #[.ref b, .int (Int32.ofNat o), .ref d, .int (Int32.ofNat q), .int (Int32.ofNat len)] 7)) (T7.setTop (mkF m 3 #[.val (.ref b), .val (.int (Int32.ofNat (o + i) + 1)), .val (.ref d), .val (.int (Int32.ofNat (q + i) + 1)), .val (.int (Int32.ofNat len)), .val (.int (Int32.ofNat i + 1)), .val (.int (cv A (o + i)))] [])) := c8.trans (by
        refine iincV X7.here hexec rfl 1 (hb hbytes d32) (by decide) rfl rfl ?_
        refine iincV X7.here hexec rfl 1 (hb hbytes d35) (by decide) rfl rfl ?_
        refine iincV X7.here hexec rfl 1 (hb hbytes d38) (by decide) rfl rfl ?_
        refine XS.goto X7.here hexec rfl (pc0 := 41) rfl (hb hbytes d41) (by decide) rfl ?_
        exact Steps.refl _)
      have c10 : Steps p.tables e below (s₁.setTop (entryFrame m #[.ref b, .int (Int32.ofNat o), .ref d, .int (Int32.ofNat q), .int (Int32.ofNat len)] 7)) (T7.setTop (mkF m 3 #[.val (.ref b), .val (.int (Int32.ofNat (o + (i + 1)))), .val (.ref d), .val (.int (Int32.ofNat (q + (i + 1)))), .val (.int (Int32.ofNat len)), .val (.int (Int32.ofNat (i + 1))), .val (.int (cv A (o + i)))] [])) := by
        have := c9
        rw [succ32, succ32, succ32] at this
        exact this
      exact ih (i + 1) (by omega) _ (Or.inr ⟨_, rfl, rfl⟩) T7 _ (by rw [copyLocs_step, ← List.append_assoc]; exact X7) (pl.trans p7) (fl.step (by omega) hlt (by simp)) c10
  obtain ⟨T9, B9, z9, X9, p9, f9, g9⟩ := loop len 0 (by omega) .unset (Or.inl rfl) s₁ B (by simpa [copyLocs] using X0) ⟨hB0.1, fun _ _ => rfl, rfl⟩ (Laid.zero _ _ _) c2
  have c11 : Steps p.tables e below (s₁.setTop (entryFrame m #[.ref b, .int (Int32.ofNat o), .ref d, .int (Int32.ofNat q), .int (Int32.ofNat len)] 7)) (T9.setTop (mkF m 46 #[.val (.ref b), .val (.int (Int32.ofNat (o + len))), .val (.ref d), .val (.int (Int32.ofNat (q + len))), .val (.int (Int32.ofNat len)), .val (.int (Int32.ofNat len)), z9] [.int (Int32.ofNat len)])) := g9.trans (by
    refine XS.iload X9.here hexec rfl (hb hbytes d3) rfl ?_
    refine XS.iload X9.here hexec rfl (hb hbytes d5) rfl ?_
    refine XS.icmpYes X9.here hexec rfl (pc0 := 7) rfl (hb hbytes d7) rfl (ii_ge_t (nlt32 (by omega) (Nat.le_refl _))) (by decide) rfl ?_
    refine XS.iload X9.here hexec rfl (hb hbytes d44) rfl ?_
    exact Steps.refl _)
  exact ⟨T9, some (.int (Int32.ofNat len)), _, _, _, X9, by simp, rfl, rfl, (fun h => by cases h), ⟨rfl, B9, p9.from hh0, f9⟩, fun fs hl => c11.trans (X9.ireturnOut hexec hret rfl (Or.inl rfl) (hb hbytes d46) hl)⟩
end Cmp5
namespace Cmp3
def yN : MethodName := ⟨"java/lang/StringUTF16", "compress", "([CII)[B"⟩
abbrev yB : ByteArray := jdk_52_method_16_code
theorem d0 : decode yB 0 = .ok (.iload_n 2, 1) := by decide +kernel
theorem d1 : decode yB 1 = .ok (.newarray .byte, 2) := by decide +kernel
theorem d3 : decode yB 3 = .ok (.astore_n 3, 1) := by decide +kernel
theorem d4 : decode yB 4 = .ok (.aload_n 0, 1) := by decide +kernel
theorem d5 : decode yB 5 = .ok (.iload_n 1, 1) := by decide +kernel
theorem d6 : decode yB 6 = .ok (.aload_n 3, 1) := by decide +kernel
theorem d7 : decode yB 7 = .ok (.iconst 0, 1) := by decide +kernel
theorem d8 : decode yB 8 = .ok (.iload_n 2, 1) := by decide +kernel
theorem d9 : decode yB 9 = .ok (.invokestatic 115, 3) := by decide +kernel
theorem d12 : decode yB 12 = .ok (.istore 4, 2) := by decide +kernel
theorem d14 : decode yB 14 = .ok (.iload 4, 2) := by decide +kernel
theorem d16 : decode yB 16 = .ok (.iload_n 2, 1) := by decide +kernel
theorem d17 : decode yB 17 = .ok (.if_icmp (.eq) 40, 3) := by decide +kernel
theorem d57 : decode yB 57 = .ok (.aload_n 3, 1) := by decide +kernel
theorem d58 : decode yB 58 = .ok (.areturn, 1) := by decide +kernel
def site : List Cond := [.arrayClass .byte, Cmp5.tab] ++ staticW U16 115 Cmp5.yN
def tab : Cond := tabOf yN yB 6 (some (.array .byte)) site
def P (b : Addr) (A : Cell) (o len : Nat) (args : Array Value) (s : State) : Prop := args = #[.ref b, .int (Int32.ofNat o), .int (Int32.ofNat len)] ∧ Ch b A s ∧ o + len ≤ A.slots.size ∧ len ≤ 536870912 ∧ ∀ i, i < len → ¬ 255 < cv A (o + i)
def E (b : Addr) (A : Cell) (o len : Nat) (r : Option Value) (s u : State) : Prop := NewArr .byte "[B" len (fun j => .int (lo8 (cv A (o + j)))) r s u ∧ u.heap.size = s.heap.size + 1
/-- no char of the range above 255: a new byte[] of their low bytes -/
theorem law (l : Launch) (b : Addr) (A : Cell) (o len : Nat) : Law l yN 3 3 1 18 yB 6 (some (.array .byte)) site (P b A o len) (E b A o len) [] 1 len := by
  refine Law.of_walk (plainFor_of_name (by decide +kernel)) (by decide +kernel) (by decide +kernel) (by decide) (fun _ _ h => by rw [h.1]; rfl) (fun _ U U' hal hh h => ⟨h.1, h.2.1.mv hal hh, h.2.2⟩) (fun r U U' V V' h1 hal h2 h => ⟨NewArr.mv r U U' V V' h1 hal h2 h.1, by rw [h1, h2]; exact h.2⟩) ?_
  intro p e s m args below meth c s₁ X0 hexec hbytes hml hret hlk hnm hown hh0 W hP
  obtain ⟨rfl, hA, l1, l2, hp⟩ := hP
  have a31 := hA.1.2.2.2
  have c1 : Steps p.tables e below (s₁.setTop (entryFrame m #[.ref b, .int (Int32.ofNat o), .int (Int32.ofNat len)] 6)) (s₁.setTop (mkF m 0 #[.val (.ref b), .val (.int (Int32.ofNat o)), .val (.int (Int32.ofNat len)), .unset, .unset, .unset] [])) := entry rfl
  have c2 : Steps p.tables e below (s₁.setTop (entryFrame m #[.ref b, .int (Int32.ofNat o), .int (Int32.ofNat len)] 6)) (s₁.setTop (mkF m 1 #[.val (.ref b), .val (.int (Int32.ofNat o)), .val (.int (Int32.ofNat len)), .unset, .unset, .unset] [.int (Int32.ofNat len)])) := c1.trans (by
    refine XS.iloadN X0.here hexec rfl (hb hbytes d0) rfl ?_
    exact Steps.refl _)
  obtain ⟨T3, B3, X3, ba3, bs3, bv3, bh3, bf3, st3⟩ := X0.anew hexec (atype := .byte) (wk W (.arrayClass .byte)) rfl (by show len * 1 ≤ _; omega) (by omega) (g := (mkF m 1 #[.val (.ref b), .val (.int (Int32.ofNat o)), .val (.int (Int32.ofNat len)), .unset, .unset, .unset] [.int (Int32.ofNat len)])) rfl (hb hbytes d1) (rest := []) rfl (Nat.le_refl _) (by show 0 + len ≤ len; omega)
  rw [hh0] at ba3 st3
  have kp3 : XT.Kept s T3 := (XT.Kept.of_eq hh0).push bh3
  have hA3 := hA.keep X3.warmed.alike (kp3 _ _ hA.1.1)
  have hne : b ≠ s.heap.size := hA.1.ne
  have c4 : Steps p.tables e below (s₁.setTop (entryFrame m #[.ref b, .int (Int32.ofNat o), .int (Int32.ofNat len)] 6)) (T3.setTop (mkF m 3 #[.val (.ref b), .val (.int (Int32.ofNat o)), .val (.int (Int32.ofNat len)), .unset, .unset, .unset] [.ref s.heap.size])) := c2.trans (st3 _ (Steps.refl _))
  have c5 : Steps p.tables e below (s₁.setTop (entryFrame m #[.ref b, .int (Int32.ofNat o), .int (Int32.ofNat len)] 6)) (T3.setTop (mkF m 9 #[.val (.ref b), .val (.int (Int32.ofNat o)), .val (.int (Int32.ofNat len)), .val (.ref s.heap.size), .unset, .unset] [.int (Int32.ofNat len), .int 0, .ref s.heap.size, .int (Int32.ofNat o), .ref b])) := c4.trans (by
    refine XS.astoreN X3.here hexec rfl (hb hbytes d3) rfl rfl rfl ?_
    refine XS.aloadN X3.here hexec rfl (hb hbytes d4) rfl rfl ?_
    refine XS.iloadN X3.here hexec rfl (hb hbytes d5) rfl ?_
    refine XS.aloadN X3.here hexec rfl (hb hbytes d6) rfl rfl ?_
    refine iconstV X3.here hexec rfl 0 (hb hbytes d7) (by decide) ?_
    refine XS.iloadN X3.here hexec rfl (hb hbytes d8) rfl ?_
    exact Steps.refl _)
  obtain ⟨v6, T6, X6, E6, g6⟩ := X3.callS hexec (Cmp5.law l b A s.heap.size B3 o 0 len) hown (wks W (staticW U16 115 Cmp5.yN)) (wk W Cmp5.tab) (W := 0) (Nat.le_of_ble_eq_true rfl) (Nat.le_of_ble_eq_true rfl) (Nat.le_refl _) (by show 0 + len + 0 ≤ len; omega) (g := (mkF m 9 #[.val (.ref b), .val (.int (Int32.ofNat o)), .val (.int (Int32.ofNat len)), .val (.ref s.heap.size), .unset, .unset] [.int (Int32.ofNat len), .int (Int32.ofNat 0), .ref s.heap.size, .int (Int32.ofNat o), .ref b])) rfl (by rw [hml]; rfl) c5 (argsL := [.ref b, .int (Int32.ofNat o), .ref s.heap.size, .int (Int32.ofNat 0), .int (Int32.ofNat len)]) (rest := []) rfl rfl (by show 2 * 0 + 0 ≤ _; decide) (hb hbytes d9) (⟨rfl, hA3, ba3, hne, l1, by rw [bs3]; simp, hp⟩)
  obtain ⟨rfl, B6, p6, f6⟩ := E6
  have c7 : Steps p.tables e below (s₁.setTop (entryFrame m #[.ref b, .int (Int32.ofNat o), .int (Int32.ofNat len)] 6)) (T6.setTop (mkF m 12 #[.val (.ref b), .val (.int (Int32.ofNat o)), .val (.int (Int32.ofNat len)), .val (.ref s.heap.size), .unset, .unset] [.int (Int32.ofNat len)])) := g6
  have c8 : Steps p.tables e below (s₁.setTop (entryFrame m #[.ref b, .int (Int32.ofNat o), .int (Int32.ofNat len)] 6)) (T6.setTop (mkF m 58 #[.val (.ref b), .val (.int (Int32.ofNat o)), .val (.int (Int32.ofNat len)), .val (.ref s.heap.size), .val (.int (Int32.ofNat len)), .unset] [.ref s.heap.size])) := c7.trans (by
    refine XS.istore X6.here hexec rfl (hb hbytes d12) rfl rfl ?_
    refine XS.iload X6.here hexec rfl (hb hbytes d14) rfl ?_
    refine XS.iloadN X6.here hexec rfl (hb hbytes d16) rfl ?_
    refine XS.icmpYes X6.here hexec rfl (pc0 := 17) rfl (hb hbytes d17) rfl (ii_eq_t rfl) (by decide) rfl ?_
    refine XS.aloadN X6.here hexec rfl (hb hbytes d57) rfl rfl ?_
    exact Steps.refl _)
  have X8 := X6.wide (L' := []) (cells' := 1) (slots' := len) (fun x hx hlt => by
    simp only [List.nil_append, copyLocs, List.mem_map, List.mem_range] at hx
    obtain ⟨i, -, rfl⟩ := hx
    exact absurd hlt (Nat.lt_irrefl _)) (Nat.le_refl _) (by omega)
  exact ⟨T6, some (.ref s.heap.size), _, _, _, X8, rfl, rfl, rfl, (fun h => by cases h), ⟨⟨rfl, B6, ba3.like (X3.warmed.alike.symm.trans X6.warmed.alike) p6.1 f6.1 f6.2.1 f6.2.2.1, f6.2.1.trans bv3, by rw [X6.warmed.alike.findClass, f6.1]; exact bf3, by rw [f6.2.2.1, bs3]; simp, fun j hj => by rw [f6.2.2.2 j, if_pos (by omega)]; rfl, kp3.put p6 (Nat.le_refl _)⟩, by rw [p6.2.2, bh3, hh0]; simp⟩, fun fs hl => c8.trans (X8.areturnOut hexec rfl hret rfl (hb hbytes d58) hl)⟩
end Cmp3
namespace CodL
def yN : MethodName := ⟨"java/lang/StringUTF16", "coderFromArrayLen", "([BI)B"⟩
abbrev yB : ByteArray := jdk_52_method_15_code
theorem d0 : decode yB 0 = .ok (.iload_n 1, 1) := by decide +kernel
theorem d1 : decode yB 1 = .ok (.aload_n 0, 1) := by decide +kernel
theorem d2 : decode yB 2 = .ok (.arraylength, 1) := by decide +kernel
theorem d3 : decode yB 3 = .ok (.isub, 1) := by decide +kernel
theorem d4 : decode yB 4 = .ok (.bipush 31, 2) := by decide +kernel
theorem d6 : decode yB 6 = .ok (.iushr, 1) := by decide +kernel
theorem d7 : decode yB 7 = .ok (.i2b, 1) := by decide +kernel
theorem d8 : decode yB 8 = .ok (.ireturn, 1) := by decide +kernel
def site : List Cond := []
def tab : Cond := tabOf yN yB 2 (some .byte) site
def P (d : Addr) (B : Cell) (args : Array Value) (s : State) : Prop := args = #[.ref d, .int (Int32.ofNat B.slots.size)] ∧ Arr .byte d B s
def E (r : Option Value) (s u : State) : Prop := XT.PureE (some (.int 0)) r s u
/-- an array as long as the number of chars: LATIN1 -/
theorem law (l : Launch) (d : Addr) (B : Cell) : Law l yN 2 2 0 0 yB 2 (some .byte) site (P d B) E [] 0 0 := by
  refine Law.of_walk (plainFor_of_name (by decide +kernel)) (by decide +kernel) (by decide +kernel) (by decide) (fun _ _ h => by rw [h.1]; rfl) (fun _ U U' hal hh h => ⟨h.1, h.2.mv hal hh⟩) (fun r U U' V V' h1 hal h2 h => XT.PureE.mv r U U' V V' h1 hal h2 h) ?_
  intro p e s m args below meth c s₁ X0 hexec hbytes hml hret hlk hnm hown hh0 W hP
  obtain ⟨rfl, hB⟩ := hP
  have hB0 := hB.mv X0.warmed.alike hh0
  have c1 : Steps p.tables e below (s₁.setTop (entryFrame m #[.ref d, .int (Int32.ofNat B.slots.size)] 2)) (s₁.setTop (mkF m 0 #[.val (.ref d), .val (.int (Int32.ofNat B.slots.size))] [])) := entry rfl
  have c2 : Steps p.tables e below (s₁.setTop (entryFrame m #[.ref d, .int (Int32.ofNat B.slots.size)] 2)) (s₁.setTop (mkF m 2 #[.val (.ref d), .val (.int (Int32.ofNat B.slots.size))] [.ref d, .int (Int32.ofNat B.slots.size)])) := c1.trans (by
    refine XS.iloadN X0.here hexec rfl (hb hbytes d0) rfl ?_
    refine XS.aloadN X0.here hexec rfl (hb hbytes d1) rfl rfl ?_
    exact Steps.refl _)
  have c3 : Steps p.tables e below (s₁.setTop (entryFrame m #[.ref d, .int (Int32.ofNat B.slots.size)] 2)) (s₁.setTop (mkF m 8 #[.val (.ref d), .val (.int (Int32.ofNat B.slots.size))] [.int (lo8 (ushr (Int32.ofNat B.slots.size - Int32.ofNat B.slots.size) 31))])) := c2.trans (by
    refine X0.alen hexec hB0 rfl rfl (hb hbytes d2) ?_
    refine XS.isub X0.here hexec rfl (hb hbytes d3) rfl ?_
    refine bipushV X0.here hexec rfl 31 (hb hbytes d4) (by decide) ?_
    refine iushr X0.here hexec rfl (hb hbytes d6) rfl ?_
    refine i2b X0.here hexec rfl (hb hbytes d7) rfl ?_
    exact Steps.refl _)
  have e0 : lo8 (ushr (Int32.ofNat B.slots.size - Int32.ofNat B.slots.size) 31) = 0 := by rw [Int32.sub_self]; decide
  rw [e0] at c3
  exact ⟨s₁, some (.int 0), _, _, _, X0, rfl, rfl, rfl, (fun h => by cases h), ⟨rfl, hh0⟩, fun fs hl => c3.trans (X0.ireturnOut hexec hret rfl (Or.inr (Or.inr (Or.inl rfl))) (hb hbytes d8) hl)⟩
end CodL
/-- the String at a is Latin-1 over a new byte[] (the heap's one new cell): the low bytes of the len chars of A from o on; every cell but a is kept -/
def Got (a : Addr) (D : Cell) (fV fC : Field) (A : Cell) (o len : Nat) (r : Option Value) (s u : State) : Prop := r = none ∧ ∃ D' V : Cell, Blank "java/lang/String" a D' u ∧ Same D D' [fV.slot, fC.slot] ∧ D'.slots[fV.slot]? = some (.ref s.heap.size) ∧ D'.slots[fC.slot]? = some (.int 0) ∧ Arr .byte s.heap.size V u ∧ V.vm = .none ∧ u.vm.findClass "[B" = some V.cls ∧ V.slots.size = len ∧ (∀ j, j < len → V.slots[j]? = some (.int (lo8 (cv A (o + j))))) ∧ (∀ (y : Addr) (c : Cell), y ≠ a → s.heap[y]? = some c → u.heap[y]? = some c) ∧ u.heap.size = s.heap.size + 1
theorem Got.mv {a : Addr} {D A : Cell} {fV fC : Field} {o len : Nat} : ∀ r (U U' V V' : State), U'.heap = U.heap → V.vm.Alike V'.vm → V'.heap = V.heap → Got a D fV fC A o len r U V → Got a D fV fC A o len r U' V' :=
  fun r U U' V V' h1 hal h2 ⟨e0, D', X, a1, a2, a3, a4, a5, a6, a7, a8, a9, a10, a11⟩ => ⟨e0, D', X, a1.mv hal h2, a2, by rw [h1]; exact a3, a4, by rw [h1]; exact a5.mv hal h2, a6, by rw [hal.findClass]; exact a7, a8, a9, by rw [h1, h2]; exact a10, by rw [h1, h2]; exact a11⟩
namespace New4
def yN : MethodName := ⟨"java/lang/String", "<init>", "([CIILjava/lang/Void;)V"⟩
abbrev yB : ByteArray := jdk_42_method_149_code
theorem d0 : decode yB 0 = .ok (.aload_n 0, 1) := by decide +kernel
theorem d1 : decode yB 1 = .ok (.invokespecial 1, 3) := by decide +kernel
theorem d4 : decode yB 4 = .ok (.iload_n 3, 1) := by decide +kernel
theorem d5 : decode yB 5 = .ok (.ifCond (.ne) 22, 3) := by decide +kernel
theorem d27 : decode yB 27 = .ok (.getstatic 38, 3) := by decide +kernel
theorem d30 : decode yB 30 = .ok (.ifCond (.eq) 28, 3) := by decide +kernel
theorem d33 : decode yB 33 = .ok (.aload_n 1, 1) := by decide +kernel
theorem d34 : decode yB 34 = .ok (.iload_n 2, 1) := by decide +kernel
theorem d35 : decode yB 35 = .ok (.iload_n 3, 1) := by decide +kernel
theorem d36 : decode yB 36 = .ok (.invokestatic 177, 3) := by decide +kernel
theorem d39 : decode yB 39 = .ok (.astore 5, 2) := by decide +kernel
theorem d41 : decode yB 41 = .ok (.aload_n 0, 1) := by decide +kernel
theorem d42 : decode yB 42 = .ok (.aload 5, 2) := by decide +kernel
theorem d44 : decode yB 44 = .ok (.iload_n 3, 1) := by decide +kernel
theorem d45 : decode yB 45 = .ok (.invokestatic 47, 3) := by decide +kernel
theorem d48 : decode yB 48 = .ok (.putfield 15, 3) := by decide +kernel
theorem d51 : decode yB 51 = .ok (.aload_n 0, 1) := by decide +kernel
theorem d52 : decode yB 52 = .ok (.aload 5, 2) := by decide +kernel
theorem d54 : decode yB 54 = .ok (.putfield 9, 3) := by decide +kernel
theorem d57 : decode yB 57 = .ok (.return_, 1) := by decide +kernel
def site : List Cond := [.fieldLink "java/lang/String" 38 "java/lang/String" "COMPACT_STRINGS" "Z", Cmp3.tab, CodL.tab, .laysFinal "java/lang/String" "java/lang/String" "value" "[B", .fieldLink "java/lang/String" 9 "java/lang/String" "value" "[B", .laysFinal "java/lang/String" "java/lang/String" "coder" "B", .fieldLink "java/lang/String" 15 "java/lang/String" "coder" "B"] ++ objW "java/lang/String" 1 ++ staticW "java/lang/String" 177 Cmp3.yN ++ staticW "java/lang/String" 47 CodL.yN
def tab : Cond := tabOf yN yB 6 none site
def P (a : Addr) (D : Cell) (fV fC : Field) (b : Addr) (A : Cell) (z : Int32) (o len : Nat) (args : Array Value) (s : State) : Prop := args = #[.ref a, .ref b, .int (Int32.ofNat o), .int (Int32.ofNat len), .null] ∧ Blank "java/lang/String" a D s ∧ Found "java/lang/String" "value" "[B" fV s ∧ Found "java/lang/String" "coder" "B" fC s ∧ Ch b A s ∧ StaticIs s "java/lang/String" "COMPACT_STRINGS" "Z" (.int z) ∧ ¬ z = 0 ∧ 0 < len ∧ o + len ≤ A.slots.size ∧ len ≤ 536870912 ∧ ∀ i, i < len → ¬ 255 < cv A (o + i)
def E (a : Addr) (D : Cell) (fV fC : Field) (A : Cell) (o len : Nat) (r : Option Value) (s u : State) : Prop := Got a D fV fC A o len r s u
/-- len > 0, no char of the range above 255: a Latin-1 String of their low bytes -/
theorem law (l : Launch) (a : Addr) (D : Cell) (fV fC : Field) (b : Addr) (A : Cell) (z : Int32) (o len : Nat) : Law l yN 5 4 2 35 yB 6 none site (P a D fV fC b A z o len) (E a D fV fC A o len) [⟨a, fC.slot⟩, ⟨a, fV.slot⟩] 1 len := by
  refine Law.of_walk (plainFor_of_name (by decide +kernel)) (by decide +kernel) (by decide +kernel) (by decide) (fun _ _ h => by rw [h.1]; rfl) (fun _ U U' hal hh h => ⟨h.1, h.2.1.mv hal hh, h.2.2.1.al hal, h.2.2.2.1.al hal, h.2.2.2.2.1.mv hal hh, h.2.2.2.2.2.1.there hal hh, h.2.2.2.2.2.2⟩) (fun r U U' V V' h1 hal h2 h => Got.mv r U U' V V' h1 hal h2 h) ?_
  intro p e s m args below meth c s₁ X0 hexec hbytes hml hret hlk hnm hown hh0 W hP
  obtain ⟨rfl, hB, f1, f2, hA, s1, hz, l0, l1, l2, hp⟩ := hP
  have a31 := hA.1.2.2.2
  have c1 : Steps p.tables e below (s₁.setTop (entryFrame m #[.ref a, .ref b, .int (Int32.ofNat o), .int (Int32.ofNat len), .null] 6)) (s₁.setTop (mkF m 0 #[.val (.ref a), .val (.ref b), .val (.int (Int32.ofNat o)), .val (.int (Int32.ofNat len)), .val .null, .unset] [])) := entry rfl
  have c2 : Steps p.tables e below (s₁.setTop (entryFrame m #[.ref a, .ref b, .int (Int32.ofNat o), .int (Int32.ofNat len), .null] 6)) (s₁.setTop (mkF m 1 #[.val (.ref a), .val (.ref b), .val (.int (Int32.ofNat o)), .val (.int (Int32.ofNat len)), .val .null, .unset] [.ref a])) := c1.trans (by
    refine XS.aloadN X0.here hexec rfl (hb hbytes d0) rfl rfl ?_
    exact Steps.refl _)
  obtain ⟨T3, X3, q3, st3⟩ := X0.oinit hexec hown (wks W (objW "java/lang/String" 1)) (g := (mkF m 1 #[.val (.ref a), .val (.ref b), .val (.int (Int32.ofNat o)), .val (.int (Int32.ofNat len)), .val .null, .unset] [.ref a])) rfl (by rw [hml]; rfl) (rest := []) rfl (hb hbytes d1) (W := 0) (by show 2 * 0 + 0 ≤ _; decide) (Nat.le_of_ble_eq_true rfl) (Nat.le_of_ble_eq_true rfl)
  have hh3 := q3.trans hh0
  have c4 : Steps p.tables e below (s₁.setTop (entryFrame m #[.ref a, .ref b, .int (Int32.ofNat o), .int (Int32.ofNat len), .null] 6)) (T3.setTop (mkF m 27 #[.val (.ref a), .val (.ref b), .val (.int (Int32.ofNat o)), .val (.int (Int32.ofNat len)), .val .null, .unset] [])) := (c2.trans (st3 _ (Steps.refl _))).trans (by
    refine XS.iloadN X3.here hexec rfl (hb hbytes d4) rfl ?_
    refine XS.ifYes X3.here hexec rfl (pc0 := 5) rfl (hb hbytes d5) rfl (i0_ne_t (nz32 (by omega) l0)) (by decide) rfl ?_
    exact Steps.refl _)
  obtain ⟨T5, X5, q5, st5⟩ := X3.sget hexec hown (wk W (.fieldLink "java/lang/String" 38 "java/lang/String" "COMPACT_STRINGS" "Z")) s1 (fun _ _ h => by rw [hh3]; exact h) (g := (mkF m 27 #[.val (.ref a), .val (.ref b), .val (.int (Int32.ofNat o)), .val (.int (Int32.ofNat len)), .val .null, .unset] [])) rfl (hb hbytes d27)
  have hh5 := q5.trans hh3
  have c6 : Steps p.tables e below (s₁.setTop (entryFrame m #[.ref a, .ref b, .int (Int32.ofNat o), .int (Int32.ofNat len), .null] 6)) (T5.setTop (mkF m 30 #[.val (.ref a), .val (.ref b), .val (.int (Int32.ofNat o)), .val (.int (Int32.ofNat len)), .val .null, .unset] [.int z])) := c4.trans (st5 _ (Steps.refl _))
  have c7 : Steps p.tables e below (s₁.setTop (entryFrame m #[.ref a, .ref b, .int (Int32.ofNat o), .int (Int32.ofNat len), .null] 6)) (T5.setTop (mkF m 36 #[.val (.ref a), .val (.ref b), .val (.int (Int32.ofNat o)), .val (.int (Int32.ofNat len)), .val .null, .unset] [.int (Int32.ofNat len), .int (Int32.ofNat o), .ref b])) := c6.trans (by
    refine XS.ifNo X5.here hexec rfl (hb hbytes d30) rfl (i0_eq_f hz) ?_
    refine XS.aloadN X5.here hexec rfl (hb hbytes d33) rfl rfl ?_
    refine XS.iloadN X5.here hexec rfl (hb hbytes d34) rfl ?_
    refine XS.iloadN X5.here hexec rfl (hb hbytes d35) rfl ?_
    exact Steps.refl _)
  obtain ⟨v8, T8, X8, E8, g8⟩ := X5.callS hexec (Cmp3.law l b A o len) hown (wks W (staticW "java/lang/String" 177 Cmp3.yN)) (wk W Cmp3.tab) (W := 0) (Nat.le_of_ble_eq_true rfl) (Nat.le_of_ble_eq_true rfl) (Nat.le_refl _) (by show 0 + len ≤ len; omega) (g := (mkF m 36 #[.val (.ref a), .val (.ref b), .val (.int (Int32.ofNat o)), .val (.int (Int32.ofNat len)), .val .null, .unset] [.int (Int32.ofNat len), .int (Int32.ofNat o), .ref b])) rfl (by rw [hml]; rfl) c7 (argsL := [.ref b, .int (Int32.ofNat o), .int (Int32.ofNat len)]) (rest := []) rfl rfl (by show 2 * 0 + 0 ≤ _; decide) (hb hbytes d36) (⟨rfl, hA.mv X5.warmed.alike hh5, l1, l2, hp⟩)
  obtain ⟨e8, z8⟩ := E8
  obtain ⟨rfl, N, n1, n2, n3, n4, n5, n6⟩ := NewArr.mv _ T5 s _ _ hh5.symm (Vm.Alike.refl _) rfl e8
  rw [hh5] at z8
  have hB1 := hB.keep X8.warmed.alike (n6 _ _ hB.1)
  have hne : s.heap.size ≠ a := (Nat.ne_of_lt (Array.getElem?_eq_some_iff.mp hB.1).1).symm
  have c9 : Steps p.tables e below (s₁.setTop (entryFrame m #[.ref a, .ref b, .int (Int32.ofNat o), .int (Int32.ofNat len), .null] 6)) (T8.setTop (mkF m 39 #[.val (.ref a), .val (.ref b), .val (.int (Int32.ofNat o)), .val (.int (Int32.ofNat len)), .val .null, .unset] [.ref s.heap.size])) := g8
  have c10 : Steps p.tables e below (s₁.setTop (entryFrame m #[.ref a, .ref b, .int (Int32.ofNat o), .int (Int32.ofNat len), .null] 6)) (T8.setTop (mkF m 45 #[.val (.ref a), .val (.ref b), .val (.int (Int32.ofNat o)), .val (.int (Int32.ofNat len)), .val .null, .val (.ref s.heap.size)] [.int (Int32.ofNat N.slots.size), .ref s.heap.size, .ref a])) := by
    have hc : Steps p.tables e below (s₁.setTop (entryFrame m #[.ref a, .ref b, .int (Int32.ofNat o), .int (Int32.ofNat len), .null] 6)) (T8.setTop (mkF m 45 #[.val (.ref a), .val (.ref b), .val (.int (Int32.ofNat o)), .val (.int (Int32.ofNat len)), .val .null, .val (.ref s.heap.size)] [.int (Int32.ofNat len), .ref s.heap.size, .ref a])) := c9.trans (by
      refine XS.astore X8.here hexec rfl (hb hbytes d39) rfl rfl rfl ?_
      refine XS.aloadN X8.here hexec rfl (hb hbytes d41) rfl rfl ?_
      refine XS.aload X8.here hexec rfl (hb hbytes d42) rfl rfl ?_
      refine XS.iloadN X8.here hexec rfl (hb hbytes d44) rfl ?_
      exact Steps.refl _)
    rw [n4]; exact hc
  obtain ⟨v11, T11, X11, E11, g11⟩ := X8.callS hexec (CodL.law l s.heap.size N) hown (wks W (staticW "java/lang/String" 47 CodL.yN)) (wk W CodL.tab) (W := 1) (Nat.le_of_ble_eq_true rfl) (Nat.le_of_ble_eq_true rfl) (Nat.le_refl _) (by show 0 + len + 0 ≤ len; omega) (g := (mkF m 45 #[.val (.ref a), .val (.ref b), .val (.int (Int32.ofNat o)), .val (.int (Int32.ofNat len)), .val .null, .val (.ref s.heap.size)] [.int (Int32.ofNat N.slots.size), .ref s.heap.size, .ref a])) rfl (by rw [hml]; rfl) c10 (argsL := [.ref s.heap.size, .int (Int32.ofNat N.slots.size)]) (rest := [.ref a]) rfl rfl (by show 2 * 0 + (1 + 0) ≤ _; decide) (hb hbytes d45) (⟨rfl, n1⟩)
  obtain ⟨rfl, q11⟩ := E11
  have hB11 := hB1.mv (X8.warmed.alike.symm.trans X11.warmed.alike) q11
  have c12 : Steps p.tables e below (s₁.setTop (entryFrame m #[.ref a, .ref b, .int (Int32.ofNat o), .int (Int32.ofNat len), .null] 6)) (T11.setTop (mkF m 48 #[.val (.ref a), .val (.ref b), .val (.int (Int32.ofNat o)), .val (.int (Int32.ofNat len)), .val .null, .val (.ref s.heap.size)] [.int 0, .ref a])) := g11
  obtain ⟨T13, X13, p13, bl13, sl13, st13⟩ := X11.finit hexec hown (wk W (.fieldLink "java/lang/String" 15 "java/lang/String" "coder" "B")) (Or.inr ⟨_, (wk W (.laysFinal "java/lang/String" "java/lang/String" "coder" "B"))⟩) (Or.inl ⟨rfl, hnm⟩) f2 (Or.inl rfl) hB11 (t := .byte) (by decide +kernel) rfl (g := (mkF m 48 #[.val (.ref a), .val (.ref b), .val (.int (Int32.ofNat o)), .val (.int (Int32.ofNat len)), .val .null, .val (.ref s.heap.size)] [.int 0, .ref a])) rfl (rest := []) rfl (hb hbytes d48)
  have c14 : Steps p.tables e below (s₁.setTop (entryFrame m #[.ref a, .ref b, .int (Int32.ofNat o), .int (Int32.ofNat len), .null] 6)) (T13.setTop (mkF m 54 #[.val (.ref a), .val (.ref b), .val (.int (Int32.ofNat o)), .val (.int (Int32.ofNat len)), .val .null, .val (.ref s.heap.size)] [.ref s.heap.size, .ref a])) := (c12.trans (st13 _ (Steps.refl _))).trans (by
    refine XS.aloadN X13.here hexec rfl (hb hbytes d51) rfl rfl ?_
    refine XS.aload X13.here hexec rfl (hb hbytes d52) rfl rfl ?_
    exact Steps.refl _)
  obtain ⟨T15, X15, p15, bl15, sl15, st15⟩ := X13.finit hexec hown (wk W (.fieldLink "java/lang/String" 9 "java/lang/String" "value" "[B")) (Or.inr ⟨_, (wk W (.laysFinal "java/lang/String" "java/lang/String" "value" "[B"))⟩) (Or.inl ⟨rfl, hnm⟩) f1 (Or.inl rfl) bl13 (t := (.array .byte)) (by decide +kernel) rfl (g := (mkF m 54 #[.val (.ref a), .val (.ref b), .val (.int (Int32.ofNat o)), .val (.int (Int32.ofNat len)), .val .null, .val (.ref s.heap.size)] [.ref s.heap.size, .ref a])) rfl (rest := []) rfl (hb hbytes d54)
  have c16 : Steps p.tables e below (s₁.setTop (entryFrame m #[.ref a, .ref b, .int (Int32.ofNat o), .int (Int32.ofNat len), .null] 6)) (T15.setTop (mkF m 57 #[.val (.ref a), .val (.ref b), .val (.int (Int32.ofNat o)), .val (.int (Int32.ofNat len)), .val .null, .val (.ref s.heap.size)] [])) := c14.trans (st15 _ (Steps.refl _))
  have ap := apart (Or.inr ⟨_, (wk W (.laysFinal "java/lang/String" "java/lang/String" "value" "[B"))⟩) (Or.inr ⟨_, (wk W (.laysFinal "java/lang/String" "java/lang/String" "coder" "B"))⟩) f1 f2 (t₁ := .array .byte) (t₂ := .byte) (by decide +kernel) (by decide +kernel) (by decide)
  have al := X8.warmed.alike.symm.trans X15.warmed.alike
  have n7 : T11.heap[s.heap.size]? = some N := by rw [q11]; exact n1.1
  exact ⟨T15, none, _, _, _, X15, by simp, rfl, by omega, (fun _ => rfl), ⟨rfl, _, N, bl15, ((Same.refl D _).set _ (by simp)).set _ (by simp), sl15, (Cell.slots_setSlot_ne _ ap).trans sl13, n1.keep al (p15.other hne (p13.other hne n7)), n2, by rw [al.findClass]; exact n3, n4, n5, fun y c h1 h2 => p15.other h1 (p13.other h1 (by rw [q11]; exact n6 y c h2)), by rw [p15.2.2, p13.2.2, q11]; exact z8⟩, fun fs hl => c16.trans (X15.returnOut hexec hret (hb hbytes d57) hl)⟩
end New4
namespace New1
def yN : MethodName := ⟨"java/lang/String", "<init>", "([C)V"⟩
abbrev yB : ByteArray := jdk_42_method_3_code
theorem d0 : decode yB 0 = .ok (.aload_n 0, 1) := by decide +kernel
theorem d1 : decode yB 1 = .ok (.aload_n 1, 1) := by decide +kernel
theorem d2 : decode yB 2 = .ok (.iconst 0, 1) := by decide +kernel
theorem d3 : decode yB 3 = .ok (.aload_n 1, 1) := by decide +kernel
theorem d4 : decode yB 4 = .ok (.arraylength, 1) := by decide +kernel
theorem d5 : decode yB 5 = .ok (.aconst_null, 1) := by decide +kernel
theorem d6 : decode yB 6 = .ok (.invokespecial 27, 3) := by decide +kernel
theorem d9 : decode yB 9 = .ok (.return_, 1) := by decide +kernel
def site : List Cond := [New4.tab] ++ initW "java/lang/String" 27 New4.yN
def tab : Cond := tabOf yN yB 2 none site
def P (a : Addr) (D : Cell) (fV fC : Field) (b : Addr) (A : Cell) (z : Int32) (args : Array Value) (s : State) : Prop := args = #[.ref a, .ref b] ∧ Blank "java/lang/String" a D s ∧ Found "java/lang/String" "value" "[B" fV s ∧ Found "java/lang/String" "coder" "B" fC s ∧ Ch b A s ∧ StaticIs s "java/lang/String" "COMPACT_STRINGS" "Z" (.int z) ∧ ¬ z = 0 ∧ 0 < A.slots.size ∧ A.slots.size ≤ 536870912 ∧ ∀ i, i < A.slots.size → ¬ 255 < cv A i
def E (a : Addr) (D : Cell) (fV fC : Field) (A : Cell) (r : Option Value) (s u : State) : Prop := Got a D fV fC A 0 A.slots.size r s u
/-- new String(chars), not empty, no char above 255: a Latin-1 String of their low bytes -/
theorem law (l : Launch) (a : Addr) (D : Cell) (fV fC : Field) (b : Addr) (A : Cell) (z : Int32) : Law l yN 2 1 3 52 yB 2 none site (P a D fV fC b A z) (E a D fV fC A) [⟨a, fC.slot⟩, ⟨a, fV.slot⟩] 1 A.slots.size := by
  refine Law.of_walk (plainFor_of_name (by decide +kernel)) (by decide +kernel) (by decide +kernel) (by decide) (fun _ _ h => by rw [h.1]; rfl) (fun _ U U' hal hh h => ⟨h.1, h.2.1.mv hal hh, h.2.2.1.al hal, h.2.2.2.1.al hal, h.2.2.2.2.1.mv hal hh, h.2.2.2.2.2.1.there hal hh, h.2.2.2.2.2.2⟩) (fun r U U' V V' h1 hal h2 h => Got.mv r U U' V V' h1 hal h2 h) ?_
  intro p e s m args below meth c s₁ X0 hexec hbytes hml hret hlk hnm hown hh0 W hP
  obtain ⟨rfl, hB, f1, f2, hA, s1, hz, l0, l2, hp⟩ := hP
  have c1 : Steps p.tables e below (s₁.setTop (entryFrame m #[.ref a, .ref b] 2)) (s₁.setTop (mkF m 0 #[.val (.ref a), .val (.ref b)] [])) := entry rfl
  have c2 : Steps p.tables e below (s₁.setTop (entryFrame m #[.ref a, .ref b] 2)) (s₁.setTop (mkF m 6 #[.val (.ref a), .val (.ref b)] [.null, .int (Int32.ofNat A.slots.size), .int 0, .ref b, .ref a])) := c1.trans (by
    refine XS.aloadN X0.here hexec rfl (hb hbytes d0) rfl rfl ?_
    refine XS.aloadN X0.here hexec rfl (hb hbytes d1) rfl rfl ?_
    refine iconstV X0.here hexec rfl 0 (hb hbytes d2) (by decide) ?_
    refine XS.aloadN X0.here hexec rfl (hb hbytes d3) rfl rfl ?_
    refine X0.alen hexec (hA.1.mv X0.warmed.alike hh0) rfl rfl (hb hbytes d4) ?_
    refine XS.aconstNull X0.here hexec rfl (hb hbytes d5) ?_
    exact Steps.refl _)
  obtain ⟨v3, T3, X3, E3, g3⟩ := X0.callN hexec (New4.law l a D fV fC b A z 0 A.slots.size) rfl hown (wks W (initW "java/lang/String" 27 New4.yN)) (W New4.tab (by simp only [site, List.mem_cons, List.mem_append, true_or, or_true])) (W := 0) (Nat.le_of_ble_eq_true rfl) (Nat.le_of_ble_eq_true rfl) (Nat.le_refl _) (by show 0 + A.slots.size ≤ A.slots.size; omega) (g := (mkF m 6 #[.val (.ref a), .val (.ref b)] [.null, .int (Int32.ofNat A.slots.size), .int (Int32.ofNat 0), .ref b, .ref a])) rfl (by rw [hml]; rfl) c2 (argsL := [.ref b, .int (Int32.ofNat 0), .int (Int32.ofNat A.slots.size), .null]) (rest := []) rfl rfl (by show 2 * 0 + 0 ≤ _; decide) (hb hbytes d6) (⟨rfl, hB.mv X0.warmed.alike hh0, f1.al X0.warmed.alike, f2.al X0.warmed.alike, hA.mv X0.warmed.alike hh0, s1.there X0.warmed.alike hh0, hz, l0, by omega, l2, fun i hi => by rw [Nat.zero_add]; exact hp i hi⟩)
  have e0 := Got.mv _ s₁ s _ _ hh0.symm (Vm.Alike.refl _) rfl E3
  obtain rfl := e0.1
  have c4 : Steps p.tables e below (s₁.setTop (entryFrame m #[.ref a, .ref b] 2)) (T3.setTop (mkF m 9 #[.val (.ref a), .val (.ref b)] [])) := g3
  exact ⟨T3, none, _, _, _, X3, by simp, rfl, by omega, (fun _ => rfl), e0, fun fs hl => c4.trans (X3.returnOut hexec hret (hb hbytes d9) hl)⟩
theorem pays {l : Launch} {R : Room} {p : Program} {e : Env} {below : List Frame} {s : State} {sargs : Array Value} {len W : Nat} (a : Addr) (D : Cell) (fV fC : Field) (b : Addr) (A : Cell) (z : Int32) (htab : tab.before sargs s = true) (hfr : 4 ≤ R.frames) (hlo : W + 65 ≤ R.locals) :
    Back l R p e below s sargs yN len W (fun A₁ a₁ => A₁.cells + 1 ≤ R.cells ∧ A₁.slots + A.slots.size ≤ R.slots ∧ P a D fV fC b A z a₁ A₁.U) (fun A₁ _ v₁ B₁ => E a D fV fC A v₁ A₁.U B₁.U ∧ B₁.locs = A₁.locs ++ [⟨a, fC.slot⟩, ⟨a, fV.slot⟩] ∧ B₁.cells = A₁.cells + 1 ∧ B₁.slots = A₁.slots + A.slots.size) :=
  (law l a D fV fC b A z).pays htab hfr (by omega)
end New1
end StrChars
namespace StrChars.Road
open Jvm Sem ClassFile Op Lib Jvm.Stand Jvm.Free Jvm.Free.XT
open Jvm.Lib.Cold (StaticIs)
abbrev ST : String := "java/lang/String"
/-- every table word that New1's law asks, flat -/
abbrev words : List Jvm.Cond := [.code New1.yN New1.yB 2 none, .initialized ST, .methodLink ST 27 New4.yN, .instanceMethod New4.yN,
  .code New4.yN New4.yB 6 none, .fieldLink ST 38 ST "COMPACT_STRINGS" "Z", .laysFinal ST ST "value" "[B", .fieldLink ST 9 ST "value" "[B", .laysFinal ST ST "coder" "B", .fieldLink ST 15 ST "coder" "B",
  .methodLink ST 1 Lib.objectInit, .instanceMethod Lib.objectInit, .code Lib.objectInit ⟨#[0xb1]⟩ 1 none, .methodLink ST 177 Cmp3.yN, .static Cmp3.yN, .methodLink ST 47 CodL.yN, .static CodL.yN,
  .code Cmp3.yN Cmp3.yB 6 (some (.array .byte)), .initialized U16, .arrayClass .byte, .methodLink U16 115 Cmp5.yN, .static Cmp5.yN, .code Cmp5.yN Cmp5.yB 7 (some .int), .code CodL.yN CodL.yB 2 (some .byte)]
theorem tab_of {a : Array Value} {s : State} (h : ∀ w ∈ words, w.before a s = true) : New1.tab.before a s = true := by
  have h5 : Cmp5.tab.before a s = true := unparts (wk h (.code Cmp5.yN Cmp5.yB 7 (some .int))) (wks h (.initialized Cmp5.yN.cls :: Cmp5.site))
  have hc : CodL.tab.before a s = true := unparts (wk h (.code CodL.yN CodL.yB 2 (some .byte))) (wks h (.initialized CodL.yN.cls :: CodL.site))
  have q5 : ∀ w ∈ Cmp5.tab :: words, w.before a s = true := fun w hw => (List.mem_cons.mp hw).elim (fun e => e ▸ h5) (h w)
  have h3 : Cmp3.tab.before a s = true := unparts (wk q5 (.code Cmp3.yN Cmp3.yB 6 (some (.array .byte)))) (wks q5 (.initialized Cmp3.yN.cls :: Cmp3.site))
  have q3 : ∀ w ∈ Cmp3.tab :: CodL.tab :: words, w.before a s = true := fun w hw => (List.mem_cons.mp hw).elim (fun e => e ▸ h3) fun hw => (List.mem_cons.mp hw).elim (fun e => e ▸ hc) (h w)
  have h4 : New4.tab.before a s = true := unparts (wk q3 (.code New4.yN New4.yB 6 none)) (wks q3 (.initialized New4.yN.cls :: New4.site))
  have q4 : ∀ w ∈ New4.tab :: words, w.before a s = true := fun w hw => (List.mem_cons.mp hw).elim (fun e => e ▸ h4) (h w)
  exact unparts (wk q4 (.code New1.yN New1.yB 2 none)) (wks q4 (.initialized New1.yN.cls :: New1.site))
/-- the words ride from the start Z to the walk's own state -/
theorem moved {Z s : State} {a0 args : Array Value} (hZ : Z.Warmed39 s.vm) (hw : ∀ d ∈ words, d.before a0 Z = true) : ∀ d ∈ words, d.before args s = true := fun d hd => by
  have q := hw d hd
  have t : ∀ d ∈ words, d = .arrayClass .byte ∨ (d.onTables && d.keepsFace) = true := by decide +kernel
  rcases t d hd with rfl | t
  · exact RoadKit.mvA hZ q
  · exact RoadKit.mv hZ q t
/-- WHAT COMES BACK, over the tables of the start Z: h the heap at the call, h' behind it -/
def Q (Z : State) (x : Addr) (A : Cell) (h : Heap) (v : Option Value) (h' : Heap) (L : List Loc) : Prop := v = none ∧ (∀ y ∈ L, y.base = x) ∧ RoadKit.Keep h h' [x] ∧ h'.size = h.size + 1 ∧ RoadKit.Exa Z h' x ST ∧ RoadKit.Fld Z h' x ST "value" "[B" (.ref h.size) ∧ RoadKit.Fld Z h' x ST "coder" "B" (.int 0) ∧
  (∃ V : Cell, RoadKit.Arr Z h' h.size V .byte ∧ V.vm = .none ∧ Z.vm.findClass "[B" = some V.cls ∧ V.slots.size = A.slots.size ∧ ∀ j, j < A.slots.size → V.slots[j]? = some (.int (lo8 (cv A j)))) ∧
  ∀ (O n d : String) (w : Value), RoadKit.Fld Z h x O n d w → RoadKit.slotOf Z O n d ≠ RoadKit.slotOf Z ST "value" "[B" → RoadKit.slotOf Z O n d ≠ RoadKit.slotOf Z ST "coder" "B" → RoadKit.Fld Z h' x O n d w
/-- **new String(chars) AT A CALL, IN THE ROAD'S FORM**: for specialBack behind newO: x the fresh String, b the char[] with the cell A -/
theorem back {p : Program} {l : Launch} {e : Env} {R : Room} {s : State} {args : Array Value} {below : List Frame} {len W : Nat} {Z : State} {a0 : Array Value} {h : Heap} (hZ : Z.Warmed39 s.vm) (hw : ∀ d ∈ words, d.before a0 Z = true) {kI : Nat} (wi : (Jvm.Cond.instantiable ST kI).before a0 Z = true)
    {x b : Addr} {A : Cell} {z : Int32} {v0 c0 : Value} (E : RoadKit.Exa Z h x ST) (V : RoadKit.Fld Z h x ST "value" "[B" v0) (C : RoadKit.Fld Z h x ST "coder" "B" c0) (K : RoadKit.Arr Z h b A .char) (hty : Typed .char A) (S : RoadKit.Sta Z h ST "COMPACT_STRINGS" "Z" (.int z)) (hz : ¬ z = 0)
    (l0 : 0 < A.slots.size) (l2 : A.slots.size ≤ 536870912) (hp : ∀ i, i < A.slots.size → ¬ 255 < cv A i) (hfr : 4 ≤ R.frames) (hlo : W + 65 ≤ R.locals) :
    Back l R p e below s args New1.yN len W (fun P a => a = #[.ref x, .ref b] ∧ P.U.heap = h ∧ P.cells + 1 ≤ R.cells ∧ P.slots + A.slots.size ≤ R.slots)
      (fun P _ v B => ∃ L, Q Z x A h v B.U.heap L ∧ B.locs = P.locs ++ L ∧ B.cells = P.cells + 1 ∧ B.slots = P.slots + A.slots.size) := by
  intro m meth c P g ig mk a X hg hsize hdg hW hn hp'
  obtain ⟨rfl, rfl, r1, r2⟩ := hp'
  have al : Z.vm.Alike P.U.vm := hZ.alike.trans X.warmed.alike
  obtain ⟨D, cfV, kV, iV, fV, hD, gV, stV, knV, obV, asV, slV⟩ := id V
  obtain ⟨D', cfC, kC, iC, fC, hD', gC, stC, -, -, asC, slC⟩ := id C
  cases hD.symm.trans hD'
  obtain ⟨D2, kD, e1, e2, e3, e4, e5⟩ := id E
  cases hD.symm.trans e1
  obtain ⟨c2, k2, i1, i2, i3, -⟩ := Cond.instantiable_spec wi
  cases e2.symm.trans i1
  cases e3.symm.trans i2
  obtain ⟨kU, u1, u2⟩ := al.2.2 _ _ e3
  have hB : Blank ST x D P.U := ⟨hD, ⟨knV, fun q hq => by rw [hq] at obV; cases obV⟩, by rw [al.findClass]; exact e2, kU, u1, by rw [u2]; exact i3, by rw [u2]; exact e5 i3⟩
  have F1 : Found ST "value" "[B" fV P.U := ⟨SBG.found_only al ⟨cfV, kV, iV, gV⟩, stV⟩
  have F2 : Found ST "coder" "B" fC P.U := ⟨SBG.found_only al ⟨cfC, kC, iC, gC⟩, stC⟩
  have hA : Ch b A P.U := ⟨⟨K.1, State.isArrayOf_alike al K.2.1, K.2.2, by omega⟩, hty⟩
  have hS : StaticIs P.U ST "COMPACT_STRINGS" "Z" (.int z) := by
    obtain ⟨cfS, iS, kS, fS, st, cS, t1, t2, t3, t4, t5, t6, t7⟩ := S
    exact StaticIs.there (s := { Z with heap := P.U.heap }) ⟨cfS, iS, kS, fS, st, cS, t1, t2, t3, t4, t5, (fun q => by rw [q] at t6; cases t6), t7⟩ al rfl
  obtain ⟨v, B, X', ⟨⟨hv, E', V', q1, q2, q3, q4, q5, q6, q7, q8, q9, q10, q11⟩, hl, hc, hs⟩, st⟩ := New1.pays x D fV fC b A z (tab_of (moved hZ hw)) hfr hlo m meth c P g ig mk _ X hg hsize hdg hW hn ⟨r1, r2, rfl, hB, F1, F2, hA, hS, hz, l0, l2, hp⟩
  have al' : Z.vm.Alike B.U.vm := hZ.alike.trans X'.warmed.alike
  have hsz : E'.slots.size = D.slots.size := by
    obtain ⟨-, -, -, kB, w1, w2, w3⟩ := q1
    obtain ⟨kB', y1, y2⟩ := al'.2.2 _ _ e3
    rw [q2.2.1] at w1
    cases w1.symm.trans y1
    rw [w3, e5 i3, y2]
  refine ⟨v, B, X', ⟨_, ⟨hv, ?_, ⟨by omega, fun y cy hy hn' => q10 y cy (by simpa using hn') hy, fun y cy hy => ?_⟩, q11, ⟨E', _, q1.1, by rw [q2.2.1]; exact e2, by rw [q2.2.1]; exact e3, by rw [q2.1]; exact obV, fun _ => by rw [hsz]; exact e5 i3⟩,
    ⟨E', cfV, kV, iV, fV, q1.1, gV, stV, by rw [q2.1]; exact knV, by rw [q2.1]; exact obV, by rw [q2.2.1]; exact asV, q3⟩, ⟨E', cfC, kC, iC, fC, q1.1, gC, stC, by rw [q2.1]; exact knV, by rw [q2.1]; exact obV, by rw [q2.2.1]; exact asC, q4⟩,
    ⟨V', ⟨q5.1, State.isArrayOf_alike al'.symm q5.2.1, q5.2.2.1⟩, q6, by rw [← al'.findClass]; exact q7, q8, fun j hj => by have := q9 j hj; rwa [Nat.zero_add] at this⟩, fun O n d w F n1 n2 => ?_⟩, hl, hc, hs⟩, st⟩
  · intro y hy
    simp only [List.mem_cons, List.not_mem_nil, or_false] at hy
    rcases hy with rfl | rfl <;> rfl
  · by_cases q : y = x
    · subst q
      cases hD.symm.trans hy
      exact ⟨E', q1.1, q2.2.1, q2.1, hsz⟩
    · exact ⟨cy, q10 y cy q hy, rfl, rfl, rfl⟩
  · obtain ⟨D3, cf, k, i, f, g1, g2, g3, g4, g5, g6, g7⟩ := F
    cases hD.symm.trans g1
    simp only [RoadKit.slotOf, g2, gV, gC, Option.map_some, Option.getD_some] at n1 n2
    exact ⟨E', cf, k, i, f, q1.1, g2, g3, by rw [q2.1]; exact g4, by rw [q2.1]; exact g5, by rw [q2.2.1]; exact g6, by rw [q2.2.2 f.slot (by simp [n1, n2])]; exact g7⟩
end StrChars.Road
namespace StrChars.Road
open Jvm Sem ClassFile Op Lib Jvm.Stand Jvm.Free Jvm.Free.XT
/-- WHAT COMES BACK, the byte[] as a list of values -/
def QA (Z : State) (x : Addr) (zn : Int32) (cs : List Int32) (h : Heap) (v : Option Value) (h' : Heap) (L : List Loc) : Prop := v = none ∧ (∀ y ∈ L, y.base = x) ∧ RoadKit.Keep h h' [x] ∧ h'.size = h.size + 1 ∧ RoadKit.Exa Z h' x ST ∧ RoadKit.Fld Z h' x ST "value" "[B" (.ref h.size) ∧ RoadKit.Fld Z h' x ST "coder" "B" (.int 0) ∧
  (∃ kb, Z.vm.findClass "[B" = some kb ∧ RoadKit.Arv Z h' h.size kb .byte zn (cs.map fun c => .int (lo8 c)) (.int 0)) ∧
  ∀ (O n d : String) (w : Value), RoadKit.Fld Z h x O n d w → RoadKit.slotOf Z O n d ≠ RoadKit.slotOf Z ST "value" "[B" → RoadKit.slotOf Z O n d ≠ RoadKit.slotOf Z ST "coder" "B" → RoadKit.Fld Z h' x O n d w
/-- **new String(chars) AT A CALL, THE ARRAYS AS LISTS**: the char[] at b holds cs, not empty, no char above 255 -/
theorem backArv {p : Program} {l : Launch} {e : Env} {R : Room} {s : State} {args : Array Value} {below : List Frame} {len W : Nat} {Z : State} {a0 : Array Value} {h : Heap} (hZ : Z.Warmed39 s.vm) (hw : ∀ d ∈ words, d.before a0 Z = true) {kI : Nat} (wi : (Jvm.Cond.instantiable ST kI).before a0 Z = true)
    {x b : Addr} {k : ClassId} {zn z : Int32} {cs : List Int32} {dv v0 c0 : Value} (E : RoadKit.Exa Z h x ST) (V : RoadKit.Fld Z h x ST "value" "[B" v0) (C : RoadKit.Fld Z h x ST "coder" "B" c0) (K : RoadKit.Arv Z h b k .char zn (cs.map Value.int) dv) (S : RoadKit.Sta Z h ST "COMPACT_STRINGS" "Z" (.int z)) (hz : ¬ z = 0)
    (hlen : zn.toNatClampNeg = cs.length) (h0 : 0 < cs.length) (hbig : cs.length ≤ 536870912) (hall : ∀ c ∈ cs, ¬ 255 < c) (hfr : 4 ≤ R.frames) (hlo : W + 65 ≤ R.locals) :
    Back l R p e below s args New1.yN len W (fun P a => a = #[.ref x, .ref b] ∧ P.U.heap = h ∧ P.cells + 1 ≤ R.cells ∧ P.slots + cs.length ≤ R.slots)
      (fun P _ v B => ∃ L, QA Z x zn cs h v B.U.heap L ∧ B.locs = P.locs ++ L ∧ B.cells = P.cells + 1 ∧ B.slots = P.slots + cs.length) := by
  obtain ⟨A, K1, K2, K3, K4, K5, K6⟩ := K
  have e : A.slots.size = cs.length := K3.trans hlen
  have hat : ∀ (i : Nat) (hi : i < cs.length), A.slots[i]? = some (.int cs[i]) := fun i hi => by rw [K5 i (by omega)]; simp [List.getD_eq_getElem?_getD, hi]
  have hcv : ∀ (i : Nat) (hi : i < cs.length), cv A i = cs[i] := fun i hi => by unfold cv; rw [hat i hi]
  have hty : Typed .char A := fun i v hv => by
    have hi : i < A.slots.size := (Array.getElem?_eq_some_iff.mp hv).1
    have q := K5 i hi
    rw [hv] at q
    rw [Option.some.inj q]
    exact K6 i hi
  refine Back.mono (back hZ hw wi E V C K1 hty S hz (by omega) (by omega) (fun i hi => by rw [hcv i (by omega)]; exact hall _ (List.getElem_mem _)) hfr hlo) (fun P a hp => ⟨hp.1, hp.2.1, hp.2.2.1, by rw [e]; exact hp.2.2.2⟩) (fun P a v B hp hq => ?_)
  obtain ⟨L, ⟨q1, q2, q3, q4, q5, q6, q7, ⟨V', v1, v2, v3, v4, v5⟩, q9⟩, hl, hc, hs⟩ := hq
  refine ⟨L, ⟨q1, q2, q3, q4, q5, q6, q7, ⟨V'.cls, v3, V', v1, rfl, by rw [v4, e, hlen], K4, fun i hi => ?_, fun i hi => ?_⟩, q9⟩, hl, hc, by rw [hs, e]⟩
  · have hi' : i < cs.length := by omega
    rw [v5 i (by omega), hcv i hi']; simp [List.getD_eq_getElem?_getD, hi']
  · have hi' : i < cs.length := by omega
    simp only [List.getD_eq_getElem?_getD, List.getElem?_map, List.getElem?_eq_getElem hi', Option.map_some, Option.getD_some]
    exact fits_lo8 _
end StrChars.Road
namespace StrChars.Road
open Jvm Sem ClassFile Op Lib Jvm.Stand Jvm.Free Jvm.Free.XT
/-- WHAT COMES BACK, in the writer's own shape -/
def QV (Z : State) (x : Addr) (N : Int32) (bs : List Int32) (h : Heap) (n0 : Nat) (v : Option Value) (h' : Heap) (L : List Loc) : Prop := v = none ∧ RoadKit.Fr n0 L ∧ RoadKit.Keep h h' [x] ∧ RoadKit.Exa Z h' x ST ∧ RoadKit.Fld Z h' x ST "coder" "B" (.int 0) ∧
  ∃ (t : Addr) (kb : ClassId), n0 ≤ t ∧ h.size ≤ t ∧ ¬ t = x ∧ RoadKit.Fld Z h' x ST "value" "[B" (.ref t) ∧ RoadKit.Arv Z h' t kb .byte N (bs.map Value.int) (.int 0)
/-- **new String(chars) AT A CALL, FOR THE WRITER**: a char[] of n known ints, each 0 to 255 -/
theorem backV {p : Program} {l : Launch} {e : Env} {R : Room} {s : State} {args : Array Value} {below : List Frame} {len W : Nat} {Z : State} {a0 : Array Value} {h : Heap} (hZ : Z.Warmed39 s.vm) (hw : ∀ d ∈ words, d.before a0 Z = true) {kI : Nat} (wi : (Jvm.Cond.instantiable ST kI).before a0 Z = true)
    {x b : Addr} {kC : ClassId} {cs bs : List Int32} {d v0 c0 : Value} {z N : Int32} {n n0 : Nat} (hx0 : n0 ≤ x) (hh0 : n0 ≤ h.size) (E : RoadKit.Exa Z h x ST) (V : RoadKit.Fld Z h x ST "value" "[B" v0) (C : RoadKit.Fld Z h x ST "coder" "B" c0) (K : RoadKit.Arv Z h b kC .char N (cs.map Value.int) d) (S : RoadKit.Sta Z h ST "COMPACT_STRINGS" "Z" (.int z)) (hz : ¬ z = 0)
    (hn : cs.length = n) (hN : N = Int32.ofNat n) (l0 : 0 < n) (l2 : n ≤ 4000) (hp : ∀ c ∈ cs, ¬ c < 0 ∧ ¬ (255 : Int32) < c) (hb : bs = cs.map (fun c => c.toInt8.toInt32)) (hfr : 4 ≤ R.frames) (hlo : W + 65 ≤ R.locals) :
    Back l R p e below s args (⟨"java/lang/String", "<init>", "([C)V"⟩ : MethodName) len W (fun P a => a = #[.ref x, .ref b] ∧ P.U.heap = h ∧ P.cells + 1 ≤ R.cells ∧ P.slots + n ≤ R.slots)
      (fun P _ v B => ∃ L, QV Z x N bs h n0 v B.U.heap L ∧ B.locs = P.locs ++ L ∧ B.cells = P.cells + 1 ∧ B.slots = P.slots + n) := by
  subst hn hN hb
  refine Back.mono (backArv hZ hw wi E V C K S hz (n32 (by omega)) l0 (by omega) (fun c hc => (hp c hc).2) hfr hlo) (fun P a hp => hp) (fun P a v B hp hq => ?_)
  obtain ⟨L, ⟨q1, q2, q3, q4, q5, q6, q7, ⟨kb, v1, v2⟩, q9⟩, hl, hc, hs⟩ := hq
  exact ⟨L, ⟨q1, fun y hy => by rw [q2 y hy]; exact hx0, q3, q5, q7, h.size, kb, hh0, Nat.le_refl _, Nat.ne_of_gt E.lt, q6, by rw [List.map_map]; exact v2⟩, hl, hc, hs⟩
end StrChars.Road
end Jvm.Pilot.@@N@@
namespace Jvm.Pilot.@@N@@
open Jvm Jvm.ClassFile Sem Op Lib Jvm.Free Jvm.Stand Jvm.LawKit Jvm.RoadKit Bundle Jvm.Pilot.@@N@@.Jvm.D
section Own
open Jvm.OwnFl Jvm.FP.Core Jvm.Free.Fl
abbrev own_v (sc : UInt64) : UInt64 := FP.dadd (FP.ddiv (FP.l2d (Jvm.Free.Hsc.MRound.roundOf (FP.dmul sc (4696837146684686336 : UInt64)))) (4696837146684686336 : UInt64)) (0 : UInt64)
theorem own_chars (y : Int32) : ¬ nar .char ((y &&& (255 : Int32)).toUInt32.toUInt16.toUInt32.toInt32) < 0 ∧ ¬ (255 : Int32) < nar .char ((y &&& (255 : Int32)).toUInt32.toUInt16.toUInt32.toInt32) := by
  have t : ∀ k : Fin 256, ¬ nar .char ((Int32.ofNat k.val).toUInt32.toUInt16.toUInt32.toInt32) < 0 ∧ ¬ (255 : Int32) < nar .char ((Int32.ofNat k.val).toUInt32.toUInt16.toUInt32.toInt32) := by decide +kernel
  have h : (y &&& 255).toBitVec.toNat < 256 := by
    simp only [Int32.toBitVec_and, BitVec.toNat_and]
    exact Nat.lt_succ_of_le Nat.and_le_right
  have e : (y &&& 255) = Int32.ofNat (y &&& 255).toBitVec.toNat := by
    apply Int32.toBitVec_inj.mp
    show _ = BitVec.ofNat 32 _
    rw [BitVec.ofNat_toNat]; simp
  rw [e]
  exact t ⟨_, h⟩
theorem own_td (y : Int) : (0 ≤ y → y.tdiv 10 = y / 10 ∧ y.tmod 10 = y % 10) ∧ (y < 0 → y.tdiv 10 = -((-y) / 10) ∧ y.tmod 10 = -((-y) % 10)) := by
  refine ⟨fun h => ⟨Int.tdiv_eq_ediv_of_nonneg h, Int.tmod_eq_emod_of_nonneg h⟩, fun h => ?_⟩
  have a := Int.neg_tdiv (a := -y) (b := 10)
  have b := Int.neg_tmod (a := -y) (b := 10)
  rw [Int.neg_neg] at a b
  rw [a, b, Int.tdiv_eq_ediv_of_nonneg (by omega), Int.tmod_eq_emod_of_nonneg (by omega)]
  exact ⟨rfl, rfl⟩
theorem own_m {y v : Int64} (q : y - y / (1099511627776 : Int64) * (1099511627776 : Int64) = v) : -1099511627776 < v.toInt ∧ v.toInt < 1099511627776 := by
  rw [← q, Jvm.Kit.i64_rem, show (1099511627776 : Int64).toInt = 1099511627776 from rfl]
  exact ⟨Int.lt_tmod_of_pos _ (by decide), Int.tmod_lt_of_pos _ (by decide)⟩
theorem own_10 (v : Int64) : (v / (10 : Int64)).toInt = v.toInt.tdiv 10 := by
  rw [Jvm.Kit.i64_div (by rintro ⟨-, q⟩; revert q; decide)]; rfl
def own_H (v r : Int64) : Prop := (-1099511627776 < v.toInt ∧ v.toInt < 1099511627776) ∧ 10 * (v / (10 : Int64)).toInt + r.toInt = v.toInt ∧ -9 ≤ r.toInt ∧ r.toInt ≤ 9 ∧ r.toInt ≠ 5 ∧ r.toInt ≠ -5
theorem own_r {v r : Int64} (q : v - v / (10 : Int64) * (10 : Int64) = r) : r.toInt = v.toInt.tmod 10 := by
  rw [← q, Jvm.Kit.i64_rem]; rfl
theorem own_H0 {v r : Int64} (hv : -1099511627776 < v.toInt ∧ v.toInt < 1099511627776) (q : v - v / (10 : Int64) * (10 : Int64) = r) (h1 : ¬ lcmpW r (5 : Int64) = (0 : Int32)) (h2 : ¬ lcmpW r (-5 : Int64) = (0 : Int32)) : own_H v r := by
  have e := own_r q
  rw [Jvm.OwnFl.lc_eq] at h1 h2
  have t := own_td v.toInt
  refine ⟨hv, ?_⟩
  rw [own_10]
  have e5 : (5 : Int64).toInt = 5 := rfl
  have e6 : (-5 : Int64).toInt = -5 := rfl
  rcases Int.lt_or_le v.toInt 0 with h | h
  · have := t.2 h; omega
  · have := t.1 h; omega
theorem own_H1 {v r : Int64} (hv : -1099511627776 < v.toInt ∧ v.toInt < 1099511627776) (q : v - v / (10 : Int64) * (10 : Int64) = r) (h1 : lcmpW r (5 : Int64) = (0 : Int32)) : own_H (v - (1 : Int64)) (4 : Int64) := by
  have e := own_r q
  rw [Jvm.OwnFl.lc_eq] at h1
  have t := own_td v.toInt
  have e5 : (5 : Int64).toInt = 5 := rfl
  have e4 : (4 : Int64).toInt = 4 := rfl
  have e1 : (1 : Int64).toInt = 1 := rfl
  have es : (v - (1 : Int64)).toInt = v.toInt - 1 := by rw [Jvm.Kit.i64_sub (by rw [e1]; omega) (by rw [e1]; omega), e1]
  have t' := own_td (v.toInt - 1)
  unfold own_H
  rw [own_10, es, e4]
  rcases Int.lt_or_le v.toInt 1 with h | h
  · exfalso
    rcases Int.lt_or_le v.toInt 0 with h' | h'
    · have := t.2 h'; omega
    · have := t.1 h'; omega
  · have := t.1 (by omega); have := t'.1 (by omega); omega
theorem own_H2 {v r : Int64} (hv : -1099511627776 < v.toInt ∧ v.toInt < 1099511627776) (q : v - v / (10 : Int64) * (10 : Int64) = r) (h1 : lcmpW r (-5 : Int64) = (0 : Int32)) : own_H (v + (1 : Int64)) (-4 : Int64) := by
  have e := own_r q
  rw [Jvm.OwnFl.lc_eq] at h1
  have t := own_td v.toInt
  have e5 : (-5 : Int64).toInt = -5 := rfl
  have e4 : (-4 : Int64).toInt = -4 := rfl
  have e1 : (1 : Int64).toInt = 1 := rfl
  have es : (v + (1 : Int64)).toInt = v.toInt + 1 := by rw [Jvm.Kit.i64_add (by rw [e1]; omega) (by rw [e1]; omega), e1]
  have t' := own_td (v.toInt + 1)
  unfold own_H
  rw [own_10, es, e4]
  rcases Int.lt_or_le v.toInt 0 with h | h
  · have := t.2 (by omega)
    rcases Int.lt_or_le (v.toInt + 1) 0 with h' | h'
    · have := t'.2 h'; omega
    · have := t'.1 h'; omega
  · exfalso
    have := t.1 (by omega); omega
abbrev own_R (v r : Int64) : Prop := 10 * r.toInt - 4 ≤ v.toInt ∧ v.toInt ≤ 10 * r.toInt + 4
theorem own_q {v r k : Int64} (h : own_H v r) (q : v / (10 : Int64) = k) : (0 < lcmpW r (5 : Int64) → own_R v (k + (1 : Int64))) ∧ (¬ 0 < lcmpW r (5 : Int64) → lcmpW r (-5 : Int64) < 0 → own_R v (k - (1 : Int64))) ∧ (¬ 0 < lcmpW r (5 : Int64) → ¬ lcmpW r (-5 : Int64) < 0 → own_R v k) := by
  obtain ⟨hv, h1, h2, h3, h4, h5⟩ := h
  rw [q] at h1
  rw [Jvm.OwnFl.lc_gt, Jvm.OwnFl.lc_lt]
  have e5 : (5 : Int64).toInt = 5 := rfl
  have e6 : (-5 : Int64).toInt = -5 := rfl
  have e1 : (1 : Int64).toInt = 1 := rfl
  have a1 : (k + (1 : Int64)).toInt = k.toInt + 1 := by rw [Jvm.Kit.i64_add (by rw [e1]; omega) (by rw [e1]; omega), e1]
  have a2 : (k - (1 : Int64)).toInt = k.toInt - 1 := by rw [Jvm.Kit.i64_sub (by rw [e1]; omega) (by rw [e1]; omega), e1]
  unfold own_R
  rw [a1, a2, e5, e6]
  omega
theorem own_odd {y : Int32} {o : Int64} (q : (2 : Int64) * (y - y / (1048576 : Int32) * (1048576 : Int32)).toInt64 + (1 : Int64) = o) : (-4194304 ≤ o.toInt ∧ o.toInt ≤ 4194304) ∧ o.toInt % 2 = 1 := by
  have e0 : (y - y / (1048576 : Int32) * (1048576 : Int32)).toInt = y.toInt.tmod 1048576 := by
    have i := Int.mul_tdiv_add_tmod y.toInt 1048576
    have t0 : 0 ≤ y.toInt → 0 ≤ y.toInt.tmod 1048576 := Int.tmod_nonneg _
    have b1 := Int.lt_tmod_of_pos y.toInt (show (0 : Int) < 1048576 by decide)
    have b2 := Int.tmod_lt_of_pos y.toInt (show (0 : Int) < 1048576 by decide)
    have c1 := y.le_toInt
    have c2 := y.toInt_lt
    have dv : (y / (1048576 : Int32)).toInt = y.toInt.tdiv 1048576 := by rw [Jvm.Kit.i32_div (by rintro ⟨-, q⟩; revert q; decide)]; rfl
    generalize y.toInt.tdiv 1048576 = d at *
    generalize y.toInt.tmod 1048576 = t at *
    have em : (1048576 : Int32).toInt = 1048576 := rfl
    have pr : (y / (1048576 : Int32) * (1048576 : Int32)).toInt = d * 1048576 := by rw [Jvm.Kit.i32_mul (by rw [dv, em]; omega) (by rw [dv, em]; omega), dv, em]
    rw [Jvm.Kit.i32_sub (by rw [pr]; omega) (by rw [pr]; omega), pr]; omega
  have b1 := Int.lt_tmod_of_pos y.toInt (show (0 : Int) < 1048576 by decide)
  have b2 := Int.tmod_lt_of_pos y.toInt (show (0 : Int) < 1048576 by decide)
  generalize y - y / (1048576 : Int32) * (1048576 : Int32) = w at *
  have e1 : (1 : Int64).toInt = 1 := rfl
  have e2 : (2 : Int64).toInt = 2 := rfl
  have m1 : ((2 : Int64) * w.toInt64).toInt = 2 * w.toInt := by rw [Jvm.Kit.i64_mul (by rw [Jvm.Kit.i64_of_i32, e2]; omega) (by rw [Jvm.Kit.i64_of_i32, e2]; omega), Jvm.Kit.i64_of_i32, e2]
  rw [← q, Jvm.Kit.i64_add (by rw [m1, e1]; omega) (by rw [m1, e1]; omega), m1, e1]
  omega
end Own
theorem d8_0 : decode prog_17_method_1_code 0 = .ok (.aload_n 0, 1) := by decide +kernel
theorem d8_1 : decode prog_17_method_1_code 1 = .ok (.invokespecial 1, 3) := by decide +kernel
theorem d8_4 : decode prog_17_method_1_code 4 = .ok (.aload_n 0, 1) := by decide +kernel
theorem d8_5 : decode prog_17_method_1_code 5 = .ok (.aload_n 1, 1) := by decide +kernel
theorem d8_6 : decode prog_17_method_1_code 6 = .ok (.putfield 7, 3) := by decide +kernel
theorem d8_9 : decode prog_17_method_1_code 9 = .ok (.aload_n 0, 1) := by decide +kernel
theorem d8_10 : decode prog_17_method_1_code 10 = .ok (.dload_n 2, 1) := by decide +kernel
theorem d8_11 : decode prog_17_method_1_code 11 = .ok (.dconst 0, 1) := by decide +kernel
theorem d8_12 : decode prog_17_method_1_code 12 = .ok (.dadd, 1) := by decide +kernel
theorem d8_13 : decode prog_17_method_1_code 13 = .ok (.putfield 13, 3) := by decide +kernel
theorem d8_16 : decode prog_17_method_1_code 16 = .ok (.return_, 1) := by decide +kernel
theorem pn0 : plainName "com/example/palaute/palaute/ScoredDocument" = true := by first | (simp [plainName, overriddenIn]; done) | decide +kernel
def Q_sdi (Z : State) (a : Addr) (q : Addr) (u : UInt64) (o0 : Value) (o1 : Value) (h0 : Heap) (n0 : Nat) (v : Option Value) (h : Heap) (L : List Loc) : Prop := v = none ∧ Fr n0 L ∧ Keep h0 h [a] ∧ Exa Z h a "com/example/palaute/palaute/ScoredDocument" ∧ Fld Z h a "com/example/palaute/palaute/ScoredDocument" "number" "Ljava/lang/String;" (.ref q) ∧ Fld Z h a "com/example/palaute/palaute/ScoredDocument" "score" "D" (.double (FP.dadd u (0 : UInt64)))
theorem ef_sdi (m : MethodId) (y0 : Addr) (y1 : Addr) (y2 : UInt64) : entryFrame m #[(.ref y0), (.ref y1), (.double y2)] 4 = mkF m 0 #[.val (.ref y0), .val (.ref y1), .val (.double y2), .second] [] := by first | (simp [entryFrame, mkF, argsToLocals, Value.category, maxLocals]; done) | rfl
set_option maxRecDepth 65536 in
set_option maxHeartbeats 40000000 in
theorem rm_sdi (l : Launch) (Z : State) (a0 : Array Value) (hw : ∀ d ∈ tables_1, d.before a0 Z = true) (ws : List Jvm.Cond) (a : Addr) (q : Addr) (u : UInt64) (o0 : Value) (o1 : Value) (h0 : Heap) (n0 : Nat) (Z0 : n0 ≤ h0.size) (E0_a : Exa Z h0 a "com/example/palaute/palaute/ScoredDocument") (ge_a : n0 ≤ a) (F0_a_number : Fld Z h0 a "com/example/palaute/palaute/ScoredDocument" "number" "Ljava/lang/String;" o0) (F0_a_score : Fld Z h0 a "com/example/palaute/palaute/ScoredDocument" "score" "D" o1) (hn : Jvm.Free.Fl.NoNaN64 (FP.dadd u (0 : UInt64))) :
    MetFree l (⟨"com/example/palaute/palaute/ScoredDocument", "<init>", "(Ljava/lang/String;D)V"⟩ : MethodName) (head1 (Jvm.Cond.code (⟨"com/example/palaute/palaute/ScoredDocument", "<init>", "(Ljava/lang/String;D)V"⟩ : MethodName) prog_17_method_1_code 4 none :: ws) ({ frames := 1, cells := 0, slots := 0, locals := 12 } : Room)) (fun aa_ U => aa_ = #[(.ref a), (.ref q), (.double u)] ∧ Z.Warmed39 U.vm ∧ U.heap = h0) (fun _ _ _ _ _ => True) (fun _ U o U' => ∃ v L, o = .returned v ∧ Q_sdi Z a q u o0 o1 h0 n0 v U'.heap L ∧ FrameEnd U o U' L (({ frames := 1, cells := 0, slots := 0, locals := 12 } : Room)).cells (({ frames := 1, cells := 0, slots := 0, locals := 12 } : Room)).slots) := by
  refine Go.met (plainFor_of_name pn0) ?_
  intro p e s m below meth c s₁ hx hby hml hown hnm hret hlk hZ e0 X0
  have N0 := Fr.nil n0
  refine Go.cast (ef_sdi m a q u) ?_
  refine Go.st (U := (s₁.setTop (mkF m 1 #[.val (.ref a), .val (.ref q), .val (.double u), .second] [(.ref a)]))) (fun t_ k_ => XS.aloadN X0.here hx rfl (hb hby d8_0) rfl rfl k_) ?_
  obtain ⟨Ti1, Xi1, ei1, sti1⟩ := initO X0 hx hZ hown (hw _ (List.mem_of_getElem? (i := 59) rfl)) (hw _ (List.mem_of_getElem? (i := 12) rfl)) (hw _ (List.mem_of_getElem? (i := 13) rfl)) e0 (g := (mkF m 1 #[.val (.ref a), .val (.ref q), .val (.double u), .second] [(.ref a)])) rfl (by rw [hml]; rfl) rfl (hb hby d8_1) (by decide) (W := 0) (by show 2 * 0 + _ ≤ _; exact Nat.le_of_eq rfl) (by decide)
  refine Go.st (U := (Ti1.setTop (mkF m 4 #[.val (.ref a), .val (.ref q), .val (.double u), .second] []))) sti1 ?_
  refine Go.st (U := (Ti1.setTop (mkF m 5 #[.val (.ref a), .val (.ref q), .val (.double u), .second] [(.ref a)]))) (fun t_ k_ => XS.aloadN Xi1.here hx rfl (hb hby d8_4) rfl rfl k_) ?_
  refine Go.st (U := (Ti1.setTop (mkF m 6 #[.val (.ref a), .val (.ref q), .val (.double u), .second] [(.ref q), (.ref a)]))) (fun t_ k_ => XS.aloadN Xi1.here hx rfl (hb hby d8_5) rfl rfl k_) ?_
  obtain ⟨Ti2, hi2, Xi2, ei2, Wi2, sti2⟩ := putF Xi1 hx hZ hown (host := "") (Or.inl (hw _ (List.mem_of_getElem? (i := 60) rfl))) Via.refl ei1 F0_a_number E0_a (Or.inr ⟨(hw _ (List.mem_of_getElem? (i := 61) rfl)), rfl, hnm⟩) (hw _ (List.mem_of_getElem? (i := 41) rfl)) (ty := .object "java/lang/String") (by decide) rfl rfl (g := (mkF m 6 #[.val (.ref a), .val (.ref q), .val (.double u), .second] [(.ref q), (.ref a)])) rfl rfl (hb hby d8_6)
  have Ni2 := Fr.snoc Xi2 N0 ge_a
  have Zi2 : n0 ≤ hi2.size := by rw [Wi2.size]; exact Z0
  have Fi2_a_number := Fld.same Wi2 F0_a_number
  have Fi2_a_score := Fld.other Wi2 F0_a_score (Or.inr (slot_ne (Or.inr (hw _ (List.mem_of_getElem? (i := 63) rfl))) (Or.inr (hw _ (List.mem_of_getElem? (i := 61) rfl))) (by decide) (t := .double) (t' := .object "java/lang/String") (by decide) (by decide)))
  have Ei2_a := Exa.wr Wi2 E0_a
  have Ki2 := Keep.wr (Keep.refl h0 [a]) Wi2 (Or.inl (List.mem_of_getElem? (i := 0) rfl))
  refine Go.st (U := (Ti2.setTop (mkF m 9 #[.val (.ref a), .val (.ref q), .val (.double u), .second] []))) sti2 ?_
  refine Go.st (U := (Ti2.setTop (mkF m 10 #[.val (.ref a), .val (.ref q), .val (.double u), .second] [(.ref a)]))) (fun t_ k_ => XS.aloadN Xi2.here hx rfl (hb hby d8_9) rfl rfl k_) ?_
  refine Go.st (U := (Ti2.setTop (mkF m 11 #[.val (.ref a), .val (.ref q), .val (.double u), .second] [(.double u), (.ref a)]))) (fun t_ k_ => XS.dloadN Xi2.here hx rfl (hb hby d8_10) rfl k_) ?_
  refine Go.st (U := (Ti2.setTop (mkF m 12 #[.val (.ref a), .val (.ref q), .val (.double u), .second] [(.double (0 : UInt64)), (.double u), (.ref a)]))) (fun t_ k_ => XS.dconst0 Xi2.here hx rfl (hb hby d8_11) rfl k_) ?_
  refine Go.st (U := (Ti2.setTop (mkF m 13 #[.val (.ref a), .val (.ref q), .val (.double u), .second] [(.double (FP.dadd u (0 : UInt64))), (.ref a)]))) (fun t_ k_ => XS.daddS Xi2.here hx rfl (hb hby d8_12) rfl hn rfl k_) ?_
  obtain ⟨Ti3, hi3, Xi3, ei3, Wi3, sti3⟩ := putF Xi2 hx hZ hown (host := "") (Or.inl (hw _ (List.mem_of_getElem? (i := 62) rfl))) Via.refl ei2 Fi2_a_score Ei2_a (Or.inr ⟨(hw _ (List.mem_of_getElem? (i := 63) rfl)), rfl, hnm⟩) (hw _ (List.mem_of_getElem? (i := 41) rfl)) (ty := .double) (by decide) rfl rfl (g := (mkF m 13 #[.val (.ref a), .val (.ref q), .val (.double u), .second] [(.double (FP.dadd u (0 : UInt64))), (.ref a)])) rfl rfl (hb hby d8_13)
  have Ni3 := Fr.snoc Xi3 Ni2 ge_a
  have Zi3 : n0 ≤ hi3.size := by rw [Wi3.size]; exact Zi2
  have Fi3_a_number := Fld.other Wi3 Fi2_a_number (Or.inr (slot_ne (Or.inr (hw _ (List.mem_of_getElem? (i := 61) rfl))) (Or.inr (hw _ (List.mem_of_getElem? (i := 63) rfl))) (by decide) (t := .object "java/lang/String") (t' := .double) (by decide) (by decide)))
  have Fi3_a_score := Fld.same Wi3 Fi2_a_score
  have Ei3_a := Exa.wr Wi3 Ei2_a
  have Ki3 := Keep.wr Ki2 Wi3 (Or.inl (List.mem_of_getElem? (i := 0) rfl))
  refine Go.st (U := (Ti3.setTop (mkF m 16 #[.val (.ref a), .val (.ref q), .val (.double u), .second] []))) sti3 ?_
  refine Go.retV (st := []) Xi3 hx hlk hret (hb hby d8_16) (by decide) (by decide) ?_
  show Q_sdi Z a q u o0 o1 h0 n0 _ Ti3.heap _
  rw [ei3]
  exact ⟨rfl, Ni3, Ki3, Ei3_a, Fi3_a_number, Fi3_a_score⟩
theorem d6_0 : decode prog_17_method_2_code 0 = .ok (.new 8, 3) := by decide +kernel
theorem d6_3 : decode prog_17_method_2_code 3 = .ok (.dup, 1) := by decide +kernel
theorem d6_4 : decode prog_17_method_2_code 4 = .ok (.aload_n 0, 1) := by decide +kernel
theorem d6_5 : decode prog_17_method_2_code 5 = .ok (.dload_n 1, 1) := by decide +kernel
theorem d6_6 : decode prog_17_method_2_code 6 = .ok (.ldc2_w 17, 3) := by decide +kernel
theorem d6_9 : decode prog_17_method_2_code 9 = .ok (.dmul, 1) := by decide +kernel
theorem d6_10 : decode prog_17_method_2_code 10 = .ok (.invokestatic 19, 3) := by decide +kernel
theorem d6_13 : decode prog_17_method_2_code 13 = .ok (.l2d, 1) := by decide +kernel
theorem d6_14 : decode prog_17_method_2_code 14 = .ok (.ldc2_w 17, 3) := by decide +kernel
theorem d6_17 : decode prog_17_method_2_code 17 = .ok (.ddiv, 1) := by decide +kernel
theorem d6_18 : decode prog_17_method_2_code 18 = .ok (.invokespecial 25, 3) := by decide +kernel
theorem d6_21 : decode prog_17_method_2_code 21 = .ok (.areturn, 1) := by decide +kernel
def Q_prt (Z : State) (q : Addr) (u : UInt64) (h0 : Heap) (n0 : Nat) (v : Option Value) (h : Heap) (L : List Loc) : Prop := ∃ b : Addr, v = some (.ref b) ∧ Fr n0 L ∧ Keep h0 h [] ∧ n0 ≤ b ∧ h0.size ≤ b ∧ Exa Z h b "com/example/palaute/palaute/ScoredDocument" ∧ Fld Z h b "com/example/palaute/palaute/ScoredDocument" "number" "Ljava/lang/String;" (.ref q) ∧ Fld Z h b "com/example/palaute/palaute/ScoredDocument" "score" "D" (.double (own_v u))
theorem ef_prt (m : MethodId) (y0 : Addr) (y1 : UInt64) : entryFrame m #[(.ref y0), (.double y1)] 3 = mkF m 0 #[.val (.ref y0), .val (.double y1), .second] [] := by first | (simp [entryFrame, mkF, argsToLocals, Value.category, maxLocals]; done) | rfl
theorem pd0 : parseMethodDescriptor "(Ljava/lang/String;D)V" = some ⟨[.object "java/lang/String", .double], none⟩ := by decide +kernel
set_option maxRecDepth 65536 in
set_option maxHeartbeats 40000000 in
theorem rm_prt (l : Launch) (Z : State) (a0 : Array Value) (hw : ∀ d ∈ tables_1, d.before a0 Z = true) (ws : List Jvm.Cond) (q : Addr) (u : UInt64) (h0 : Heap) (n0 : Nat) (Z0 : n0 ≤ h0.size) (hn1 : Jvm.Free.Fl.NoNaN64 (FP.dmul u (4696837146684686336 : UInt64))) (hn2 : Jvm.Free.Fl.NoNaN64 (FP.ddiv (FP.l2d (Jvm.Free.Hsc.MRound.roundOf (FP.dmul u (4696837146684686336 : UInt64)))) (4696837146684686336 : UInt64))) (hn3 : Jvm.Free.Fl.NoNaN64 (own_v u)) :
    MetFree l (⟨"com/example/palaute/palaute/ScoredDocument", "asPrinted", "(Ljava/lang/String;D)Lcom/example/palaute/palaute/ScoredDocument;"⟩ : MethodName) (head1 (Jvm.Cond.code (⟨"com/example/palaute/palaute/ScoredDocument", "asPrinted", "(Ljava/lang/String;D)Lcom/example/palaute/palaute/ScoredDocument;"⟩ : MethodName) prog_17_method_2_code 3 (some (.object "com/example/palaute/palaute/ScoredDocument")) :: ws) ({ frames := 2, cells := 1, slots := 2, locals := 64 } : Room)) (fun aa_ U => aa_ = #[(.ref q), (.double u)] ∧ Z.Warmed39 U.vm ∧ U.heap = h0) (fun _ _ _ _ _ => True) (fun _ U o U' => ∃ v L, o = .returned v ∧ Q_prt Z q u h0 n0 v U'.heap L ∧ FrameEnd U o U' L (({ frames := 2, cells := 1, slots := 2, locals := 64 } : Room)).cells (({ frames := 2, cells := 1, slots := 2, locals := 64 } : Room)).slots) := by
  refine Go.met (plainFor_of_name pn0) ?_
  intro p e s m below meth c s₁ hx hby hml hown hnm hret hlk hZ e0 X0
  have N0 := Fr.nil n0
  refine Go.cast (ef_prt m q u) ?_
  obtain ⟨Ti1, hi1, Xi1, ei1, Gi1, Ai1, Di1, -, sti1⟩ := newO X0 hx hZ hown (hw _ (List.mem_of_getElem? (i := 40) rfl)) (hw _ (List.mem_of_getElem? (i := 41) rfl)) (hw _ (List.mem_of_getElem? (i := 38) rfl)) e0 (g := (mkF m 0 #[.val (.ref q), .val (.double u), .second] [])) rfl (hb hby d6_0) (by decide) (by decide)
  obtain ⟨bb, gi1⟩ : ∃ z, z = h0.size := ⟨_, rfl⟩
  rw [← gi1] at Ai1 Di1 sti1
  have ge_bb : n0 ≤ bb := Nat.le_trans Z0 (Nat.le_of_eq gi1.symm)
  have sz_bb : h0.size ≤ bb := Nat.le_of_eq gi1.symm
  have sz0_bb : h0.size ≤ bb := Nat.le_trans (Keep.size_le (Keep.refl h0 [])) sz_bb
  have Fi1_bb_number : Fld Z hi1 bb "com/example/palaute/palaute/ScoredDocument" "number" "Ljava/lang/String;" .null := Di1 (Or.inr (hw _ (List.mem_of_getElem? (i := 61) rfl))) (ty := .object "java/lang/String") (by decide)
  have Fi1_bb_score : Fld Z hi1 bb "com/example/palaute/palaute/ScoredDocument" "score" "D" (.double 0) := Di1 (Or.inr (hw _ (List.mem_of_getElem? (i := 63) rfl))) (ty := .double) (by decide)
  have Zi1 : n0 ≤ hi1.size := Nat.le_trans Z0 Gi1.1
  have Ki1 := Keep.ext (Keep.refl h0 []) Gi1
  refine Go.st (U := (Ti1.setTop (mkF m 3 #[.val (.ref q), .val (.double u), .second] [(.ref bb)]))) sti1 ?_
  refine Go.st (U := (Ti1.setTop (mkF m 4 #[.val (.ref q), .val (.double u), .second] [(.ref bb), (.ref bb)]))) (fun t_ k_ => XS.dup Xi1.here hx rfl (hb hby d6_3) rfl rfl k_) ?_
  refine Go.st (U := (Ti1.setTop (mkF m 5 #[.val (.ref q), .val (.double u), .second] [(.ref q), (.ref bb), (.ref bb)]))) (fun t_ k_ => XS.aloadN Xi1.here hx rfl (hb hby d6_4) rfl rfl k_) ?_
  refine Go.st (U := (Ti1.setTop (mkF m 6 #[.val (.ref q), .val (.double u), .second] [(.double u), (.ref q), (.ref bb), (.ref bb)]))) (fun t_ k_ => XS.dloadN Xi1.here hx rfl (hb hby d6_5) rfl k_) ?_
  refine Go.st (U := (Ti1.setTop (mkF m 9 #[.val (.ref q), .val (.double u), .second] [(.double (4696837146684686336 : UInt64)), (.double u), (.ref q), (.ref bb), (.ref bb)]))) (Xi1.ldc2DoubleC hx hown (mvT hZ (hw _ (List.mem_of_getElem? (i := 42) rfl))) (g := (mkF m 6 #[.val (.ref q), .val (.double u), .second] [(.double u), (.ref q), (.ref bb), (.ref bb)])) rfl (hb hby d6_6)) ?_
  refine Go.st (U := (Ti1.setTop (mkF m 10 #[.val (.ref q), .val (.double u), .second] [(.double (FP.dmul u (4696837146684686336 : UInt64))), (.ref q), (.ref bb), (.ref bb)]))) (fun t_ k_ => XS.dmulS Xi1.here hx rfl (hb hby d6_9) rfl hn1 rfl k_) ?_
  refine Go.rnd Xi1 hx hZ hown (hw _ (List.mem_of_getElem? (i := 43) rfl)) (hw _ (List.mem_of_getElem? (i := 44) rfl)) (hw _ (List.mem_of_getElem? (i := 45) rfl)) (hw _ (List.mem_of_getElem? (i := 46) rfl)) rfl (hw _ (List.mem_of_getElem? (i := 47) rfl)) (hw _ (List.mem_of_getElem? (i := 50) rfl)) (hw _ (List.mem_of_getElem? (i := 48) rfl)) (hw _ (List.mem_of_getElem? (i := 49) rfl)) (hw _ (List.mem_of_getElem? (i := 51) rfl)) (hw _ (List.mem_of_getElem? (i := 52) rfl)) (hw _ (List.mem_of_getElem? (i := 53) rfl)) (hw _ (List.mem_of_getElem? (i := 54) rfl)) (hw _ (List.mem_of_getElem? (i := 55) rfl)) ei1 3 (by decide) (by decide) (g := (mkF m 10 #[.val (.ref q), .val (.double u), .second] [(.double (FP.dmul u (4696837146684686336 : UInt64))), (.ref q), (.ref bb), (.ref bb)])) rfl (by rw [hml]; rfl) [(.ref q), (.ref bb), (.ref bb)] rfl (by show 2 * 0 + _ ≤ _; exact Nat.le_of_eq rfl) (hb hby d6_10) (by decide) (by decide) ?_
  intro Ti2 ei2 Xi2
  show Go p e below s _ _ (Ti2.setTop (mkF m 13 #[.val (.ref q), .val (.double u), .second] [(.long (Jvm.Free.Hsc.MRound.roundOf (FP.dmul u (4696837146684686336 : UInt64)))), (.ref q), (.ref bb), (.ref bb)]))
  refine Go.st (U := (Ti2.setTop (mkF m 14 #[.val (.ref q), .val (.double u), .second] [(.double (FP.l2d (Jvm.Free.Hsc.MRound.roundOf (FP.dmul u (4696837146684686336 : UInt64))))), (.ref q), (.ref bb), (.ref bb)]))) (fun t_ k_ => XS.l2dS Xi2.here hx rfl (hb hby d6_13) rfl rfl k_) ?_
  refine Go.st (U := (Ti2.setTop (mkF m 17 #[.val (.ref q), .val (.double u), .second] [(.double (4696837146684686336 : UInt64)), (.double (FP.l2d (Jvm.Free.Hsc.MRound.roundOf (FP.dmul u (4696837146684686336 : UInt64))))), (.ref q), (.ref bb), (.ref bb)]))) (Xi2.ldc2DoubleC hx hown (mvT hZ (hw _ (List.mem_of_getElem? (i := 42) rfl))) (g := (mkF m 14 #[.val (.ref q), .val (.double u), .second] [(.double (FP.l2d (Jvm.Free.Hsc.MRound.roundOf (FP.dmul u (4696837146684686336 : UInt64))))), (.ref q), (.ref bb), (.ref bb)])) rfl (hb hby d6_14)) ?_
  refine Go.st (U := (Ti2.setTop (mkF m 18 #[.val (.ref q), .val (.double u), .second] [(.double (FP.ddiv (FP.l2d (Jvm.Free.Hsc.MRound.roundOf (FP.dmul u (4696837146684686336 : UInt64)))) (4696837146684686336 : UInt64))), (.ref q), (.ref bb), (.ref bb)]))) (fun t_ k_ => XS.ddivS Xi2.here hx rfl (hb hby d6_17) rfl hn2 rfl k_) ?_
  refine Go.callI Xi2 hx hZ hown rfl (hw _ (List.mem_of_getElem? (i := 56) rfl)) (hw _ (List.mem_of_getElem? (i := 57) rfl)) (hw _ (List.mem_of_getElem? (i := 38) rfl)) (hw _ (List.mem_of_getElem? (i := 58) rfl)) (by decide) (rm_sdi l Z a0 hw [] bb q (FP.ddiv (FP.l2d (Jvm.Free.Hsc.MRound.roundOf (FP.dmul u (4696837146684686336 : UInt64)))) (4696837146684686336 : UInt64)) (.null) (.double 0) hi1 n0 Zi1 Ai1 ge_bb Fi1_bb_number Fi1_bb_score hn3) ei2 1 (by decide) (by decide) (g := (mkF m 18 #[.val (.ref q), .val (.double u), .second] [(.double (FP.ddiv (FP.l2d (Jvm.Free.Hsc.MRound.roundOf (FP.dmul u (4696837146684686336 : UInt64)))) (4696837146684686336 : UInt64))), (.ref q), (.ref bb), (.ref bb)])) rfl (by rw [hml]; rfl) bb [(.ref q), (.double (FP.ddiv (FP.l2d (Jvm.Free.Hsc.MRound.roundOf (FP.dmul u (4696837146684686336 : UInt64)))) (4696837146684686336 : UInt64)))] [(.ref bb)] rfl (lenOf pd0 rfl) rfl (by show 2 * 0 + _ ≤ _; exact Nat.le_of_eq rfl) (hb hby d6_18) (by decide) (by decide) ?_
  intro vi3 Ti3 Li3 hQi3 Xi3
  obtain ⟨rfl, Ni3, Ki3, Ei3_bb, Fi3_bb_number, Fi3_bb_score⟩ := hQi3
  have Ni3 := Fr.app N0 Ni3
  have Zi3 : n0 ≤ Ti3.heap.size := Nat.le_trans Zi1 Ki3.1
  have Ki3 := Keep.trans Ki1 Ki3 (allS (Or.inr sz0_bb) all0)
  show Go p e below s _ _ (Ti3.setTop (mkF m 21 #[.val (.ref q), .val (.double u), .second] [(.ref bb)]))
  refine Go.retA Xi3 hx hlk hret (hb hby d6_21) (by decide) (by decide) ?_
  show Q_prt Z q u h0 n0 _ Ti3.heap _
  rw [(rfl : Ti3.heap = Ti3.heap)]
  exact ⟨bb, rfl, Ni3, Ki3, ge_bb, sz0_bb, Ei3_bb, Fi3_bb_number, Fi3_bb_score⟩
theorem d9_0 : decode prog_17_method_4_code 0 = .ok (.aload_n 0, 1) := by decide +kernel
theorem d9_1 : decode prog_17_method_4_code 1 = .ok (.getfield 13, 3) := by decide +kernel
theorem d9_4 : decode prog_17_method_4_code 4 = .ok (.dreturn, 1) := by decide +kernel
def Q_sco (Z : State) (a : Addr) (u : UInt64) (h0 : Heap) (n0 : Nat) (v : Option Value) (h : Heap) (L : List Loc) : Prop := v = some (.double u) ∧ Fr n0 L ∧ h = h0
theorem ef_sco (m : MethodId) (y0 : Addr) : entryFrame m #[(.ref y0)] 1 = mkF m 0 #[.val (.ref y0)] [] := by first | (simp [entryFrame, mkF, argsToLocals, Value.category, maxLocals]; done) | rfl
set_option maxRecDepth 65536 in
set_option maxHeartbeats 40000000 in
theorem rm_sco (l : Launch) (Z : State) (a0 : Array Value) (hw : ∀ d ∈ tables_1, d.before a0 Z = true) (ws : List Jvm.Cond) (a : Addr) (u : UInt64) (h0 : Heap) (n0 : Nat) (Z0 : n0 ≤ h0.size) (F0_a_score : Fld Z h0 a "com/example/palaute/palaute/ScoredDocument" "score" "D" (.double u)) :
    MetFree l (⟨"com/example/palaute/palaute/ScoredDocument", "score", "()D"⟩ : MethodName) (head1 (Jvm.Cond.code (⟨"com/example/palaute/palaute/ScoredDocument", "score", "()D"⟩ : MethodName) prog_17_method_4_code 1 (some .double) :: ws) ({ frames := 0, cells := 0, slots := 0, locals := 0 } : Room)) (fun aa_ U => aa_ = #[(.ref a)] ∧ Z.Warmed39 U.vm ∧ U.heap = h0) (fun _ _ _ _ _ => True) (fun _ U o U' => ∃ v L, o = .returned v ∧ Q_sco Z a u h0 n0 v U'.heap L ∧ FrameEnd U o U' L (({ frames := 0, cells := 0, slots := 0, locals := 0 } : Room)).cells (({ frames := 0, cells := 0, slots := 0, locals := 0 } : Room)).slots) := by
  refine Go.met (plainFor_of_name pn0) ?_
  intro p e s m below meth c s₁ hx hby hml hown hnm hret hlk hZ e0 X0
  have N0 := Fr.nil n0
  refine Go.cast (ef_sco m a) ?_
  refine Go.st (U := (s₁.setTop (mkF m 1 #[.val (.ref a)] [(.ref a)]))) (fun t_ k_ => XS.aloadN X0.here hx rfl (hb hby d9_0) rfl rfl k_) ?_
  obtain ⟨Ti1, Xi1, ei1, sti1⟩ := getF X0 hx hZ hown (host := "") (Or.inl (hw _ (List.mem_of_getElem? (i := 62) rfl))) Via.refl e0 F0_a_score (g := (mkF m 1 #[.val (.ref a)] [(.ref a)])) rfl rfl (hb hby d9_1)
  refine Go.st (U := (Ti1.setTop (mkF m 4 #[.val (.ref a)] [(.double u)]))) sti1 ?_
  refine Go.retD Xi1 hx hlk hret (hb hby d9_4) (by decide) (by decide) ?_
  show Q_sco Z a u h0 n0 _ Ti1.heap _
  rw [ei1]
  exact ⟨rfl, N0, rfl⟩
theorem d10_0 : decode prog_17_method_3_code 0 = .ok (.aload_n 0, 1) := by decide +kernel
theorem d10_1 : decode prog_17_method_3_code 1 = .ok (.getfield 7, 3) := by decide +kernel
theorem d10_4 : decode prog_17_method_3_code 4 = .ok (.areturn, 1) := by decide +kernel
def Q_num (Z : State) (a : Addr) (q : Addr) (h0 : Heap) (n0 : Nat) (v : Option Value) (h : Heap) (L : List Loc) : Prop := v = some (.ref q) ∧ Fr n0 L ∧ h = h0
theorem ef_num (m : MethodId) (y0 : Addr) : entryFrame m #[(.ref y0)] 1 = mkF m 0 #[.val (.ref y0)] [] := by first | (simp [entryFrame, mkF, argsToLocals, Value.category, maxLocals]; done) | rfl
set_option maxRecDepth 65536 in
set_option maxHeartbeats 40000000 in
theorem rm_num (l : Launch) (Z : State) (a0 : Array Value) (hw : ∀ d ∈ tables_1, d.before a0 Z = true) (ws : List Jvm.Cond) (a : Addr) (q : Addr) (h0 : Heap) (n0 : Nat) (Z0 : n0 ≤ h0.size) (F0_a_number : Fld Z h0 a "com/example/palaute/palaute/ScoredDocument" "number" "Ljava/lang/String;" (.ref q)) :
    MetFree l (⟨"com/example/palaute/palaute/ScoredDocument", "number", "()Ljava/lang/String;"⟩ : MethodName) (head1 (Jvm.Cond.code (⟨"com/example/palaute/palaute/ScoredDocument", "number", "()Ljava/lang/String;"⟩ : MethodName) prog_17_method_3_code 1 (some (.object "java/lang/String")) :: ws) ({ frames := 0, cells := 0, slots := 0, locals := 0 } : Room)) (fun aa_ U => aa_ = #[(.ref a)] ∧ Z.Warmed39 U.vm ∧ U.heap = h0) (fun _ _ _ _ _ => True) (fun _ U o U' => ∃ v L, o = .returned v ∧ Q_num Z a q h0 n0 v U'.heap L ∧ FrameEnd U o U' L (({ frames := 0, cells := 0, slots := 0, locals := 0 } : Room)).cells (({ frames := 0, cells := 0, slots := 0, locals := 0 } : Room)).slots) := by
  refine Go.met (plainFor_of_name pn0) ?_
  intro p e s m below meth c s₁ hx hby hml hown hnm hret hlk hZ e0 X0
  have N0 := Fr.nil n0
  refine Go.cast (ef_num m a) ?_
  refine Go.st (U := (s₁.setTop (mkF m 1 #[.val (.ref a)] [(.ref a)]))) (fun t_ k_ => XS.aloadN X0.here hx rfl (hb hby d10_0) rfl rfl k_) ?_
  obtain ⟨Ti1, Xi1, ei1, sti1⟩ := getF X0 hx hZ hown (host := "") (Or.inl (hw _ (List.mem_of_getElem? (i := 60) rfl))) Via.refl e0 F0_a_number (g := (mkF m 1 #[.val (.ref a)] [(.ref a)])) rfl rfl (hb hby d10_1)
  refine Go.st (U := (Ti1.setTop (mkF m 4 #[.val (.ref a)] [(.ref q)]))) sti1 ?_
  refine Go.retA Xi1 hx hlk hret (hb hby d10_4) (by decide) (by decide) ?_
  show Q_num Z a q h0 n0 _ Ti1.heap _
  rw [ei1]
  exact ⟨rfl, N0, rfl⟩
theorem d11_0 : decode jdk_42_method_66_code 0 = .ok (.aload_n 0, 1) := by decide +kernel
theorem d11_1 : decode jdk_42_method_66_code 1 = .ok (.aload_n 1, 1) := by decide +kernel
theorem d11_2 : decode jdk_42_method_66_code 2 = .ok (.if_acmp .ne 5, 3) := by decide +kernel
theorem d11_5 : decode jdk_42_method_66_code 5 = .ok (.iconst 1, 1) := by decide +kernel
theorem d11_6 : decode jdk_42_method_66_code 6 = .ok (.ireturn, 1) := by decide +kernel
theorem d11_7 : decode jdk_42_method_66_code 7 = .ok (.aload_n 1, 1) := by decide +kernel
theorem d11_8 : decode jdk_42_method_66_code 8 = .ok (.instanceof 10, 3) := by decide +kernel
theorem d11_11 : decode jdk_42_method_66_code 11 = .ok (.ifCond .eq 43, 3) := by decide +kernel
theorem d11_14 : decode jdk_42_method_66_code 14 = .ok (.aload_n 1, 1) := by decide +kernel
theorem d11_15 : decode jdk_42_method_66_code 15 = .ok (.checkcast 10, 3) := by decide +kernel
theorem d11_18 : decode jdk_42_method_66_code 18 = .ok (.astore_n 2, 1) := by decide +kernel
theorem d11_19 : decode jdk_42_method_66_code 19 = .ok (.getstatic 38, 3) := by decide +kernel
theorem d11_22 : decode jdk_42_method_66_code 22 = .ok (.ifCond .eq 14, 3) := by decide +kernel
theorem d11_25 : decode jdk_42_method_66_code 25 = .ok (.aload_n 0, 1) := by decide +kernel
theorem d11_26 : decode jdk_42_method_66_code 26 = .ok (.getfield 15, 3) := by decide +kernel
theorem d11_29 : decode jdk_42_method_66_code 29 = .ok (.aload_n 2, 1) := by decide +kernel
theorem d11_30 : decode jdk_42_method_66_code 30 = .ok (.getfield 15, 3) := by decide +kernel
theorem d11_33 : decode jdk_42_method_66_code 33 = .ok (.if_icmp .ne 21, 3) := by decide +kernel
theorem d11_36 : decode jdk_42_method_66_code 36 = .ok (.aload_n 0, 1) := by decide +kernel
theorem d11_37 : decode jdk_42_method_66_code 37 = .ok (.getfield 9, 3) := by decide +kernel
theorem d11_40 : decode jdk_42_method_66_code 40 = .ok (.aload_n 2, 1) := by decide +kernel
theorem d11_41 : decode jdk_42_method_66_code 41 = .ok (.getfield 9, 3) := by decide +kernel
theorem d11_44 : decode jdk_42_method_66_code 44 = .ok (.invokestatic 541, 3) := by decide +kernel
theorem d11_47 : decode jdk_42_method_66_code 47 = .ok (.ifCond .eq 7, 3) := by decide +kernel
theorem d11_50 : decode jdk_42_method_66_code 50 = .ok (.iconst 1, 1) := by decide +kernel
theorem d11_51 : decode jdk_42_method_66_code 51 = .ok (.goto 4, 3) := by decide +kernel
theorem d11_54 : decode jdk_42_method_66_code 54 = .ok (.iconst 0, 1) := by decide +kernel
theorem d11_55 : decode jdk_42_method_66_code 55 = .ok (.ireturn, 1) := by decide +kernel
def Q_equ (Z : State) (a : Addr) (h0 : Heap) (n0 : Nat) (v : Option Value) (h : Heap) (L : List Loc) : Prop := v = some (.int 1) ∧ Fr n0 L ∧ h = h0
theorem ef_equ (m : MethodId) (y0 : Addr) (y1 : Addr) : entryFrame m #[(.ref y0), (.ref y1)] 3 = mkF m 0 #[.val (.ref y0), .val (.ref y1), .unset] [] := by first | (simp [entryFrame, mkF, argsToLocals, Value.category, maxLocals]; done) | rfl
set_option maxRecDepth 65536 in
set_option maxHeartbeats 40000000 in
theorem rm_equ (l : Launch) (Z : State) (a0 : Array Value) (hw : ∀ d ∈ tables_1, d.before a0 Z = true) (ws : List Jvm.Cond) (a : Addr) (h0 : Heap) (n0 : Nat) (Z0 : n0 ≤ h0.size)  :
    MetFree l (⟨"java/lang/String", "equals", "(Ljava/lang/Object;)Z"⟩ : MethodName) (head1 (Jvm.Cond.code (⟨"java/lang/String", "equals", "(Ljava/lang/Object;)Z"⟩ : MethodName) jdk_42_method_66_code 3 (some .boolean) :: ws) ({ frames := 0, cells := 0, slots := 0, locals := 0 } : Room)) (fun aa_ U => aa_ = #[(.ref a), (.ref a)] ∧ Z.Warmed39 U.vm ∧ U.heap = h0) (fun _ _ _ _ _ => True) (fun _ U o U' => ∃ v L, o = .returned v ∧ Q_equ Z a h0 n0 v U'.heap L ∧ FrameEnd U o U' L (({ frames := 0, cells := 0, slots := 0, locals := 0 } : Room)).cells (({ frames := 0, cells := 0, slots := 0, locals := 0 } : Room)).slots) := by
  refine Go.met (by decide +kernel) ?_
  intro p e s m below meth c s₁ hx hby hml hown hnm hret hlk hZ e0 X0
  have N0 := Fr.nil n0
  refine Go.cast (ef_equ m a a) ?_
  refine Go.st (U := (s₁.setTop (mkF m 1 #[.val (.ref a), .val (.ref a), .unset] [(.ref a)]))) (fun t_ k_ => XS.aloadN X0.here hx rfl (hb hby d11_0) rfl rfl k_) ?_
  refine Go.st (U := (s₁.setTop (mkF m 2 #[.val (.ref a), .val (.ref a), .unset] [(.ref a), (.ref a)]))) (fun t_ k_ => XS.aloadN X0.here hx rfl (hb hby d11_1) rfl rfl k_) ?_
  refine Go.st (U := (s₁.setTop (mkF m 5 #[.val (.ref a), .val (.ref a), .unset] []))) (fun t_ k_ => acmp X0 hx rfl rfl rfl (pc0 := 2) (pc' := 5) (same := true) rfl (hb hby d11_2) rfl (decide_eq_true rfl) (by decide) (by decide) k_) ?_
  refine Go.st (U := (s₁.setTop (mkF m 6 #[.val (.ref a), .val (.ref a), .unset] [(.int (1 : Int32))]))) (fun t_ k_ => XS.iconst X0.here hx rfl (hb hby d11_5) k_) ?_
  refine Go.retZ X0 hx hlk hret (hb hby d11_6) (by decide) (by decide) ?_
  show Q_equ Z a h0 n0 _ s₁.heap _
  rw [e0]
  exact ⟨rfl, N0, rfl⟩
theorem pn1 : plainName "com/example/palaute/palaute/ScoredDocumentAsPrintedPinLaw" = true := by first | (simp [plainName, overriddenIn]; done) | decide +kernel
def Q_law (Z : State) (p0 : Int32) (p1 : Int64) (p2 : Int32) (p3 : Int32) (p4 : Int32) (G1 : Int32) (h0 : Heap) (n0 : Nat) (v : Option Value) (h : Heap) (L : List Loc) : Prop := v = some (.int 1) ∧ Fr n0 L
theorem ef_law (m : MethodId) (y0 : Int32) (y1 : Int64) (y2 : Int32) (y3 : Int32) (y4 : Int32) : entryFrame m #[(.int y0), (.long y1), (.int y2), (.int y3), (.int y4)] maxLocals = mkF m 0 #[.val (.int y0), .val (.long y1), .second, .val (.int y2), .val (.int y3), .val (.int y4), .unset, .unset, .unset, .unset, .unset, .unset, .unset, .unset, .unset, .unset, .unset, .unset, .unset, .unset, .unset] [] := by first | (simp [entryFrame, mkF, argsToLocals, Value.category, maxLocals]; done) | rfl
theorem pd1 : parseMethodDescriptor "([C)V" = some ⟨[.array .char], none⟩ := by decide +kernel
theorem pd2 : parseMethodDescriptor "(Ljava/lang/String;D)Lcom/example/palaute/palaute/ScoredDocument;" = some ⟨[.object "java/lang/String", .double], some (.object "com/example/palaute/palaute/ScoredDocument")⟩ := by decide +kernel
theorem pd3 : parseMethodDescriptor "()D" = some ⟨[], some .double⟩ := by decide +kernel
theorem pd4 : parseMethodDescriptor "()Ljava/lang/String;" = some ⟨[], some (.object "java/lang/String")⟩ := by decide +kernel
theorem pd5 : parseMethodDescriptor "(Ljava/lang/Object;)Z" = some ⟨[.object "java/lang/Object"], some .boolean⟩ := by decide +kernel
set_option maxRecDepth 65536 in
set_option maxHeartbeats 40000000 in
theorem rm_law (l : Launch) (Z : State) (a0 : Array Value) (hw : ∀ d ∈ tables_1, d.before a0 Z = true) (ws : List Jvm.Cond) (p0 : Int32) (p1 : Int64) (p2 : Int32) (p3 : Int32) (p4 : Int32) (G1 : Int32) (h0 : Heap) (n0 : Nat) (Z0 : n0 ≤ h0.size) (O0 : Old Z n0 h0) (S0_COMPACT_STRINGS : Sta Z Z.heap "java/lang/String" "COMPACT_STRINGS" "Z" (.int G1)) (P5 : ¬ G1 = (0 : Int32)) :
    MetFree l x (head1 (Jvm.Cond.code x code maxLocals ret :: ws) room_1) (fun aa_ U => aa_ = #[(.int p0), (.long p1), (.int p2), (.int p3), (.int p4)] ∧ Z.Warmed39 U.vm ∧ U.heap = h0) (fun _ _ _ _ _ => True) (fun _ U o U' => ∃ v L, o = .returned v ∧ Q_law Z p0 p1 p2 p3 p4 G1 h0 n0 v U'.heap L ∧ FrameEnd U o U' L (room_1).cells (room_1).slots) := by
  refine Go.met (plainFor_of_name pn1) ?_
  intro p e s m below meth c s₁ hx hby hml hown hnm hret hlk hZ e0 X0
  have hml : c.maxLocals = 21 := hml
  have N0 := Fr.nil n0
  refine Go.cast (ef_law m p0 p1 p2 p3 p4) ?_
  refine Go.st (U := (s₁.setTop (mkF m 1 #[.val (.int p0), .val (.long p1), .second, .val (.int p2), .val (.int p3), .val (.int p4), .unset, .unset, .unset, .unset, .unset, .unset, .unset, .unset, .unset, .unset, .unset, .unset, .unset, .unset, .unset] [(.int (3 : Int32))]))) (fun t_ k_ => XS.iconst X0.here hx rfl (hb hby at_0) k_) ?_
  obtain ⟨Ti1, hi1, kc_cs, Xi1, ei1, Gi1, Ai1, sti1⟩ := newP X0 hx hZ (hw _ (List.mem_of_getElem? (i := 0) rfl)) e0 (g := (mkF m 1 #[.val (.int p0), .val (.long p1), .second, .val (.int p2), .val (.int p3), .val (.int p4), .unset, .unset, .unset, .unset, .unset, .unset, .unset, .unset, .unset, .unset, .unset, .unset, .unset, .unset, .unset] [(.int (3 : Int32))])) rfl (hb hby at_1) rfl (by decide) (cap := 3) (by decide) (by decide) (by decide) (by decide)
  obtain ⟨cs, gi1⟩ : ∃ z, z = h0.size := ⟨_, rfl⟩
  rw [← gi1] at Ai1 sti1
  have ge_cs : n0 ≤ cs := Nat.le_trans Z0 (Nat.le_of_eq gi1.symm)
  have Zi1 : n0 ≤ hi1.size := Nat.le_trans Z0 Gi1.1
  have Vi1_cs : Arv Z hi1 cs kc_cs .char (3 : Int32) [] (.int 0) := Arv.new Ai1 (by decide)
  have Oi1 := Old.ext O0 Gi1
  have sz0_cs : h0.size ≤ cs := Nat.le_trans (Keep.size_le (Keep.refl h0 [])) (Nat.le_of_eq gi1.symm)
  have Ki1 := Keep.ext (Keep.refl h0 []) Gi1
  refine Go.st (U := (Ti1.setTop (mkF m 3 #[.val (.int p0), .val (.long p1), .second, .val (.int p2), .val (.int p3), .val (.int p4), .unset, .unset, .unset, .unset, .unset, .unset, .unset, .unset, .unset, .unset, .unset, .unset, .unset, .unset, .unset] [(.ref cs)]))) sti1 ?_
  refine Go.st (U := (Ti1.setTop (mkF m 5 #[.val (.int p0), .val (.long p1), .second, .val (.int p2), .val (.int p3), .val (.int p4), .val (.ref cs), .unset, .unset, .unset, .unset, .unset, .unset, .unset, .unset, .unset, .unset, .unset, .unset, .unset, .unset] []))) (fun t_ k_ => XS.astore Xi1.here hx rfl (hb hby at_3) rfl rfl (l' := #[.val (.int p0), .val (.long p1), .second, .val (.int p2), .val (.int p3), .val (.int p4), .val (.ref cs), .unset, .unset, .unset, .unset, .unset, .unset, .unset, .unset, .unset, .unset, .unset, .unset, .unset, .unset]) rfl k_) ?_
  refine Go.st (U := (Ti1.setTop (mkF m 7 #[.val (.int p0), .val (.long p1), .second, .val (.int p2), .val (.int p3), .val (.int p4), .val (.ref cs), .unset, .unset, .unset, .unset, .unset, .unset, .unset, .unset, .unset, .unset, .unset, .unset, .unset, .unset] [(.ref cs)]))) (fun t_ k_ => XS.aload Xi1.here hx rfl (hb hby at_5) rfl rfl k_) ?_
  refine Go.st (U := (Ti1.setTop (mkF m 8 #[.val (.int p0), .val (.long p1), .second, .val (.int p2), .val (.int p3), .val (.int p4), .val (.ref cs), .unset, .unset, .unset, .unset, .unset, .unset, .unset, .unset, .unset, .unset, .unset, .unset, .unset, .unset] [(.int (0 : Int32)), (.ref cs)]))) (fun t_ k_ => XS.iconst Xi1.here hx rfl (hb hby at_7) k_) ?_
  refine Go.st (U := (Ti1.setTop (mkF m 10 #[.val (.int p0), .val (.long p1), .second, .val (.int p2), .val (.int p3), .val (.int p4), .val (.ref cs), .unset, .unset, .unset, .unset, .unset, .unset, .unset, .unset, .unset, .unset, .unset, .unset, .unset, .unset] [(.int p4), (.int (0 : Int32)), (.ref cs)]))) (fun t_ k_ => XS.iload Xi1.here hx rfl (hb hby at_8) rfl k_) ?_
  refine Go.st (U := (Ti1.setTop (mkF m 13 #[.val (.int p0), .val (.long p1), .second, .val (.int p2), .val (.int p3), .val (.int p4), .val (.ref cs), .unset, .unset, .unset, .unset, .unset, .unset, .unset, .unset, .unset, .unset, .unset, .unset, .unset, .unset] [(.int (255 : Int32)), (.int p4), (.int (0 : Int32)), (.ref cs)]))) (fun t_ k_ => XS.sipush Xi1.here hx rfl (hb hby at_10) k_) ?_
  refine Go.st (U := (Ti1.setTop (mkF m 14 #[.val (.int p0), .val (.long p1), .second, .val (.int p2), .val (.int p3), .val (.int p4), .val (.ref cs), .unset, .unset, .unset, .unset, .unset, .unset, .unset, .unset, .unset, .unset, .unset, .unset, .unset, .unset] [(.int (p4 &&& (255 : Int32))), (.int (0 : Int32)), (.ref cs)]))) (fun t_ k_ => XS.iand Xi1.here hx rfl (hb hby at_13) rfl k_) ?_
  refine Go.st (U := (Ti1.setTop (mkF m 15 #[.val (.int p0), .val (.long p1), .second, .val (.int p2), .val (.int p3), .val (.int p4), .val (.ref cs), .unset, .unset, .unset, .unset, .unset, .unset, .unset, .unset, .unset, .unset, .unset, .unset, .unset, .unset] [(.int ((p4 &&& (255 : Int32)).toUInt32.toUInt16.toUInt32.toInt32)), (.int (0 : Int32)), (.ref cs)]))) (fun t_ k_ => XS.i2c Xi1.here hx rfl (hb hby at_14) rfl k_) ?_
  refine Go.cast_ Xi1 hx hZ ei1 Vi1_cs ⟨by decide, by decide⟩ rfl (g := (mkF m 15 #[.val (.int p0), .val (.long p1), .second, .val (.int p2), .val (.int p3), .val (.int p4), .val (.ref cs), .unset, .unset, .unset, .unset, .unset, .unset, .unset, .unset, .unset, .unset, .unset, .unset, .unset, .unset] [(.int ((p4 &&& (255 : Int32)).toUInt32.toUInt16.toUInt32.toInt32)), (.int (0 : Int32)), (.ref cs)])) rfl rfl (hb hby at_15) ?_
  intro Ti2 hi2 Xi2 ei2 Wi2 Vi2_cs
  have Ni2 := Fr.snoc Xi2 N0 ge_cs
  have Zi2 : n0 ≤ hi2.size := by rw [Wi2.size]; exact Zi1
  have Oi2 := Old.wr Oi1 Wi2 ge_cs
  have Ki2 := Keep.wr Ki1 Wi2 (Or.inr sz0_cs)
  show Go p e below s _ _ (Ti2.setTop (mkF m 16 #[.val (.int p0), .val (.long p1), .second, .val (.int p2), .val (.int p3), .val (.int p4), .val (.ref cs), .unset, .unset, .unset, .unset, .unset, .unset, .unset, .unset, .unset, .unset, .unset, .unset, .unset, .unset] []))
  refine Go.st (U := (Ti2.setTop (mkF m 18 #[.val (.int p0), .val (.long p1), .second, .val (.int p2), .val (.int p3), .val (.int p4), .val (.ref cs), .unset, .unset, .unset, .unset, .unset, .unset, .unset, .unset, .unset, .unset, .unset, .unset, .unset, .unset] [(.ref cs)]))) (fun t_ k_ => XS.aload Xi2.here hx rfl (hb hby at_16) rfl rfl k_) ?_
  refine Go.st (U := (Ti2.setTop (mkF m 19 #[.val (.int p0), .val (.long p1), .second, .val (.int p2), .val (.int p3), .val (.int p4), .val (.ref cs), .unset, .unset, .unset, .unset, .unset, .unset, .unset, .unset, .unset, .unset, .unset, .unset, .unset, .unset] [(.int (1 : Int32)), (.ref cs)]))) (fun t_ k_ => XS.iconst Xi2.here hx rfl (hb hby at_18) k_) ?_
  refine Go.st (U := (Ti2.setTop (mkF m 21 #[.val (.int p0), .val (.long p1), .second, .val (.int p2), .val (.int p3), .val (.int p4), .val (.ref cs), .unset, .unset, .unset, .unset, .unset, .unset, .unset, .unset, .unset, .unset, .unset, .unset, .unset, .unset] [(.int p4), (.int (1 : Int32)), (.ref cs)]))) (fun t_ k_ => XS.iload Xi2.here hx rfl (hb hby at_19) rfl k_) ?_
  refine Go.st (U := (Ti2.setTop (mkF m 23 #[.val (.int p0), .val (.long p1), .second, .val (.int p2), .val (.int p3), .val (.int p4), .val (.ref cs), .unset, .unset, .unset, .unset, .unset, .unset, .unset, .unset, .unset, .unset, .unset, .unset, .unset, .unset] [(.int (8 : Int32)), (.int p4), (.int (1 : Int32)), (.ref cs)]))) (fun t_ k_ => XS.bipush Xi2.here hx rfl (hb hby at_21) k_) ?_
  refine Go.st (U := (Ti2.setTop (mkF m 24 #[.val (.int p0), .val (.long p1), .second, .val (.int p2), .val (.int p3), .val (.int p4), .val (.ref cs), .unset, .unset, .unset, .unset, .unset, .unset, .unset, .unset, .unset, .unset, .unset, .unset, .unset, .unset] [(.int ((p4.toUInt32 >>> ((8 : Int32) &&& 31).toUInt32).toInt32)), (.int (1 : Int32)), (.ref cs)]))) (fun t_ k_ => XS.iushr Xi2.here hx rfl (hb hby at_23) rfl k_) ?_
  refine Go.st (U := (Ti2.setTop (mkF m 27 #[.val (.int p0), .val (.long p1), .second, .val (.int p2), .val (.int p3), .val (.int p4), .val (.ref cs), .unset, .unset, .unset, .unset, .unset, .unset, .unset, .unset, .unset, .unset, .unset, .unset, .unset, .unset] [(.int (255 : Int32)), (.int ((p4.toUInt32 >>> ((8 : Int32) &&& 31).toUInt32).toInt32)), (.int (1 : Int32)), (.ref cs)]))) (fun t_ k_ => XS.sipush Xi2.here hx rfl (hb hby at_24) k_) ?_
  refine Go.st (U := (Ti2.setTop (mkF m 28 #[.val (.int p0), .val (.long p1), .second, .val (.int p2), .val (.int p3), .val (.int p4), .val (.ref cs), .unset, .unset, .unset, .unset, .unset, .unset, .unset, .unset, .unset, .unset, .unset, .unset, .unset, .unset] [(.int (((p4.toUInt32 >>> ((8 : Int32) &&& 31).toUInt32).toInt32) &&& (255 : Int32))), (.int (1 : Int32)), (.ref cs)]))) (fun t_ k_ => XS.iand Xi2.here hx rfl (hb hby at_27) rfl k_) ?_
  refine Go.st (U := (Ti2.setTop (mkF m 29 #[.val (.int p0), .val (.long p1), .second, .val (.int p2), .val (.int p3), .val (.int p4), .val (.ref cs), .unset, .unset, .unset, .unset, .unset, .unset, .unset, .unset, .unset, .unset, .unset, .unset, .unset, .unset] [(.int ((((p4.toUInt32 >>> ((8 : Int32) &&& 31).toUInt32).toInt32) &&& (255 : Int32)).toUInt32.toUInt16.toUInt32.toInt32)), (.int (1 : Int32)), (.ref cs)]))) (fun t_ k_ => XS.i2c Xi2.here hx rfl (hb hby at_28) rfl k_) ?_
  refine Go.cast_ Xi2 hx hZ ei2 Vi2_cs ⟨by decide, by decide⟩ rfl (g := (mkF m 29 #[.val (.int p0), .val (.long p1), .second, .val (.int p2), .val (.int p3), .val (.int p4), .val (.ref cs), .unset, .unset, .unset, .unset, .unset, .unset, .unset, .unset, .unset, .unset, .unset, .unset, .unset, .unset] [(.int ((((p4.toUInt32 >>> ((8 : Int32) &&& 31).toUInt32).toInt32) &&& (255 : Int32)).toUInt32.toUInt16.toUInt32.toInt32)), (.int (1 : Int32)), (.ref cs)])) rfl rfl (hb hby at_29) ?_
  intro Ti3 hi3 Xi3 ei3 Wi3 Vi3_cs
  have Ni3 := Fr.snoc Xi3 Ni2 ge_cs
  have Zi3 : n0 ≤ hi3.size := by rw [Wi3.size]; exact Zi2
  have Oi3 := Old.wr Oi2 Wi3 ge_cs
  have Ki3 := Keep.wr Ki2 Wi3 (Or.inr sz0_cs)
  show Go p e below s _ _ (Ti3.setTop (mkF m 30 #[.val (.int p0), .val (.long p1), .second, .val (.int p2), .val (.int p3), .val (.int p4), .val (.ref cs), .unset, .unset, .unset, .unset, .unset, .unset, .unset, .unset, .unset, .unset, .unset, .unset, .unset, .unset] []))
  refine Go.st (U := (Ti3.setTop (mkF m 32 #[.val (.int p0), .val (.long p1), .second, .val (.int p2), .val (.int p3), .val (.int p4), .val (.ref cs), .unset, .unset, .unset, .unset, .unset, .unset, .unset, .unset, .unset, .unset, .unset, .unset, .unset, .unset] [(.ref cs)]))) (fun t_ k_ => XS.aload Xi3.here hx rfl (hb hby at_30) rfl rfl k_) ?_
  refine Go.st (U := (Ti3.setTop (mkF m 33 #[.val (.int p0), .val (.long p1), .second, .val (.int p2), .val (.int p3), .val (.int p4), .val (.ref cs), .unset, .unset, .unset, .unset, .unset, .unset, .unset, .unset, .unset, .unset, .unset, .unset, .unset, .unset] [(.int (2 : Int32)), (.ref cs)]))) (fun t_ k_ => XS.iconst Xi3.here hx rfl (hb hby at_32) k_) ?_
  refine Go.st (U := (Ti3.setTop (mkF m 35 #[.val (.int p0), .val (.long p1), .second, .val (.int p2), .val (.int p3), .val (.int p4), .val (.ref cs), .unset, .unset, .unset, .unset, .unset, .unset, .unset, .unset, .unset, .unset, .unset, .unset, .unset, .unset] [(.int p4), (.int (2 : Int32)), (.ref cs)]))) (fun t_ k_ => XS.iload Xi3.here hx rfl (hb hby at_33) rfl k_) ?_
  refine Go.st (U := (Ti3.setTop (mkF m 37 #[.val (.int p0), .val (.long p1), .second, .val (.int p2), .val (.int p3), .val (.int p4), .val (.ref cs), .unset, .unset, .unset, .unset, .unset, .unset, .unset, .unset, .unset, .unset, .unset, .unset, .unset, .unset] [(.int (16 : Int32)), (.int p4), (.int (2 : Int32)), (.ref cs)]))) (fun t_ k_ => XS.bipush Xi3.here hx rfl (hb hby at_35) k_) ?_
  refine Go.st (U := (Ti3.setTop (mkF m 38 #[.val (.int p0), .val (.long p1), .second, .val (.int p2), .val (.int p3), .val (.int p4), .val (.ref cs), .unset, .unset, .unset, .unset, .unset, .unset, .unset, .unset, .unset, .unset, .unset, .unset, .unset, .unset] [(.int ((p4.toUInt32 >>> ((16 : Int32) &&& 31).toUInt32).toInt32)), (.int (2 : Int32)), (.ref cs)]))) (fun t_ k_ => XS.iushr Xi3.here hx rfl (hb hby at_37) rfl k_) ?_
  refine Go.st (U := (Ti3.setTop (mkF m 41 #[.val (.int p0), .val (.long p1), .second, .val (.int p2), .val (.int p3), .val (.int p4), .val (.ref cs), .unset, .unset, .unset, .unset, .unset, .unset, .unset, .unset, .unset, .unset, .unset, .unset, .unset, .unset] [(.int (255 : Int32)), (.int ((p4.toUInt32 >>> ((16 : Int32) &&& 31).toUInt32).toInt32)), (.int (2 : Int32)), (.ref cs)]))) (fun t_ k_ => XS.sipush Xi3.here hx rfl (hb hby at_38) k_) ?_
  refine Go.st (U := (Ti3.setTop (mkF m 42 #[.val (.int p0), .val (.long p1), .second, .val (.int p2), .val (.int p3), .val (.int p4), .val (.ref cs), .unset, .unset, .unset, .unset, .unset, .unset, .unset, .unset, .unset, .unset, .unset, .unset, .unset, .unset] [(.int (((p4.toUInt32 >>> ((16 : Int32) &&& 31).toUInt32).toInt32) &&& (255 : Int32))), (.int (2 : Int32)), (.ref cs)]))) (fun t_ k_ => XS.iand Xi3.here hx rfl (hb hby at_41) rfl k_) ?_
  refine Go.st (U := (Ti3.setTop (mkF m 43 #[.val (.int p0), .val (.long p1), .second, .val (.int p2), .val (.int p3), .val (.int p4), .val (.ref cs), .unset, .unset, .unset, .unset, .unset, .unset, .unset, .unset, .unset, .unset, .unset, .unset, .unset, .unset] [(.int ((((p4.toUInt32 >>> ((16 : Int32) &&& 31).toUInt32).toInt32) &&& (255 : Int32)).toUInt32.toUInt16.toUInt32.toInt32)), (.int (2 : Int32)), (.ref cs)]))) (fun t_ k_ => XS.i2c Xi3.here hx rfl (hb hby at_42) rfl k_) ?_
  refine Go.cast_ Xi3 hx hZ ei3 Vi3_cs ⟨by decide, by decide⟩ rfl (g := (mkF m 43 #[.val (.int p0), .val (.long p1), .second, .val (.int p2), .val (.int p3), .val (.int p4), .val (.ref cs), .unset, .unset, .unset, .unset, .unset, .unset, .unset, .unset, .unset, .unset, .unset, .unset, .unset, .unset] [(.int ((((p4.toUInt32 >>> ((16 : Int32) &&& 31).toUInt32).toInt32) &&& (255 : Int32)).toUInt32.toUInt16.toUInt32.toInt32)), (.int (2 : Int32)), (.ref cs)])) rfl rfl (hb hby at_43) ?_
  intro Ti4 hi4 Xi4 ei4 Wi4 Vi4_cs
  have Ni4 := Fr.snoc Xi4 Ni3 ge_cs
  have Zi4 : n0 ≤ hi4.size := by rw [Wi4.size]; exact Zi3
  have Oi4 := Old.wr Oi3 Wi4 ge_cs
  have Ki4 := Keep.wr Ki3 Wi4 (Or.inr sz0_cs)
  show Go p e below s _ _ (Ti4.setTop (mkF m 44 #[.val (.int p0), .val (.long p1), .second, .val (.int p2), .val (.int p3), .val (.int p4), .val (.ref cs), .unset, .unset, .unset, .unset, .unset, .unset, .unset, .unset, .unset, .unset, .unset, .unset, .unset, .unset] []))
  obtain ⟨Ti5, hi5, Xi5, ei5, Gi5, Ai5, Di5, -, sti5⟩ := newO Xi4 hx hZ hown (hw _ (List.mem_of_getElem? (i := 1) rfl)) (hw _ (List.mem_of_getElem? (i := 2) rfl)) (hw _ (List.mem_of_getElem? (i := 3) rfl)) ei4 (g := (mkF m 44 #[.val (.int p0), .val (.long p1), .second, .val (.int p2), .val (.int p3), .val (.int p4), .val (.ref cs), .unset, .unset, .unset, .unset, .unset, .unset, .unset, .unset, .unset, .unset, .unset, .unset, .unset, .unset] [])) rfl (hb hby at_44) (by decide) (by decide)
  obtain ⟨st, gi5⟩ : ∃ z, z = hi4.size := ⟨_, rfl⟩
  rw [← gi5] at Ai5 Di5 sti5
  have ge_st : n0 ≤ st := Nat.le_trans Zi4 (Nat.le_of_eq gi5.symm)
  have sz_st : hi4.size ≤ st := Nat.le_of_eq gi5.symm
  have sz0_st : h0.size ≤ st := Nat.le_trans (Keep.size_le Ki4) sz_st
  have Vi5_cs := Arv.ext Vi4_cs Gi5
  have Fi5_st_coder : Fld Z hi5 st "java/lang/String" "coder" "B" (.int 0) := Di5 (Or.inr (hw _ (List.mem_of_getElem? (i := 27) rfl))) (ty := .byte) (by decide)
  have Fi5_st_value : Fld Z hi5 st "java/lang/String" "value" "[B" .null := Di5 (Or.inr (hw _ (List.mem_of_getElem? (i := 29) rfl))) (ty := .array .byte) (by decide)
  have Zi5 : n0 ≤ hi5.size := Nat.le_trans Zi4 Gi5.1
  have Oi5 := Old.ext Oi4 Gi5
  have Ki5 := Keep.ext Ki4 Gi5
  refine Go.st (U := (Ti5.setTop (mkF m 47 #[.val (.int p0), .val (.long p1), .second, .val (.int p2), .val (.int p3), .val (.int p4), .val (.ref cs), .unset, .unset, .unset, .unset, .unset, .unset, .unset, .unset, .unset, .unset, .unset, .unset, .unset, .unset] [(.ref st)]))) sti5 ?_
  refine Go.st (U := (Ti5.setTop (mkF m 48 #[.val (.int p0), .val (.long p1), .second, .val (.int p2), .val (.int p3), .val (.int p4), .val (.ref cs), .unset, .unset, .unset, .unset, .unset, .unset, .unset, .unset, .unset, .unset, .unset, .unset, .unset, .unset] [(.ref st), (.ref st)]))) (fun t_ k_ => XS.dup Xi5.here hx rfl (hb hby at_47) rfl rfl k_) ?_
  refine Go.st (U := (Ti5.setTop (mkF m 50 #[.val (.int p0), .val (.long p1), .second, .val (.int p2), .val (.int p3), .val (.int p4), .val (.ref cs), .unset, .unset, .unset, .unset, .unset, .unset, .unset, .unset, .unset, .unset, .unset, .unset, .unset, .unset] [(.ref cs), (.ref st), (.ref st)]))) (fun t_ k_ => XS.aload Xi5.here hx rfl (hb hby at_48) rfl rfl k_) ?_
  have hws : ∀ d ∈ StrChars.Road.words, d.before a0 Z = true := fun d hd => hw d ((by decide +kernel : ∀ d ∈ StrChars.Road.words, d ∈ tables_1) d hd)
  have hp : ∀ c ∈ ([(nar .char ((p4 &&& (255 : Int32)).toUInt32.toUInt16.toUInt32.toInt32)), (nar .char ((((p4.toUInt32 >>> ((8 : Int32) &&& 31).toUInt32).toInt32) &&& (255 : Int32)).toUInt32.toUInt16.toUInt32.toInt32)), (nar .char ((((p4.toUInt32 >>> ((16 : Int32) &&& 31).toUInt32).toInt32) &&& (255 : Int32)).toUInt32.toUInt16.toUInt32.toInt32))] : List Int32), ¬ c < 0 ∧ ¬ (255 : Int32) < c := by
    intro c hc
    simp only [List.mem_cons, List.not_mem_nil, or_false] at hc
    rcases hc with rfl | rfl | rfl
    · exact own_chars _
    · exact own_chars _
    · exact own_chars _
  obtain ⟨_, _, ⟨Ti6, Li6, ki6, ni6⟩, -, Xi6, ⟨Lci6, hQi6, li6, yi6, zi6⟩, sti6⟩ := Xi5.specialBack hx (y := (⟨"java/lang/String", "<init>", "([C)V"⟩ : MethodName)) rfl hown (mvT hZ (hw _ (List.mem_of_getElem? (i := 4) rfl))) (mvT hZ (hw _ (List.mem_of_getElem? (i := 5) rfl))) (mvT hZ (hw _ (List.mem_of_getElem? (i := 6) rfl))) (by decide) (StrChars.Road.backV (W := 1) hZ hws (kI := 4) (hw _ (List.mem_of_getElem? (i := 2) rfl)) (cs := ([(nar .char ((p4 &&& (255 : Int32)).toUInt32.toUInt16.toUInt32.toInt32)), (nar .char ((((p4.toUInt32 >>> ((8 : Int32) &&& 31).toUInt32).toInt32) &&& (255 : Int32)).toUInt32.toUInt16.toUInt32.toInt32)), (nar .char ((((p4.toUInt32 >>> ((16 : Int32) &&& 31).toUInt32).toInt32) &&& (255 : Int32)).toUInt32.toUInt16.toUInt32.toInt32))] : List Int32)) (bs := (([(nar .char ((p4 &&& (255 : Int32)).toUInt32.toUInt16.toUInt32.toInt32)), (nar .char ((((p4.toUInt32 >>> ((8 : Int32) &&& 31).toUInt32).toInt32) &&& (255 : Int32)).toUInt32.toUInt16.toUInt32.toInt32)), (nar .char ((((p4.toUInt32 >>> ((16 : Int32) &&& 31).toUInt32).toInt32) &&& (255 : Int32)).toUInt32.toUInt16.toUInt32.toInt32))] : List Int32)).map (fun c => c.toInt8.toInt32)) (n := 3) ge_st Zi5 Ai5 Fi5_st_value Fi5_st_coder Vi5_cs (Sta.ext Oi5.2 S0_COMPACT_STRINGS) P5 rfl rfl (by decide) (by decide) hp rfl (by decide) (by decide)) (g := (mkF m 50 #[.val (.int p0), .val (.long p1), .second, .val (.int p2), .val (.int p3), .val (.int p4), .val (.ref cs), .unset, .unset, .unset, .unset, .unset, .unset, .unset, .unset, .unset, .unset, .unset, .unset, .unset, .unset] [(.ref cs), (.ref st), (.ref st)])) rfl (by rw [hml]; rfl) (Steps.refl _) (a := st) (argsL := [(.ref cs)]) (rest := [(.ref st)]) (lenOf pd1 rfl) rfl (by show 2 * 0 + _ ≤ _; exact Nat.le_of_eq rfl) (hb hby at_50) (fun _ _ => ⟨rfl, ei5, (by decide : 2 + 1 ≤ _), (by decide : 7 + 3 ≤ _)⟩)
  dsimp only [Pt.U, Pt.locs, Pt.cells, Pt.slots] at Xi6 li6 yi6 zi6 sti6 hQi6
  subst li6 yi6 zi6
  obtain ⟨rfl, Ni6, Ki6, Ei6_st, -, -⟩ := hQi6
  have Ni6 := Fr.app Ni4 Ni6
  have Zi6 : n0 ≤ Ti6.heap.size := Nat.le_trans Zi5 Ki6.1
  have Oi6 := Old.keep Oi5 Ki6 (allS ge_st all0)
  have Ki6 := Keep.trans Ki5 Ki6 (allS (Or.inr sz0_st) all0)
  refine Go.st (U := (Ti6.setTop (mkF m 53 #[.val (.int p0), .val (.long p1), .second, .val (.int p2), .val (.int p3), .val (.int p4), .val (.ref cs), .unset, .unset, .unset, .unset, .unset, .unset, .unset, .unset, .unset, .unset, .unset, .unset, .unset, .unset] [(.ref st)]))) (fun t_ k_ => sti6.trans k_) ?_
  refine Go.st (U := (Ti6.setTop (mkF m 55 #[.val (.int p0), .val (.long p1), .second, .val (.int p2), .val (.int p3), .val (.int p4), .val (.ref cs), .val (.ref st), .unset, .unset, .unset, .unset, .unset, .unset, .unset, .unset, .unset, .unset, .unset, .unset, .unset] []))) (fun t_ k_ => XS.astore Xi6.here hx rfl (hb hby at_53) rfl rfl (l' := #[.val (.int p0), .val (.long p1), .second, .val (.int p2), .val (.int p3), .val (.int p4), .val (.ref cs), .val (.ref st), .unset, .unset, .unset, .unset, .unset, .unset, .unset, .unset, .unset, .unset, .unset, .unset, .unset]) rfl k_) ?_
  refine Go.st (U := (Ti6.setTop (mkF m 56 #[.val (.int p0), .val (.long p1), .second, .val (.int p2), .val (.int p3), .val (.int p4), .val (.ref cs), .val (.ref st), .unset, .unset, .unset, .unset, .unset, .unset, .unset, .unset, .unset, .unset, .unset, .unset, .unset] [(.int p0)]))) (fun t_ k_ => XS.iloadN Xi6.here hx rfl (hb hby at_55) rfl k_) ?_
  refine Go.st (U := (Ti6.setTop (mkF m 57 #[.val (.int p0), .val (.long p1), .second, .val (.int p2), .val (.int p3), .val (.int p4), .val (.ref cs), .val (.ref st), .unset, .unset, .unset, .unset, .unset, .unset, .unset, .unset, .unset, .unset, .unset, .unset, .unset] [(.int (3 : Int32)), (.int p0)]))) (fun t_ k_ => XS.iconst Xi6.here hx rfl (hb hby at_56) k_) ?_
  refine Go.st (U := (Ti6.setTop (mkF m 58 #[.val (.int p0), .val (.long p1), .second, .val (.int p2), .val (.int p3), .val (.int p4), .val (.ref cs), .val (.ref st), .unset, .unset, .unset, .unset, .unset, .unset, .unset, .unset, .unset, .unset, .unset, .unset, .unset] [(.int (p0 &&& (3 : Int32)))]))) (fun t_ k_ => XS.iand Xi6.here hx rfl (hb hby at_57) rfl k_) ?_
  refine Go.st (U := (Ti6.setTop (mkF m 60 #[.val (.int p0), .val (.long p1), .second, .val (.int p2), .val (.int p3), .val (.int p4), .val (.ref cs), .val (.ref st), .val (.int (p0 &&& (3 : Int32))), .unset, .unset, .unset, .unset, .unset, .unset, .unset, .unset, .unset, .unset, .unset, .unset] []))) (fun t_ k_ => XS.istore Xi6.here hx rfl (hb hby at_58) rfl (l' := #[.val (.int p0), .val (.long p1), .second, .val (.int p2), .val (.int p3), .val (.int p4), .val (.ref cs), .val (.ref st), .val (.int (p0 &&& (3 : Int32))), .unset, .unset, .unset, .unset, .unset, .unset, .unset, .unset, .unset, .unset, .unset, .unset]) rfl k_) ?_
  refine Go.st (U := (Ti6.setTop (mkF m 62 #[.val (.int p0), .val (.long p1), .second, .val (.int p2), .val (.int p3), .val (.int p4), .val (.ref cs), .val (.ref st), .val (.int (p0 &&& (3 : Int32))), .unset, .unset, .unset, .unset, .unset, .unset, .unset, .unset, .unset, .unset, .unset, .unset] [(.int (p0 &&& (3 : Int32)))]))) (fun t_ k_ => XS.iload Xi6.here hx rfl (hb hby at_60) rfl k_) ?_
  refine Go.st (U := (Ti6.setTop (mkF m 63 #[.val (.int p0), .val (.long p1), .second, .val (.int p2), .val (.int p3), .val (.int p4), .val (.ref cs), .val (.ref st), .val (.int (p0 &&& (3 : Int32))), .unset, .unset, .unset, .unset, .unset, .unset, .unset, .unset, .unset, .unset, .unset, .unset] [(.int (3 : Int32)), (.int (p0 &&& (3 : Int32)))]))) (fun t_ k_ => XS.iconst Xi6.here hx rfl (hb hby at_62) k_) ?_
  by_cases b63 : (p0 &&& (3 : Int32)) = (3 : Int32)
  · refine Go.st (U := (Ti6.setTop (mkF m 66 #[.val (.int p0), .val (.long p1), .second, .val (.int p2), .val (.int p3), .val (.int p4), .val (.ref cs), .val (.ref st), .val (.int (p0 &&& (3 : Int32))), .unset, .unset, .unset, .unset, .unset, .unset, .unset, .unset, .unset, .unset, .unset, .unset] []))) (fun t_ k_ => XS.icmpNo Xi6.here hx rfl (hb hby at_63) rfl (teq b63).2 k_) ?_
    have OK := Jvm.OwnFl.own_C p3
    refine Go.st (U := (Ti6.setTop (mkF m 68 #[.val (.int p0), .val (.long p1), .second, .val (.int p2), .val (.int p3), .val (.int p4), .val (.ref cs), .val (.ref st), .val (.int (p0 &&& (3 : Int32))), .unset, .unset, .unset, .unset, .unset, .unset, .unset, .unset, .unset, .unset, .unset, .unset] [(.int p3)]))) (fun t_ k_ => XS.iload Xi6.here hx rfl (hb hby at_66) rfl k_) ?_
    refine Go.st (U := (Ti6.setTop (mkF m 69 #[.val (.int p0), .val (.long p1), .second, .val (.int p2), .val (.int p3), .val (.int p4), .val (.ref cs), .val (.ref st), .val (.int (p0 &&& (3 : Int32))), .unset, .unset, .unset, .unset, .unset, .unset, .unset, .unset, .unset, .unset, .unset, .unset] [(.double (FP.i2d p3))]))) (fun t_ k_ => XS.i2dS Xi6.here hx rfl (hb hby at_68) rfl rfl k_) ?_
    refine Go.st (U := (Ti6.setTop (mkF m 71 #[.val (.int p0), .val (.long p1), .second, .val (.int p2), .val (.int p3), .val (.int p4), .val (.ref cs), .val (.ref st), .val (.int (p0 &&& (3 : Int32))), .val (.double (FP.i2d p3)), .second, .unset, .unset, .unset, .unset, .unset, .unset, .unset, .unset, .unset, .unset] []))) (fun t_ k_ => XS.dstore Xi6.here hx rfl (hb hby at_69) rfl (l' := #[.val (.int p0), .val (.long p1), .second, .val (.int p2), .val (.int p3), .val (.int p4), .val (.ref cs), .val (.ref st), .val (.int (p0 &&& (3 : Int32))), .val (.double (FP.i2d p3)), .second, .unset, .unset, .unset, .unset, .unset, .unset, .unset, .unset, .unset, .unset]) rfl k_) ?_
    refine Go.st (U := (Ti6.setTop (mkF m 73 #[.val (.int p0), .val (.long p1), .second, .val (.int p2), .val (.int p3), .val (.int p4), .val (.ref cs), .val (.ref st), .val (.int (p0 &&& (3 : Int32))), .val (.double (FP.i2d p3)), .second, .unset, .unset, .unset, .unset, .unset, .unset, .unset, .unset, .unset, .unset] [(.int p3)]))) (fun t_ k_ => XS.iload Xi6.here hx rfl (hb hby at_71) rfl k_) ?_
    refine Go.st (U := (Ti6.setTop (mkF m 74 #[.val (.int p0), .val (.long p1), .second, .val (.int p2), .val (.int p3), .val (.int p4), .val (.ref cs), .val (.ref st), .val (.int (p0 &&& (3 : Int32))), .val (.double (FP.i2d p3)), .second, .unset, .unset, .unset, .unset, .unset, .unset, .unset, .unset, .unset, .unset] [(.double (FP.i2d p3))]))) (fun t_ k_ => XS.i2dS Xi6.here hx rfl (hb hby at_73) rfl rfl k_) ?_
    refine Go.st (U := (Ti6.setTop (mkF m 76 #[.val (.int p0), .val (.long p1), .second, .val (.int p2), .val (.int p3), .val (.int p4), .val (.ref cs), .val (.ref st), .val (.int (p0 &&& (3 : Int32))), .val (.double (FP.i2d p3)), .second, .val (.double (FP.i2d p3)), .second, .unset, .unset, .unset, .unset, .unset, .unset, .unset, .unset] []))) (fun t_ k_ => XS.dstore Xi6.here hx rfl (hb hby at_74) rfl (l' := #[.val (.int p0), .val (.long p1), .second, .val (.int p2), .val (.int p3), .val (.int p4), .val (.ref cs), .val (.ref st), .val (.int (p0 &&& (3 : Int32))), .val (.double (FP.i2d p3)), .second, .val (.double (FP.i2d p3)), .second, .unset, .unset, .unset, .unset, .unset, .unset, .unset, .unset]) rfl k_) ?_
    refine Go.st (U := (Ti6.setTop (mkF m 257 #[.val (.int p0), .val (.long p1), .second, .val (.int p2), .val (.int p3), .val (.int p4), .val (.ref cs), .val (.ref st), .val (.int (p0 &&& (3 : Int32))), .val (.double (FP.i2d p3)), .second, .val (.double (FP.i2d p3)), .second, .unset, .unset, .unset, .unset, .unset, .unset, .unset, .unset] []))) (fun t_ k_ => XS.goto Xi6.here hx rfl (pc0 := 76) (pc' := 257) rfl (hb hby at_76) (by decide) (by decide) k_) ?_
    refine Go.st (U := (Ti6.setTop (mkF m 259 #[.val (.int p0), .val (.long p1), .second, .val (.int p2), .val (.int p3), .val (.int p4), .val (.ref cs), .val (.ref st), .val (.int (p0 &&& (3 : Int32))), .val (.double (FP.i2d p3)), .second, .val (.double (FP.i2d p3)), .second, .unset, .unset, .unset, .unset, .unset, .unset, .unset, .unset] [(.ref st)]))) (fun t_ k_ => XS.aload Xi6.here hx rfl (hb hby at_257) rfl rfl k_) ?_
    refine Go.st (U := (Ti6.setTop (mkF m 261 #[.val (.int p0), .val (.long p1), .second, .val (.int p2), .val (.int p3), .val (.int p4), .val (.ref cs), .val (.ref st), .val (.int (p0 &&& (3 : Int32))), .val (.double (FP.i2d p3)), .second, .val (.double (FP.i2d p3)), .second, .unset, .unset, .unset, .unset, .unset, .unset, .unset, .unset] [(.double (FP.i2d p3)), (.ref st)]))) (fun t_ k_ => XS.dload Xi6.here hx rfl (hb hby at_259) rfl k_) ?_
    refine Go.callS Xi6 hx hZ hown (hw _ (List.mem_of_getElem? (i := 36) rfl)) (hw _ (List.mem_of_getElem? (i := 37) rfl)) (hw _ (List.mem_of_getElem? (i := 38) rfl)) (hw _ (List.mem_of_getElem? (i := 39) rfl)) (by decide) (rm_prt l Z a0 hw [] st (FP.i2d p3) Ti6.heap n0 Zi6 OK.1 OK.2.1 OK.2.2.1) (rfl : Ti6.heap = Ti6.heap) 0 (by decide) (by decide) (g := (mkF m 261 #[.val (.int p0), .val (.long p1), .second, .val (.int p2), .val (.int p3), .val (.int p4), .val (.ref cs), .val (.ref st), .val (.int (p0 &&& (3 : Int32))), .val (.double (FP.i2d p3)), .second, .val (.double (FP.i2d p3)), .second, .unset, .unset, .unset, .unset, .unset, .unset, .unset, .unset] [(.double (FP.i2d p3)), (.ref st)])) rfl (by rw [hml]; rfl) [(.ref st), (.double (FP.i2d p3))] [] rfl (lenOf pd2 rfl) rfl (by show 2 * 0 + _ ≤ _; exact Nat.le_of_eq rfl) (hb hby at_261) (by decide) (by decide) ?_
    intro vi7 Ti7 Li7 hQi7 Xi7
    obtain ⟨dd, rfl, Ni7, Ki7, ge_dd, sz0_dd, Ei7_dd, Fi7_dd_number, Fi7_dd_score⟩ := hQi7
    have Ni7 := Fr.app Ni6 Ni7
    have Zi7 : n0 ≤ Ti7.heap.size := Nat.le_trans Zi6 Ki7.1
    have Oi7 := Old.keep Oi6 Ki7 all0
    have Ei7_st := Exa.keep Ei6_st Ki7
    have Ki7 := Keep.trans Ki6 Ki7 all0
    show Go p e below s _ _ (Ti7.setTop (mkF m 264 #[.val (.int p0), .val (.long p1), .second, .val (.int p2), .val (.int p3), .val (.int p4), .val (.ref cs), .val (.ref st), .val (.int (p0 &&& (3 : Int32))), .val (.double (FP.i2d p3)), .second, .val (.double (FP.i2d p3)), .second, .unset, .unset, .unset, .unset, .unset, .unset, .unset, .unset] [(.ref dd)]))
    refine Go.st (U := (Ti7.setTop (mkF m 266 #[.val (.int p0), .val (.long p1), .second, .val (.int p2), .val (.int p3), .val (.int p4), .val (.ref cs), .val (.ref st), .val (.int (p0 &&& (3 : Int32))), .val (.double (FP.i2d p3)), .second, .val (.double (FP.i2d p3)), .second, .val (.ref dd), .unset, .unset, .unset, .unset, .unset, .unset, .unset] []))) (fun t_ k_ => XS.astore Xi7.here hx rfl (hb hby at_264) rfl rfl (l' := #[.val (.int p0), .val (.long p1), .second, .val (.int p2), .val (.int p3), .val (.int p4), .val (.ref cs), .val (.ref st), .val (.int (p0 &&& (3 : Int32))), .val (.double (FP.i2d p3)), .second, .val (.double (FP.i2d p3)), .second, .val (.ref dd), .unset, .unset, .unset, .unset, .unset, .unset, .unset]) rfl k_) ?_
    refine Go.st (U := (Ti7.setTop (mkF m 268 #[.val (.int p0), .val (.long p1), .second, .val (.int p2), .val (.int p3), .val (.int p4), .val (.ref cs), .val (.ref st), .val (.int (p0 &&& (3 : Int32))), .val (.double (FP.i2d p3)), .second, .val (.double (FP.i2d p3)), .second, .val (.ref dd), .unset, .unset, .unset, .unset, .unset, .unset, .unset] [(.ref dd)]))) (fun t_ k_ => XS.aload Xi7.here hx rfl (hb hby at_266) rfl rfl k_) ?_
    refine Go.callV Xi7 hx hZ hown (hw _ (List.mem_of_getElem? (i := 64) rfl)) (hw _ (List.mem_of_getElem? (i := 65) rfl)) (hw _ (List.mem_of_getElem? (i := 67) rfl)) (hw _ (List.mem_of_getElem? (i := 66) rfl)) (hw _ (List.mem_of_getElem? (i := 38) rfl)) (hw _ (List.mem_of_getElem? (i := 68) rfl)) (by decide) (rm_sco l Z a0 hw [] dd (own_v (FP.i2d p3)) Ti7.heap n0 Zi7 Fi7_dd_score) (rfl : Ti7.heap = Ti7.heap) dd Ei7_dd 0 (by decide) (by decide) (g := (mkF m 268 #[.val (.int p0), .val (.long p1), .second, .val (.int p2), .val (.int p3), .val (.int p4), .val (.ref cs), .val (.ref st), .val (.int (p0 &&& (3 : Int32))), .val (.double (FP.i2d p3)), .second, .val (.double (FP.i2d p3)), .second, .val (.ref dd), .unset, .unset, .unset, .unset, .unset, .unset, .unset] [(.ref dd)])) rfl (by rw [hml]; rfl) [] [] rfl (lenOf pd3 rfl) rfl (by show 2 * 0 + _ ≤ _; exact Nat.le_of_eq rfl) (hb hby at_268) (by decide) (by decide) ?_
    intro vi8 Ti8 Li8 hQi8 Xi8
    obtain ⟨rfl, Ni8, ei8⟩ := hQi8
    have Ni8 := Fr.app Ni7 Ni8
    show Go p e below s _ _ (Ti8.setTop (mkF m 271 #[.val (.int p0), .val (.long p1), .second, .val (.int p2), .val (.int p3), .val (.int p4), .val (.ref cs), .val (.ref st), .val (.int (p0 &&& (3 : Int32))), .val (.double (FP.i2d p3)), .second, .val (.double (FP.i2d p3)), .second, .val (.ref dd), .unset, .unset, .unset, .unset, .unset, .unset, .unset] [(.double (own_v (FP.i2d p3)))]))
    refine Go.st (U := (Ti8.setTop (mkF m 273 #[.val (.int p0), .val (.long p1), .second, .val (.int p2), .val (.int p3), .val (.int p4), .val (.ref cs), .val (.ref st), .val (.int (p0 &&& (3 : Int32))), .val (.double (FP.i2d p3)), .second, .val (.double (FP.i2d p3)), .second, .val (.ref dd), .unset, .unset, .unset, .unset, .unset, .unset, .unset] [(.double (FP.i2d p3)), (.double (own_v (FP.i2d p3)))]))) (fun t_ k_ => XS.dload Xi8.here hx rfl (hb hby at_271) rfl k_) ?_
    refine Go.st (U := (Ti8.setTop (mkF m 274 #[.val (.int p0), .val (.long p1), .second, .val (.int p2), .val (.int p3), .val (.int p4), .val (.ref cs), .val (.ref st), .val (.int (p0 &&& (3 : Int32))), .val (.double (FP.i2d p3)), .second, .val (.double (FP.i2d p3)), .second, .val (.ref dd), .unset, .unset, .unset, .unset, .unset, .unset, .unset] [(.int (cmpValue (FP.dcmp (own_v (FP.i2d p3)) (FP.i2d p3)) .l))]))) (fun t_ k_ => XS.dcmpS Xi8.here hx rfl (hb hby at_273) rfl rfl k_) ?_
    refine Go.st (U := (Ti8.setTop (mkF m 277 #[.val (.int p0), .val (.long p1), .second, .val (.int p2), .val (.int p3), .val (.int p4), .val (.ref cs), .val (.ref st), .val (.int (p0 &&& (3 : Int32))), .val (.double (FP.i2d p3)), .second, .val (.double (FP.i2d p3)), .second, .val (.ref dd), .unset, .unset, .unset, .unset, .unset, .unset, .unset] []))) (fun t_ k_ => XS.ifNo Xi8.here hx rfl (hb hby at_274) rfl ((if0 _ _).trans (teq OK.2.2.2).2) k_) ?_
    refine Go.st (U := (Ti8.setTop (mkF m 279 #[.val (.int p0), .val (.long p1), .second, .val (.int p2), .val (.int p3), .val (.int p4), .val (.ref cs), .val (.ref st), .val (.int (p0 &&& (3 : Int32))), .val (.double (FP.i2d p3)), .second, .val (.double (FP.i2d p3)), .second, .val (.ref dd), .unset, .unset, .unset, .unset, .unset, .unset, .unset] [(.ref dd)]))) (fun t_ k_ => XS.aload Xi8.here hx rfl (hb hby at_277) rfl rfl k_) ?_
    refine Go.callV Xi8 hx hZ hown (hw _ (List.mem_of_getElem? (i := 69) rfl)) (hw _ (List.mem_of_getElem? (i := 70) rfl)) (hw _ (List.mem_of_getElem? (i := 72) rfl)) (hw _ (List.mem_of_getElem? (i := 71) rfl)) (hw _ (List.mem_of_getElem? (i := 38) rfl)) (hw _ (List.mem_of_getElem? (i := 73) rfl)) (by decide) (rm_num l Z a0 hw [] dd st Ti7.heap n0 Zi7 Fi7_dd_number) ei8 dd Ei7_dd 0 (by decide) (by decide) (g := (mkF m 279 #[.val (.int p0), .val (.long p1), .second, .val (.int p2), .val (.int p3), .val (.int p4), .val (.ref cs), .val (.ref st), .val (.int (p0 &&& (3 : Int32))), .val (.double (FP.i2d p3)), .second, .val (.double (FP.i2d p3)), .second, .val (.ref dd), .unset, .unset, .unset, .unset, .unset, .unset, .unset] [(.ref dd)])) rfl (by rw [hml]; rfl) [] [] rfl (lenOf pd4 rfl) rfl (by show 2 * 0 + _ ≤ _; exact Nat.le_of_eq rfl) (hb hby at_279) (by decide) (by decide) ?_
    intro vi9 Ti9 Li9 hQi9 Xi9
    obtain ⟨rfl, Ni9, ei9⟩ := hQi9
    have Ni9 := Fr.app Ni8 Ni9
    show Go p e below s _ _ (Ti9.setTop (mkF m 282 #[.val (.int p0), .val (.long p1), .second, .val (.int p2), .val (.int p3), .val (.int p4), .val (.ref cs), .val (.ref st), .val (.int (p0 &&& (3 : Int32))), .val (.double (FP.i2d p3)), .second, .val (.double (FP.i2d p3)), .second, .val (.ref dd), .unset, .unset, .unset, .unset, .unset, .unset, .unset] [(.ref st)]))
    refine Go.st (U := (Ti9.setTop (mkF m 284 #[.val (.int p0), .val (.long p1), .second, .val (.int p2), .val (.int p3), .val (.int p4), .val (.ref cs), .val (.ref st), .val (.int (p0 &&& (3 : Int32))), .val (.double (FP.i2d p3)), .second, .val (.double (FP.i2d p3)), .second, .val (.ref dd), .unset, .unset, .unset, .unset, .unset, .unset, .unset] [(.ref st), (.ref st)]))) (fun t_ k_ => XS.aload Xi9.here hx rfl (hb hby at_282) rfl rfl k_) ?_
    refine Go.callV Xi9 hx hZ hown (hw _ (List.mem_of_getElem? (i := 74) rfl)) (hw _ (List.mem_of_getElem? (i := 75) rfl)) (hw _ (List.mem_of_getElem? (i := 77) rfl)) (hw _ (List.mem_of_getElem? (i := 76) rfl)) (hw _ (List.mem_of_getElem? (i := 3) rfl)) (hw _ (List.mem_of_getElem? (i := 78) rfl)) (by decide) (rm_equ l Z a0 hw [] st Ti7.heap n0 Zi7 ) ei9 st Ei7_st 0 (by decide) (by decide) (g := (mkF m 284 #[.val (.int p0), .val (.long p1), .second, .val (.int p2), .val (.int p3), .val (.int p4), .val (.ref cs), .val (.ref st), .val (.int (p0 &&& (3 : Int32))), .val (.double (FP.i2d p3)), .second, .val (.double (FP.i2d p3)), .second, .val (.ref dd), .unset, .unset, .unset, .unset, .unset, .unset, .unset] [(.ref st), (.ref st)])) rfl (by rw [hml]; rfl) [(.ref st)] [] rfl (lenOf pd5 rfl) rfl (by show 2 * 0 + _ ≤ _; exact Nat.le_of_eq rfl) (hb hby at_284) (by decide) (by decide) ?_
    intro vi10 Ti10 Li10 hQi10 Xi10
    obtain ⟨rfl, Ni10, ei10⟩ := hQi10
    have Ni10 := Fr.app Ni9 Ni10
    show Go p e below s _ _ (Ti10.setTop (mkF m 287 #[.val (.int p0), .val (.long p1), .second, .val (.int p2), .val (.int p3), .val (.int p4), .val (.ref cs), .val (.ref st), .val (.int (p0 &&& (3 : Int32))), .val (.double (FP.i2d p3)), .second, .val (.double (FP.i2d p3)), .second, .val (.ref dd), .unset, .unset, .unset, .unset, .unset, .unset, .unset] [(.int 1)]))
    refine Go.st (U := (Ti10.setTop (mkF m 290 #[.val (.int p0), .val (.long p1), .second, .val (.int p2), .val (.int p3), .val (.int p4), .val (.ref cs), .val (.ref st), .val (.int (p0 &&& (3 : Int32))), .val (.double (FP.i2d p3)), .second, .val (.double (FP.i2d p3)), .second, .val (.ref dd), .unset, .unset, .unset, .unset, .unset, .unset, .unset] []))) (fun t_ k_ => XS.ifNo Xi10.here hx rfl (hb hby at_287) rfl ((if0 _ _).trans (feq (by decide)).1) k_) ?_
    refine Go.st (U := (Ti10.setTop (mkF m 291 #[.val (.int p0), .val (.long p1), .second, .val (.int p2), .val (.int p3), .val (.int p4), .val (.ref cs), .val (.ref st), .val (.int (p0 &&& (3 : Int32))), .val (.double (FP.i2d p3)), .second, .val (.double (FP.i2d p3)), .second, .val (.ref dd), .unset, .unset, .unset, .unset, .unset, .unset, .unset] [(.int (1 : Int32))]))) (fun t_ k_ => XS.iconst Xi10.here hx rfl (hb hby at_290) k_) ?_
    refine Go.st (U := (Ti10.setTop (mkF m 295 #[.val (.int p0), .val (.long p1), .second, .val (.int p2), .val (.int p3), .val (.int p4), .val (.ref cs), .val (.ref st), .val (.int (p0 &&& (3 : Int32))), .val (.double (FP.i2d p3)), .second, .val (.double (FP.i2d p3)), .second, .val (.ref dd), .unset, .unset, .unset, .unset, .unset, .unset, .unset] [(.int (1 : Int32))]))) (fun t_ k_ => XS.goto Xi10.here hx rfl (pc0 := 291) (pc' := 295) rfl (hb hby at_291) (by decide) (by decide) k_) ?_
    refine Go.retZ Xi10 hx hlk hret (hb hby at_295) (by decide) (by decide) ?_
    exact ⟨rfl, Ni10⟩
  · refine Go.st (U := (Ti6.setTop (mkF m 79 #[.val (.int p0), .val (.long p1), .second, .val (.int p2), .val (.int p3), .val (.int p4), .val (.ref cs), .val (.ref st), .val (.int (p0 &&& (3 : Int32))), .unset, .unset, .unset, .unset, .unset, .unset, .unset, .unset, .unset, .unset, .unset, .unset] []))) (fun t_ k_ => XS.icmpYes Xi6.here hx rfl (pc0 := 63) (pc' := 79) rfl (hb hby at_63) rfl (feq b63).2 (by decide) (by decide) k_) ?_
    refine Go.st (U := (Ti6.setTop (mkF m 81 #[.val (.int p0), .val (.long p1), .second, .val (.int p2), .val (.int p3), .val (.int p4), .val (.ref cs), .val (.ref st), .val (.int (p0 &&& (3 : Int32))), .unset, .unset, .unset, .unset, .unset, .unset, .unset, .unset, .unset, .unset, .unset, .unset] [(.int (p0 &&& (3 : Int32)))]))) (fun t_ k_ => XS.iload Xi6.here hx rfl (hb hby at_79) rfl k_) ?_
    refine Go.st (U := (Ti6.setTop (mkF m 82 #[.val (.int p0), .val (.long p1), .second, .val (.int p2), .val (.int p3), .val (.int p4), .val (.ref cs), .val (.ref st), .val (.int (p0 &&& (3 : Int32))), .unset, .unset, .unset, .unset, .unset, .unset, .unset, .unset, .unset, .unset, .unset, .unset] [(.int (2 : Int32)), (.int (p0 &&& (3 : Int32)))]))) (fun t_ k_ => XS.iconst Xi6.here hx rfl (hb hby at_81) k_) ?_
    by_cases b82 : (p0 &&& (3 : Int32)) = (2 : Int32)
    · refine Go.st (U := (Ti6.setTop (mkF m 85 #[.val (.int p0), .val (.long p1), .second, .val (.int p2), .val (.int p3), .val (.int p4), .val (.ref cs), .val (.ref st), .val (.int (p0 &&& (3 : Int32))), .unset, .unset, .unset, .unset, .unset, .unset, .unset, .unset, .unset, .unset, .unset, .unset] []))) (fun t_ k_ => XS.icmpNo Xi6.here hx rfl (hb hby at_82) rfl (teq b82).2 k_) ?_
      refine Go.st (U := (Ti6.setTop (mkF m 88 #[.val (.int p0), .val (.long p1), .second, .val (.int p2), .val (.int p3), .val (.int p4), .val (.ref cs), .val (.ref st), .val (.int (p0 &&& (3 : Int32))), .unset, .unset, .unset, .unset, .unset, .unset, .unset, .unset, .unset, .unset, .unset, .unset] [(.long (2 : Int64))]))) (Xi6.ldc2Long hx hown (mvT hZ (hw _ (List.mem_of_getElem? (i := 80) rfl))) (g := (mkF m 85 #[.val (.int p0), .val (.long p1), .second, .val (.int p2), .val (.int p3), .val (.int p4), .val (.ref cs), .val (.ref st), .val (.int (p0 &&& (3 : Int32))), .unset, .unset, .unset, .unset, .unset, .unset, .unset, .unset, .unset, .unset, .unset, .unset] [])) rfl (hb hby at_85)) ?_
      refine Go.st (U := (Ti6.setTop (mkF m 89 #[.val (.int p0), .val (.long p1), .second, .val (.int p2), .val (.int p3), .val (.int p4), .val (.ref cs), .val (.ref st), .val (.int (p0 &&& (3 : Int32))), .unset, .unset, .unset, .unset, .unset, .unset, .unset, .unset, .unset, .unset, .unset, .unset] [(.int p2), (.long (2 : Int64))]))) (fun t_ k_ => XS.iloadN Xi6.here hx rfl (hb hby at_88) rfl k_) ?_
      refine Go.st (U := (Ti6.setTop (mkF m 91 #[.val (.int p0), .val (.long p1), .second, .val (.int p2), .val (.int p3), .val (.int p4), .val (.ref cs), .val (.ref st), .val (.int (p0 &&& (3 : Int32))), .unset, .unset, .unset, .unset, .unset, .unset, .unset, .unset, .unset, .unset, .unset, .unset] [(.int (1048576 : Int32)), (.int p2), (.long (2 : Int64))]))) (Xi6.ldcInt hx hown (mvT hZ (hw _ (List.mem_of_getElem? (i := 81) rfl))) (g := (mkF m 89 #[.val (.int p0), .val (.long p1), .second, .val (.int p2), .val (.int p3), .val (.int p4), .val (.ref cs), .val (.ref st), .val (.int (p0 &&& (3 : Int32))), .unset, .unset, .unset, .unset, .unset, .unset, .unset, .unset, .unset, .unset, .unset, .unset] [(.int p2), (.long (2 : Int64))])) rfl (hb hby at_89)) ?_
      refine Go.st (U := (Ti6.setTop (mkF m 92 #[.val (.int p0), .val (.long p1), .second, .val (.int p2), .val (.int p3), .val (.int p4), .val (.ref cs), .val (.ref st), .val (.int (p0 &&& (3 : Int32))), .unset, .unset, .unset, .unset, .unset, .unset, .unset, .unset, .unset, .unset, .unset, .unset] [(.int (p2 - p2 / (1048576 : Int32) * (1048576 : Int32))), (.long (2 : Int64))]))) (fun t_ k_ => XS.irem Xi6.here hx rfl (hb hby at_91) rfl (by decide) k_) ?_
      refine Go.st (U := (Ti6.setTop (mkF m 93 #[.val (.int p0), .val (.long p1), .second, .val (.int p2), .val (.int p3), .val (.int p4), .val (.ref cs), .val (.ref st), .val (.int (p0 &&& (3 : Int32))), .unset, .unset, .unset, .unset, .unset, .unset, .unset, .unset, .unset, .unset, .unset, .unset] [(.long ((p2 - p2 / (1048576 : Int32) * (1048576 : Int32)).toInt64)), (.long (2 : Int64))]))) (fun t_ k_ => XS.i2l Xi6.here hx rfl (hb hby at_92) rfl k_) ?_
      refine Go.st (U := (Ti6.setTop (mkF m 94 #[.val (.int p0), .val (.long p1), .second, .val (.int p2), .val (.int p3), .val (.int p4), .val (.ref cs), .val (.ref st), .val (.int (p0 &&& (3 : Int32))), .unset, .unset, .unset, .unset, .unset, .unset, .unset, .unset, .unset, .unset, .unset, .unset] [(.long ((2 : Int64) * ((p2 - p2 / (1048576 : Int32) * (1048576 : Int32)).toInt64)))]))) (fun t_ k_ => XS.lmul Xi6.here hx rfl (hb hby at_93) rfl k_) ?_
      refine Go.st (U := (Ti6.setTop (mkF m 95 #[.val (.int p0), .val (.long p1), .second, .val (.int p2), .val (.int p3), .val (.int p4), .val (.ref cs), .val (.ref st), .val (.int (p0 &&& (3 : Int32))), .unset, .unset, .unset, .unset, .unset, .unset, .unset, .unset, .unset, .unset, .unset, .unset] [(.long (1 : Int64)), (.long ((2 : Int64) * ((p2 - p2 / (1048576 : Int32) * (1048576 : Int32)).toInt64)))]))) (fun t_ k_ => XS.lconst Xi6.here hx rfl (hb hby at_94) k_) ?_
      refine Go.st (U := (Ti6.setTop (mkF m 96 #[.val (.int p0), .val (.long p1), .second, .val (.int p2), .val (.int p3), .val (.int p4), .val (.ref cs), .val (.ref st), .val (.int (p0 &&& (3 : Int32))), .unset, .unset, .unset, .unset, .unset, .unset, .unset, .unset, .unset, .unset, .unset, .unset] [(.long (((2 : Int64) * ((p2 - p2 / (1048576 : Int32) * (1048576 : Int32)).toInt64)) + (1 : Int64)))]))) (fun t_ k_ => XS.ladd Xi6.here hx rfl (hb hby at_95) rfl k_) ?_
      generalize q_odd : (((2 : Int64) * ((p2 - p2 / (1048576 : Int32) * (1048576 : Int32)).toInt64)) + (1 : Int64)) = odd
      refine Go.st (U := (Ti6.setTop (mkF m 98 #[.val (.int p0), .val (.long p1), .second, .val (.int p2), .val (.int p3), .val (.int p4), .val (.ref cs), .val (.ref st), .val (.int (p0 &&& (3 : Int32))), .unset, .unset, .unset, .unset, .val (.long odd), .second, .unset, .unset, .unset, .unset, .unset, .unset] []))) (fun t_ k_ => XS.lstore Xi6.here hx rfl (hb hby at_96) rfl (l' := #[.val (.int p0), .val (.long p1), .second, .val (.int p2), .val (.int p3), .val (.int p4), .val (.ref cs), .val (.ref st), .val (.int (p0 &&& (3 : Int32))), .unset, .unset, .unset, .unset, .val (.long odd), .second, .unset, .unset, .unset, .unset, .unset, .unset]) rfl k_) ?_
      obtain ⟨nb1, nb2, OK⟩ := Jvm.OwnFl.own_B (own_odd q_odd).1 (own_odd q_odd).2
      refine Go.st (U := (Ti6.setTop (mkF m 100 #[.val (.int p0), .val (.long p1), .second, .val (.int p2), .val (.int p3), .val (.int p4), .val (.ref cs), .val (.ref st), .val (.int (p0 &&& (3 : Int32))), .unset, .unset, .unset, .unset, .val (.long odd), .second, .unset, .unset, .unset, .unset, .unset, .unset] [(.long odd)]))) (fun t_ k_ => XS.lload Xi6.here hx rfl (hb hby at_98) rfl k_) ?_
      refine Go.st (U := (Ti6.setTop (mkF m 101 #[.val (.int p0), .val (.long p1), .second, .val (.int p2), .val (.int p3), .val (.int p4), .val (.ref cs), .val (.ref st), .val (.int (p0 &&& (3 : Int32))), .unset, .unset, .unset, .unset, .val (.long odd), .second, .unset, .unset, .unset, .unset, .unset, .unset] [(.double (FP.l2d odd))]))) (fun t_ k_ => XS.l2dS Xi6.here hx rfl (hb hby at_100) rfl rfl k_) ?_
      refine Go.st (U := (Ti6.setTop (mkF m 104 #[.val (.int p0), .val (.long p1), .second, .val (.int p2), .val (.int p3), .val (.int p4), .val (.ref cs), .val (.ref st), .val (.int (p0 &&& (3 : Int32))), .unset, .unset, .unset, .unset, .val (.long odd), .second, .unset, .unset, .unset, .unset, .unset, .unset] [(.double (4638707616191610880 : UInt64)), (.double (FP.l2d odd))]))) (Xi6.ldc2DoubleC hx hown (mvT hZ (hw _ (List.mem_of_getElem? (i := 82) rfl))) (g := (mkF m 101 #[.val (.int p0), .val (.long p1), .second, .val (.int p2), .val (.int p3), .val (.int p4), .val (.ref cs), .val (.ref st), .val (.int (p0 &&& (3 : Int32))), .unset, .unset, .unset, .unset, .val (.long odd), .second, .unset, .unset, .unset, .unset, .unset, .unset] [(.double (FP.l2d odd))])) rfl (hb hby at_101)) ?_
      refine Go.st (U := (Ti6.setTop (mkF m 105 #[.val (.int p0), .val (.long p1), .second, .val (.int p2), .val (.int p3), .val (.int p4), .val (.ref cs), .val (.ref st), .val (.int (p0 &&& (3 : Int32))), .unset, .unset, .unset, .unset, .val (.long odd), .second, .unset, .unset, .unset, .unset, .unset, .unset] [(.double (FP.ddiv (FP.l2d odd) (4638707616191610880 : UInt64)))]))) (fun t_ k_ => XS.ddivS Xi6.here hx rfl (hb hby at_104) rfl nb1 rfl k_) ?_
      refine Go.st (U := (Ti6.setTop (mkF m 107 #[.val (.int p0), .val (.long p1), .second, .val (.int p2), .val (.int p3), .val (.int p4), .val (.ref cs), .val (.ref st), .val (.int (p0 &&& (3 : Int32))), .val (.double (FP.ddiv (FP.l2d odd) (4638707616191610880 : UInt64))), .second, .unset, .unset, .val (.long odd), .second, .unset, .unset, .unset, .unset, .unset, .unset] []))) (fun t_ k_ => XS.dstore Xi6.here hx rfl (hb hby at_105) rfl (l' := #[.val (.int p0), .val (.long p1), .second, .val (.int p2), .val (.int p3), .val (.int p4), .val (.ref cs), .val (.ref st), .val (.int (p0 &&& (3 : Int32))), .val (.double (FP.ddiv (FP.l2d odd) (4638707616191610880 : UInt64))), .second, .unset, .unset, .val (.long odd), .second, .unset, .unset, .unset, .unset, .unset, .unset]) rfl k_) ?_
      refine Go.st (U := (Ti6.setTop (mkF m 109 #[.val (.int p0), .val (.long p1), .second, .val (.int p2), .val (.int p3), .val (.int p4), .val (.ref cs), .val (.ref st), .val (.int (p0 &&& (3 : Int32))), .val (.double (FP.ddiv (FP.l2d odd) (4638707616191610880 : UInt64))), .second, .unset, .unset, .val (.long odd), .second, .unset, .unset, .unset, .unset, .unset, .unset] [(.long odd)]))) (fun t_ k_ => XS.lload Xi6.here hx rfl (hb hby at_107) rfl k_) ?_
      refine Go.st (U := (Ti6.setTop (mkF m 112 #[.val (.int p0), .val (.long p1), .second, .val (.int p2), .val (.int p3), .val (.int p4), .val (.ref cs), .val (.ref st), .val (.int (p0 &&& (3 : Int32))), .val (.double (FP.ddiv (FP.l2d odd) (4638707616191610880 : UInt64))), .second, .unset, .unset, .val (.long odd), .second, .unset, .unset, .unset, .unset, .unset, .unset] [(.long (15625 : Int64)), (.long odd)]))) (Xi6.ldc2Long hx hown (mvT hZ (hw _ (List.mem_of_getElem? (i := 83) rfl))) (g := (mkF m 109 #[.val (.int p0), .val (.long p1), .second, .val (.int p2), .val (.int p3), .val (.int p4), .val (.ref cs), .val (.ref st), .val (.int (p0 &&& (3 : Int32))), .val (.double (FP.ddiv (FP.l2d odd) (4638707616191610880 : UInt64))), .second, .unset, .unset, .val (.long odd), .second, .unset, .unset, .unset, .unset, .unset, .unset] [(.long odd)])) rfl (hb hby at_109)) ?_
      refine Go.st (U := (Ti6.setTop (mkF m 113 #[.val (.int p0), .val (.long p1), .second, .val (.int p2), .val (.int p3), .val (.int p4), .val (.ref cs), .val (.ref st), .val (.int (p0 &&& (3 : Int32))), .val (.double (FP.ddiv (FP.l2d odd) (4638707616191610880 : UInt64))), .second, .unset, .unset, .val (.long odd), .second, .unset, .unset, .unset, .unset, .unset, .unset] [(.long (odd * (15625 : Int64)))]))) (fun t_ k_ => XS.lmul Xi6.here hx rfl (hb hby at_112) rfl k_) ?_
      refine Go.st (U := (Ti6.setTop (mkF m 115 #[.val (.int p0), .val (.long p1), .second, .val (.int p2), .val (.int p3), .val (.int p4), .val (.ref cs), .val (.ref st), .val (.int (p0 &&& (3 : Int32))), .val (.double (FP.ddiv (FP.l2d odd) (4638707616191610880 : UInt64))), .second, .unset, .unset, .val (.long odd), .second, .val (.long (odd * (15625 : Int64))), .second, .unset, .unset, .unset, .unset] []))) (fun t_ k_ => XS.lstore Xi6.here hx rfl (hb hby at_113) rfl (l' := #[.val (.int p0), .val (.long p1), .second, .val (.int p2), .val (.int p3), .val (.int p4), .val (.ref cs), .val (.ref st), .val (.int (p0 &&& (3 : Int32))), .val (.double (FP.ddiv (FP.l2d odd) (4638707616191610880 : UInt64))), .second, .unset, .unset, .val (.long odd), .second, .val (.long (odd * (15625 : Int64))), .second, .unset, .unset, .unset, .unset]) rfl k_) ?_
      refine Go.st (U := (Ti6.setTop (mkF m 117 #[.val (.int p0), .val (.long p1), .second, .val (.int p2), .val (.int p3), .val (.int p4), .val (.ref cs), .val (.ref st), .val (.int (p0 &&& (3 : Int32))), .val (.double (FP.ddiv (FP.l2d odd) (4638707616191610880 : UInt64))), .second, .unset, .unset, .val (.long odd), .second, .val (.long (odd * (15625 : Int64))), .second, .unset, .unset, .unset, .unset] [(.long (odd * (15625 : Int64)))]))) (fun t_ k_ => XS.lload Xi6.here hx rfl (hb hby at_115) rfl k_) ?_
      refine Go.st (U := (Ti6.setTop (mkF m 118 #[.val (.int p0), .val (.long p1), .second, .val (.int p2), .val (.int p3), .val (.int p4), .val (.ref cs), .val (.ref st), .val (.int (p0 &&& (3 : Int32))), .val (.double (FP.ddiv (FP.l2d odd) (4638707616191610880 : UInt64))), .second, .unset, .unset, .val (.long odd), .second, .val (.long (odd * (15625 : Int64))), .second, .unset, .unset, .unset, .unset] [(.long (1 : Int64)), (.long (odd * (15625 : Int64)))]))) (fun t_ k_ => XS.lconst Xi6.here hx rfl (hb hby at_117) k_) ?_
      refine Go.st (U := (Ti6.setTop (mkF m 119 #[.val (.int p0), .val (.long p1), .second, .val (.int p2), .val (.int p3), .val (.int p4), .val (.ref cs), .val (.ref st), .val (.int (p0 &&& (3 : Int32))), .val (.double (FP.ddiv (FP.l2d odd) (4638707616191610880 : UInt64))), .second, .unset, .unset, .val (.long odd), .second, .val (.long (odd * (15625 : Int64))), .second, .unset, .unset, .unset, .unset] [(.long ((odd * (15625 : Int64)) + (1 : Int64)))]))) (fun t_ k_ => XS.ladd Xi6.here hx rfl (hb hby at_118) rfl k_) ?_
      refine Go.st (U := (Ti6.setTop (mkF m 122 #[.val (.int p0), .val (.long p1), .second, .val (.int p2), .val (.int p3), .val (.int p4), .val (.ref cs), .val (.ref st), .val (.int (p0 &&& (3 : Int32))), .val (.double (FP.ddiv (FP.l2d odd) (4638707616191610880 : UInt64))), .second, .unset, .unset, .val (.long odd), .second, .val (.long (odd * (15625 : Int64))), .second, .unset, .unset, .unset, .unset] [(.long (2 : Int64)), (.long ((odd * (15625 : Int64)) + (1 : Int64)))]))) (Xi6.ldc2Long hx hown (mvT hZ (hw _ (List.mem_of_getElem? (i := 80) rfl))) (g := (mkF m 119 #[.val (.int p0), .val (.long p1), .second, .val (.int p2), .val (.int p3), .val (.int p4), .val (.ref cs), .val (.ref st), .val (.int (p0 &&& (3 : Int32))), .val (.double (FP.ddiv (FP.l2d odd) (4638707616191610880 : UInt64))), .second, .unset, .unset, .val (.long odd), .second, .val (.long (odd * (15625 : Int64))), .second, .unset, .unset, .unset, .unset] [(.long ((odd * (15625 : Int64)) + (1 : Int64)))])) rfl (hb hby at_119)) ?_
      refine Go.st (U := (Ti6.setTop (mkF m 123 #[.val (.int p0), .val (.long p1), .second, .val (.int p2), .val (.int p3), .val (.int p4), .val (.ref cs), .val (.ref st), .val (.int (p0 &&& (3 : Int32))), .val (.double (FP.ddiv (FP.l2d odd) (4638707616191610880 : UInt64))), .second, .unset, .unset, .val (.long odd), .second, .val (.long (odd * (15625 : Int64))), .second, .unset, .unset, .unset, .unset] [(.long (((odd * (15625 : Int64)) + (1 : Int64)) / (2 : Int64)))]))) (fun t_ k_ => XS.ldiv Xi6.here hx rfl (hb hby at_122) rfl (by decide) k_) ?_
      refine Go.st (U := (Ti6.setTop (mkF m 124 #[.val (.int p0), .val (.long p1), .second, .val (.int p2), .val (.int p3), .val (.int p4), .val (.ref cs), .val (.ref st), .val (.int (p0 &&& (3 : Int32))), .val (.double (FP.ddiv (FP.l2d odd) (4638707616191610880 : UInt64))), .second, .unset, .unset, .val (.long odd), .second, .val (.long (odd * (15625 : Int64))), .second, .unset, .unset, .unset, .unset] [(.double (FP.l2d (((odd * (15625 : Int64)) + (1 : Int64)) / (2 : Int64))))]))) (fun t_ k_ => XS.l2dS Xi6.here hx rfl (hb hby at_123) rfl rfl k_) ?_
      refine Go.st (U := (Ti6.setTop (mkF m 127 #[.val (.int p0), .val (.long p1), .second, .val (.int p2), .val (.int p3), .val (.int p4), .val (.ref cs), .val (.ref st), .val (.int (p0 &&& (3 : Int32))), .val (.double (FP.ddiv (FP.l2d odd) (4638707616191610880 : UInt64))), .second, .unset, .unset, .val (.long odd), .second, .val (.long (odd * (15625 : Int64))), .second, .unset, .unset, .unset, .unset] [(.double (4696837146684686336 : UInt64)), (.double (FP.l2d (((odd * (15625 : Int64)) + (1 : Int64)) / (2 : Int64))))]))) (Xi6.ldc2DoubleC hx hown (mvT hZ (hw _ (List.mem_of_getElem? (i := 35) rfl))) (g := (mkF m 124 #[.val (.int p0), .val (.long p1), .second, .val (.int p2), .val (.int p3), .val (.int p4), .val (.ref cs), .val (.ref st), .val (.int (p0 &&& (3 : Int32))), .val (.double (FP.ddiv (FP.l2d odd) (4638707616191610880 : UInt64))), .second, .unset, .unset, .val (.long odd), .second, .val (.long (odd * (15625 : Int64))), .second, .unset, .unset, .unset, .unset] [(.double (FP.l2d (((odd * (15625 : Int64)) + (1 : Int64)) / (2 : Int64))))])) rfl (hb hby at_124)) ?_
      refine Go.st (U := (Ti6.setTop (mkF m 128 #[.val (.int p0), .val (.long p1), .second, .val (.int p2), .val (.int p3), .val (.int p4), .val (.ref cs), .val (.ref st), .val (.int (p0 &&& (3 : Int32))), .val (.double (FP.ddiv (FP.l2d odd) (4638707616191610880 : UInt64))), .second, .unset, .unset, .val (.long odd), .second, .val (.long (odd * (15625 : Int64))), .second, .unset, .unset, .unset, .unset] [(.double (FP.ddiv (FP.l2d (((odd * (15625 : Int64)) + (1 : Int64)) / (2 : Int64))) (4696837146684686336 : UInt64)))]))) (fun t_ k_ => XS.ddivS Xi6.here hx rfl (hb hby at_127) rfl nb2 rfl k_) ?_
      refine Go.st (U := (Ti6.setTop (mkF m 130 #[.val (.int p0), .val (.long p1), .second, .val (.int p2), .val (.int p3), .val (.int p4), .val (.ref cs), .val (.ref st), .val (.int (p0 &&& (3 : Int32))), .val (.double (FP.ddiv (FP.l2d odd) (4638707616191610880 : UInt64))), .second, .val (.double (FP.ddiv (FP.l2d (((odd * (15625 : Int64)) + (1 : Int64)) / (2 : Int64))) (4696837146684686336 : UInt64))), .second, .val (.long odd), .second, .val (.long (odd * (15625 : Int64))), .second, .unset, .unset, .unset, .unset] []))) (fun t_ k_ => XS.dstore Xi6.here hx rfl (hb hby at_128) rfl (l' := #[.val (.int p0), .val (.long p1), .second, .val (.int p2), .val (.int p3), .val (.int p4), .val (.ref cs), .val (.ref st), .val (.int (p0 &&& (3 : Int32))), .val (.double (FP.ddiv (FP.l2d odd) (4638707616191610880 : UInt64))), .second, .val (.double (FP.ddiv (FP.l2d (((odd * (15625 : Int64)) + (1 : Int64)) / (2 : Int64))) (4696837146684686336 : UInt64))), .second, .val (.long odd), .second, .val (.long (odd * (15625 : Int64))), .second, .unset, .unset, .unset, .unset]) rfl k_) ?_
      refine Go.st (U := (Ti6.setTop (mkF m 257 #[.val (.int p0), .val (.long p1), .second, .val (.int p2), .val (.int p3), .val (.int p4), .val (.ref cs), .val (.ref st), .val (.int (p0 &&& (3 : Int32))), .val (.double (FP.ddiv (FP.l2d odd) (4638707616191610880 : UInt64))), .second, .val (.double (FP.ddiv (FP.l2d (((odd * (15625 : Int64)) + (1 : Int64)) / (2 : Int64))) (4696837146684686336 : UInt64))), .second, .val (.long odd), .second, .val (.long (odd * (15625 : Int64))), .second, .unset, .unset, .unset, .unset] []))) (fun t_ k_ => XS.goto Xi6.here hx rfl (pc0 := 130) (pc' := 257) rfl (hb hby at_130) (by decide) (by decide) k_) ?_
      refine Go.st (U := (Ti6.setTop (mkF m 259 #[.val (.int p0), .val (.long p1), .second, .val (.int p2), .val (.int p3), .val (.int p4), .val (.ref cs), .val (.ref st), .val (.int (p0 &&& (3 : Int32))), .val (.double (FP.ddiv (FP.l2d odd) (4638707616191610880 : UInt64))), .second, .val (.double (FP.ddiv (FP.l2d (((odd * (15625 : Int64)) + (1 : Int64)) / (2 : Int64))) (4696837146684686336 : UInt64))), .second, .val (.long odd), .second, .val (.long (odd * (15625 : Int64))), .second, .unset, .unset, .unset, .unset] [(.ref st)]))) (fun t_ k_ => XS.aload Xi6.here hx rfl (hb hby at_257) rfl rfl k_) ?_
      refine Go.st (U := (Ti6.setTop (mkF m 261 #[.val (.int p0), .val (.long p1), .second, .val (.int p2), .val (.int p3), .val (.int p4), .val (.ref cs), .val (.ref st), .val (.int (p0 &&& (3 : Int32))), .val (.double (FP.ddiv (FP.l2d odd) (4638707616191610880 : UInt64))), .second, .val (.double (FP.ddiv (FP.l2d (((odd * (15625 : Int64)) + (1 : Int64)) / (2 : Int64))) (4696837146684686336 : UInt64))), .second, .val (.long odd), .second, .val (.long (odd * (15625 : Int64))), .second, .unset, .unset, .unset, .unset] [(.double (FP.ddiv (FP.l2d odd) (4638707616191610880 : UInt64))), (.ref st)]))) (fun t_ k_ => XS.dload Xi6.here hx rfl (hb hby at_259) rfl k_) ?_
      refine Go.callS Xi6 hx hZ hown (hw _ (List.mem_of_getElem? (i := 36) rfl)) (hw _ (List.mem_of_getElem? (i := 37) rfl)) (hw _ (List.mem_of_getElem? (i := 38) rfl)) (hw _ (List.mem_of_getElem? (i := 39) rfl)) (by decide) (rm_prt l Z a0 hw [] st (FP.ddiv (FP.l2d odd) (4638707616191610880 : UInt64)) Ti6.heap n0 Zi6 OK.1 OK.2.1 OK.2.2.1) (rfl : Ti6.heap = Ti6.heap) 0 (by decide) (by decide) (g := (mkF m 261 #[.val (.int p0), .val (.long p1), .second, .val (.int p2), .val (.int p3), .val (.int p4), .val (.ref cs), .val (.ref st), .val (.int (p0 &&& (3 : Int32))), .val (.double (FP.ddiv (FP.l2d odd) (4638707616191610880 : UInt64))), .second, .val (.double (FP.ddiv (FP.l2d (((odd * (15625 : Int64)) + (1 : Int64)) / (2 : Int64))) (4696837146684686336 : UInt64))), .second, .val (.long odd), .second, .val (.long (odd * (15625 : Int64))), .second, .unset, .unset, .unset, .unset] [(.double (FP.ddiv (FP.l2d odd) (4638707616191610880 : UInt64))), (.ref st)])) rfl (by rw [hml]; rfl) [(.ref st), (.double (FP.ddiv (FP.l2d odd) (4638707616191610880 : UInt64)))] [] rfl (lenOf pd2 rfl) rfl (by show 2 * 0 + _ ≤ _; exact Nat.le_of_eq rfl) (hb hby at_261) (by decide) (by decide) ?_
      intro vi11 Ti11 Li11 hQi11 Xi11
      obtain ⟨dd, rfl, Ni11, Ki11, ge_dd, sz0_dd, Ei11_dd, Fi11_dd_number, Fi11_dd_score⟩ := hQi11
      have Ni11 := Fr.app Ni6 Ni11
      have Zi11 : n0 ≤ Ti11.heap.size := Nat.le_trans Zi6 Ki11.1
      have Oi11 := Old.keep Oi6 Ki11 all0
      have Ei11_st := Exa.keep Ei6_st Ki11
      have Ki11 := Keep.trans Ki6 Ki11 all0
      show Go p e below s _ _ (Ti11.setTop (mkF m 264 #[.val (.int p0), .val (.long p1), .second, .val (.int p2), .val (.int p3), .val (.int p4), .val (.ref cs), .val (.ref st), .val (.int (p0 &&& (3 : Int32))), .val (.double (FP.ddiv (FP.l2d odd) (4638707616191610880 : UInt64))), .second, .val (.double (FP.ddiv (FP.l2d (((odd * (15625 : Int64)) + (1 : Int64)) / (2 : Int64))) (4696837146684686336 : UInt64))), .second, .val (.long odd), .second, .val (.long (odd * (15625 : Int64))), .second, .unset, .unset, .unset, .unset] [(.ref dd)]))
      refine Go.st (U := (Ti11.setTop (mkF m 266 #[.val (.int p0), .val (.long p1), .second, .val (.int p2), .val (.int p3), .val (.int p4), .val (.ref cs), .val (.ref st), .val (.int (p0 &&& (3 : Int32))), .val (.double (FP.ddiv (FP.l2d odd) (4638707616191610880 : UInt64))), .second, .val (.double (FP.ddiv (FP.l2d (((odd * (15625 : Int64)) + (1 : Int64)) / (2 : Int64))) (4696837146684686336 : UInt64))), .second, .val (.ref dd), .unset, .val (.long (odd * (15625 : Int64))), .second, .unset, .unset, .unset, .unset] []))) (fun t_ k_ => XS.astore Xi11.here hx rfl (hb hby at_264) rfl rfl (l' := #[.val (.int p0), .val (.long p1), .second, .val (.int p2), .val (.int p3), .val (.int p4), .val (.ref cs), .val (.ref st), .val (.int (p0 &&& (3 : Int32))), .val (.double (FP.ddiv (FP.l2d odd) (4638707616191610880 : UInt64))), .second, .val (.double (FP.ddiv (FP.l2d (((odd * (15625 : Int64)) + (1 : Int64)) / (2 : Int64))) (4696837146684686336 : UInt64))), .second, .val (.ref dd), .unset, .val (.long (odd * (15625 : Int64))), .second, .unset, .unset, .unset, .unset]) rfl k_) ?_
      refine Go.st (U := (Ti11.setTop (mkF m 268 #[.val (.int p0), .val (.long p1), .second, .val (.int p2), .val (.int p3), .val (.int p4), .val (.ref cs), .val (.ref st), .val (.int (p0 &&& (3 : Int32))), .val (.double (FP.ddiv (FP.l2d odd) (4638707616191610880 : UInt64))), .second, .val (.double (FP.ddiv (FP.l2d (((odd * (15625 : Int64)) + (1 : Int64)) / (2 : Int64))) (4696837146684686336 : UInt64))), .second, .val (.ref dd), .unset, .val (.long (odd * (15625 : Int64))), .second, .unset, .unset, .unset, .unset] [(.ref dd)]))) (fun t_ k_ => XS.aload Xi11.here hx rfl (hb hby at_266) rfl rfl k_) ?_
      refine Go.callV Xi11 hx hZ hown (hw _ (List.mem_of_getElem? (i := 64) rfl)) (hw _ (List.mem_of_getElem? (i := 65) rfl)) (hw _ (List.mem_of_getElem? (i := 67) rfl)) (hw _ (List.mem_of_getElem? (i := 66) rfl)) (hw _ (List.mem_of_getElem? (i := 38) rfl)) (hw _ (List.mem_of_getElem? (i := 68) rfl)) (by decide) (rm_sco l Z a0 hw [] dd (own_v (FP.ddiv (FP.l2d odd) (4638707616191610880 : UInt64))) Ti11.heap n0 Zi11 Fi11_dd_score) (rfl : Ti11.heap = Ti11.heap) dd Ei11_dd 0 (by decide) (by decide) (g := (mkF m 268 #[.val (.int p0), .val (.long p1), .second, .val (.int p2), .val (.int p3), .val (.int p4), .val (.ref cs), .val (.ref st), .val (.int (p0 &&& (3 : Int32))), .val (.double (FP.ddiv (FP.l2d odd) (4638707616191610880 : UInt64))), .second, .val (.double (FP.ddiv (FP.l2d (((odd * (15625 : Int64)) + (1 : Int64)) / (2 : Int64))) (4696837146684686336 : UInt64))), .second, .val (.ref dd), .unset, .val (.long (odd * (15625 : Int64))), .second, .unset, .unset, .unset, .unset] [(.ref dd)])) rfl (by rw [hml]; rfl) [] [] rfl (lenOf pd3 rfl) rfl (by show 2 * 0 + _ ≤ _; exact Nat.le_of_eq rfl) (hb hby at_268) (by decide) (by decide) ?_
      intro vi12 Ti12 Li12 hQi12 Xi12
      obtain ⟨rfl, Ni12, ei12⟩ := hQi12
      have Ni12 := Fr.app Ni11 Ni12
      show Go p e below s _ _ (Ti12.setTop (mkF m 271 #[.val (.int p0), .val (.long p1), .second, .val (.int p2), .val (.int p3), .val (.int p4), .val (.ref cs), .val (.ref st), .val (.int (p0 &&& (3 : Int32))), .val (.double (FP.ddiv (FP.l2d odd) (4638707616191610880 : UInt64))), .second, .val (.double (FP.ddiv (FP.l2d (((odd * (15625 : Int64)) + (1 : Int64)) / (2 : Int64))) (4696837146684686336 : UInt64))), .second, .val (.ref dd), .unset, .val (.long (odd * (15625 : Int64))), .second, .unset, .unset, .unset, .unset] [(.double (own_v (FP.ddiv (FP.l2d odd) (4638707616191610880 : UInt64))))]))
      refine Go.st (U := (Ti12.setTop (mkF m 273 #[.val (.int p0), .val (.long p1), .second, .val (.int p2), .val (.int p3), .val (.int p4), .val (.ref cs), .val (.ref st), .val (.int (p0 &&& (3 : Int32))), .val (.double (FP.ddiv (FP.l2d odd) (4638707616191610880 : UInt64))), .second, .val (.double (FP.ddiv (FP.l2d (((odd * (15625 : Int64)) + (1 : Int64)) / (2 : Int64))) (4696837146684686336 : UInt64))), .second, .val (.ref dd), .unset, .val (.long (odd * (15625 : Int64))), .second, .unset, .unset, .unset, .unset] [(.double (FP.ddiv (FP.l2d (((odd * (15625 : Int64)) + (1 : Int64)) / (2 : Int64))) (4696837146684686336 : UInt64))), (.double (own_v (FP.ddiv (FP.l2d odd) (4638707616191610880 : UInt64))))]))) (fun t_ k_ => XS.dload Xi12.here hx rfl (hb hby at_271) rfl k_) ?_
      refine Go.st (U := (Ti12.setTop (mkF m 274 #[.val (.int p0), .val (.long p1), .second, .val (.int p2), .val (.int p3), .val (.int p4), .val (.ref cs), .val (.ref st), .val (.int (p0 &&& (3 : Int32))), .val (.double (FP.ddiv (FP.l2d odd) (4638707616191610880 : UInt64))), .second, .val (.double (FP.ddiv (FP.l2d (((odd * (15625 : Int64)) + (1 : Int64)) / (2 : Int64))) (4696837146684686336 : UInt64))), .second, .val (.ref dd), .unset, .val (.long (odd * (15625 : Int64))), .second, .unset, .unset, .unset, .unset] [(.int (cmpValue (FP.dcmp (own_v (FP.ddiv (FP.l2d odd) (4638707616191610880 : UInt64))) (FP.ddiv (FP.l2d (((odd * (15625 : Int64)) + (1 : Int64)) / (2 : Int64))) (4696837146684686336 : UInt64))) .l))]))) (fun t_ k_ => XS.dcmpS Xi12.here hx rfl (hb hby at_273) rfl rfl k_) ?_
      refine Go.st (U := (Ti12.setTop (mkF m 277 #[.val (.int p0), .val (.long p1), .second, .val (.int p2), .val (.int p3), .val (.int p4), .val (.ref cs), .val (.ref st), .val (.int (p0 &&& (3 : Int32))), .val (.double (FP.ddiv (FP.l2d odd) (4638707616191610880 : UInt64))), .second, .val (.double (FP.ddiv (FP.l2d (((odd * (15625 : Int64)) + (1 : Int64)) / (2 : Int64))) (4696837146684686336 : UInt64))), .second, .val (.ref dd), .unset, .val (.long (odd * (15625 : Int64))), .second, .unset, .unset, .unset, .unset] []))) (fun t_ k_ => XS.ifNo Xi12.here hx rfl (hb hby at_274) rfl ((if0 _ _).trans (teq OK.2.2.2).2) k_) ?_
      refine Go.st (U := (Ti12.setTop (mkF m 279 #[.val (.int p0), .val (.long p1), .second, .val (.int p2), .val (.int p3), .val (.int p4), .val (.ref cs), .val (.ref st), .val (.int (p0 &&& (3 : Int32))), .val (.double (FP.ddiv (FP.l2d odd) (4638707616191610880 : UInt64))), .second, .val (.double (FP.ddiv (FP.l2d (((odd * (15625 : Int64)) + (1 : Int64)) / (2 : Int64))) (4696837146684686336 : UInt64))), .second, .val (.ref dd), .unset, .val (.long (odd * (15625 : Int64))), .second, .unset, .unset, .unset, .unset] [(.ref dd)]))) (fun t_ k_ => XS.aload Xi12.here hx rfl (hb hby at_277) rfl rfl k_) ?_
      refine Go.callV Xi12 hx hZ hown (hw _ (List.mem_of_getElem? (i := 69) rfl)) (hw _ (List.mem_of_getElem? (i := 70) rfl)) (hw _ (List.mem_of_getElem? (i := 72) rfl)) (hw _ (List.mem_of_getElem? (i := 71) rfl)) (hw _ (List.mem_of_getElem? (i := 38) rfl)) (hw _ (List.mem_of_getElem? (i := 73) rfl)) (by decide) (rm_num l Z a0 hw [] dd st Ti11.heap n0 Zi11 Fi11_dd_number) ei12 dd Ei11_dd 0 (by decide) (by decide) (g := (mkF m 279 #[.val (.int p0), .val (.long p1), .second, .val (.int p2), .val (.int p3), .val (.int p4), .val (.ref cs), .val (.ref st), .val (.int (p0 &&& (3 : Int32))), .val (.double (FP.ddiv (FP.l2d odd) (4638707616191610880 : UInt64))), .second, .val (.double (FP.ddiv (FP.l2d (((odd * (15625 : Int64)) + (1 : Int64)) / (2 : Int64))) (4696837146684686336 : UInt64))), .second, .val (.ref dd), .unset, .val (.long (odd * (15625 : Int64))), .second, .unset, .unset, .unset, .unset] [(.ref dd)])) rfl (by rw [hml]; rfl) [] [] rfl (lenOf pd4 rfl) rfl (by show 2 * 0 + _ ≤ _; exact Nat.le_of_eq rfl) (hb hby at_279) (by decide) (by decide) ?_
      intro vi13 Ti13 Li13 hQi13 Xi13
      obtain ⟨rfl, Ni13, ei13⟩ := hQi13
      have Ni13 := Fr.app Ni12 Ni13
      show Go p e below s _ _ (Ti13.setTop (mkF m 282 #[.val (.int p0), .val (.long p1), .second, .val (.int p2), .val (.int p3), .val (.int p4), .val (.ref cs), .val (.ref st), .val (.int (p0 &&& (3 : Int32))), .val (.double (FP.ddiv (FP.l2d odd) (4638707616191610880 : UInt64))), .second, .val (.double (FP.ddiv (FP.l2d (((odd * (15625 : Int64)) + (1 : Int64)) / (2 : Int64))) (4696837146684686336 : UInt64))), .second, .val (.ref dd), .unset, .val (.long (odd * (15625 : Int64))), .second, .unset, .unset, .unset, .unset] [(.ref st)]))
      refine Go.st (U := (Ti13.setTop (mkF m 284 #[.val (.int p0), .val (.long p1), .second, .val (.int p2), .val (.int p3), .val (.int p4), .val (.ref cs), .val (.ref st), .val (.int (p0 &&& (3 : Int32))), .val (.double (FP.ddiv (FP.l2d odd) (4638707616191610880 : UInt64))), .second, .val (.double (FP.ddiv (FP.l2d (((odd * (15625 : Int64)) + (1 : Int64)) / (2 : Int64))) (4696837146684686336 : UInt64))), .second, .val (.ref dd), .unset, .val (.long (odd * (15625 : Int64))), .second, .unset, .unset, .unset, .unset] [(.ref st), (.ref st)]))) (fun t_ k_ => XS.aload Xi13.here hx rfl (hb hby at_282) rfl rfl k_) ?_
      refine Go.callV Xi13 hx hZ hown (hw _ (List.mem_of_getElem? (i := 74) rfl)) (hw _ (List.mem_of_getElem? (i := 75) rfl)) (hw _ (List.mem_of_getElem? (i := 77) rfl)) (hw _ (List.mem_of_getElem? (i := 76) rfl)) (hw _ (List.mem_of_getElem? (i := 3) rfl)) (hw _ (List.mem_of_getElem? (i := 78) rfl)) (by decide) (rm_equ l Z a0 hw [] st Ti11.heap n0 Zi11 ) ei13 st Ei11_st 0 (by decide) (by decide) (g := (mkF m 284 #[.val (.int p0), .val (.long p1), .second, .val (.int p2), .val (.int p3), .val (.int p4), .val (.ref cs), .val (.ref st), .val (.int (p0 &&& (3 : Int32))), .val (.double (FP.ddiv (FP.l2d odd) (4638707616191610880 : UInt64))), .second, .val (.double (FP.ddiv (FP.l2d (((odd * (15625 : Int64)) + (1 : Int64)) / (2 : Int64))) (4696837146684686336 : UInt64))), .second, .val (.ref dd), .unset, .val (.long (odd * (15625 : Int64))), .second, .unset, .unset, .unset, .unset] [(.ref st), (.ref st)])) rfl (by rw [hml]; rfl) [(.ref st)] [] rfl (lenOf pd5 rfl) rfl (by show 2 * 0 + _ ≤ _; exact Nat.le_of_eq rfl) (hb hby at_284) (by decide) (by decide) ?_
      intro vi14 Ti14 Li14 hQi14 Xi14
      obtain ⟨rfl, Ni14, ei14⟩ := hQi14
      have Ni14 := Fr.app Ni13 Ni14
      show Go p e below s _ _ (Ti14.setTop (mkF m 287 #[.val (.int p0), .val (.long p1), .second, .val (.int p2), .val (.int p3), .val (.int p4), .val (.ref cs), .val (.ref st), .val (.int (p0 &&& (3 : Int32))), .val (.double (FP.ddiv (FP.l2d odd) (4638707616191610880 : UInt64))), .second, .val (.double (FP.ddiv (FP.l2d (((odd * (15625 : Int64)) + (1 : Int64)) / (2 : Int64))) (4696837146684686336 : UInt64))), .second, .val (.ref dd), .unset, .val (.long (odd * (15625 : Int64))), .second, .unset, .unset, .unset, .unset] [(.int 1)]))
      refine Go.st (U := (Ti14.setTop (mkF m 290 #[.val (.int p0), .val (.long p1), .second, .val (.int p2), .val (.int p3), .val (.int p4), .val (.ref cs), .val (.ref st), .val (.int (p0 &&& (3 : Int32))), .val (.double (FP.ddiv (FP.l2d odd) (4638707616191610880 : UInt64))), .second, .val (.double (FP.ddiv (FP.l2d (((odd * (15625 : Int64)) + (1 : Int64)) / (2 : Int64))) (4696837146684686336 : UInt64))), .second, .val (.ref dd), .unset, .val (.long (odd * (15625 : Int64))), .second, .unset, .unset, .unset, .unset] []))) (fun t_ k_ => XS.ifNo Xi14.here hx rfl (hb hby at_287) rfl ((if0 _ _).trans (feq (by decide)).1) k_) ?_
      refine Go.st (U := (Ti14.setTop (mkF m 291 #[.val (.int p0), .val (.long p1), .second, .val (.int p2), .val (.int p3), .val (.int p4), .val (.ref cs), .val (.ref st), .val (.int (p0 &&& (3 : Int32))), .val (.double (FP.ddiv (FP.l2d odd) (4638707616191610880 : UInt64))), .second, .val (.double (FP.ddiv (FP.l2d (((odd * (15625 : Int64)) + (1 : Int64)) / (2 : Int64))) (4696837146684686336 : UInt64))), .second, .val (.ref dd), .unset, .val (.long (odd * (15625 : Int64))), .second, .unset, .unset, .unset, .unset] [(.int (1 : Int32))]))) (fun t_ k_ => XS.iconst Xi14.here hx rfl (hb hby at_290) k_) ?_
      refine Go.st (U := (Ti14.setTop (mkF m 295 #[.val (.int p0), .val (.long p1), .second, .val (.int p2), .val (.int p3), .val (.int p4), .val (.ref cs), .val (.ref st), .val (.int (p0 &&& (3 : Int32))), .val (.double (FP.ddiv (FP.l2d odd) (4638707616191610880 : UInt64))), .second, .val (.double (FP.ddiv (FP.l2d (((odd * (15625 : Int64)) + (1 : Int64)) / (2 : Int64))) (4696837146684686336 : UInt64))), .second, .val (.ref dd), .unset, .val (.long (odd * (15625 : Int64))), .second, .unset, .unset, .unset, .unset] [(.int (1 : Int32))]))) (fun t_ k_ => XS.goto Xi14.here hx rfl (pc0 := 291) (pc' := 295) rfl (hb hby at_291) (by decide) (by decide) k_) ?_
      refine Go.retZ Xi14 hx hlk hret (hb hby at_295) (by decide) (by decide) ?_
      exact ⟨rfl, Ni14⟩
    · refine Go.st (U := (Ti6.setTop (mkF m 133 #[.val (.int p0), .val (.long p1), .second, .val (.int p2), .val (.int p3), .val (.int p4), .val (.ref cs), .val (.ref st), .val (.int (p0 &&& (3 : Int32))), .unset, .unset, .unset, .unset, .unset, .unset, .unset, .unset, .unset, .unset, .unset, .unset] []))) (fun t_ k_ => XS.icmpYes Xi6.here hx rfl (pc0 := 82) (pc' := 133) rfl (hb hby at_82) rfl (feq b82).2 (by decide) (by decide) k_) ?_
      refine Go.st (U := (Ti6.setTop (mkF m 134 #[.val (.int p0), .val (.long p1), .second, .val (.int p2), .val (.int p3), .val (.int p4), .val (.ref cs), .val (.ref st), .val (.int (p0 &&& (3 : Int32))), .unset, .unset, .unset, .unset, .unset, .unset, .unset, .unset, .unset, .unset, .unset, .unset] [(.long p1)]))) (fun t_ k_ => XS.lloadN Xi6.here hx rfl (hb hby at_133) rfl k_) ?_
      refine Go.st (U := (Ti6.setTop (mkF m 137 #[.val (.int p0), .val (.long p1), .second, .val (.int p2), .val (.int p3), .val (.int p4), .val (.ref cs), .val (.ref st), .val (.int (p0 &&& (3 : Int32))), .unset, .unset, .unset, .unset, .unset, .unset, .unset, .unset, .unset, .unset, .unset, .unset] [(.long (1099511627776 : Int64)), (.long p1)]))) (Xi6.ldc2Long hx hown (mvT hZ (hw _ (List.mem_of_getElem? (i := 30) rfl))) (g := (mkF m 134 #[.val (.int p0), .val (.long p1), .second, .val (.int p2), .val (.int p3), .val (.int p4), .val (.ref cs), .val (.ref st), .val (.int (p0 &&& (3 : Int32))), .unset, .unset, .unset, .unset, .unset, .unset, .unset, .unset, .unset, .unset, .unset, .unset] [(.long p1)])) rfl (hb hby at_134)) ?_
      refine Go.st (U := (Ti6.setTop (mkF m 138 #[.val (.int p0), .val (.long p1), .second, .val (.int p2), .val (.int p3), .val (.int p4), .val (.ref cs), .val (.ref st), .val (.int (p0 &&& (3 : Int32))), .unset, .unset, .unset, .unset, .unset, .unset, .unset, .unset, .unset, .unset, .unset, .unset] [(.long (p1 - p1 / (1099511627776 : Int64) * (1099511627776 : Int64)))]))) (fun t_ k_ => XS.lrem Xi6.here hx rfl (hb hby at_137) rfl (by decide) k_) ?_
      generalize q_mm : (p1 - p1 / (1099511627776 : Int64) * (1099511627776 : Int64)) = mm
      refine Go.st (U := (Ti6.setTop (mkF m 140 #[.val (.int p0), .val (.long p1), .second, .val (.int p2), .val (.int p3), .val (.int p4), .val (.ref cs), .val (.ref st), .val (.int (p0 &&& (3 : Int32))), .unset, .unset, .unset, .unset, .val (.long mm), .second, .unset, .unset, .unset, .unset, .unset, .unset] []))) (fun t_ k_ => XS.lstore Xi6.here hx rfl (hb hby at_138) rfl (l' := #[.val (.int p0), .val (.long p1), .second, .val (.int p2), .val (.int p3), .val (.int p4), .val (.ref cs), .val (.ref st), .val (.int (p0 &&& (3 : Int32))), .unset, .unset, .unset, .unset, .val (.long mm), .second, .unset, .unset, .unset, .unset, .unset, .unset]) rfl k_) ?_
      refine Go.st (U := (Ti6.setTop (mkF m 142 #[.val (.int p0), .val (.long p1), .second, .val (.int p2), .val (.int p3), .val (.int p4), .val (.ref cs), .val (.ref st), .val (.int (p0 &&& (3 : Int32))), .unset, .unset, .unset, .unset, .val (.long mm), .second, .unset, .unset, .unset, .unset, .unset, .unset] [(.long mm)]))) (fun t_ k_ => XS.lload Xi6.here hx rfl (hb hby at_140) rfl k_) ?_
      refine Go.st (U := (Ti6.setTop (mkF m 145 #[.val (.int p0), .val (.long p1), .second, .val (.int p2), .val (.int p3), .val (.int p4), .val (.ref cs), .val (.ref st), .val (.int (p0 &&& (3 : Int32))), .unset, .unset, .unset, .unset, .val (.long mm), .second, .unset, .unset, .unset, .unset, .unset, .unset] [(.long (10 : Int64)), (.long mm)]))) (Xi6.ldc2Long hx hown (mvT hZ (hw _ (List.mem_of_getElem? (i := 31) rfl))) (g := (mkF m 142 #[.val (.int p0), .val (.long p1), .second, .val (.int p2), .val (.int p3), .val (.int p4), .val (.ref cs), .val (.ref st), .val (.int (p0 &&& (3 : Int32))), .unset, .unset, .unset, .unset, .val (.long mm), .second, .unset, .unset, .unset, .unset, .unset, .unset] [(.long mm)])) rfl (hb hby at_142)) ?_
      refine Go.st (U := (Ti6.setTop (mkF m 146 #[.val (.int p0), .val (.long p1), .second, .val (.int p2), .val (.int p3), .val (.int p4), .val (.ref cs), .val (.ref st), .val (.int (p0 &&& (3 : Int32))), .unset, .unset, .unset, .unset, .val (.long mm), .second, .unset, .unset, .unset, .unset, .unset, .unset] [(.long (mm - mm / (10 : Int64) * (10 : Int64)))]))) (fun t_ k_ => XS.lrem Xi6.here hx rfl (hb hby at_145) rfl (by decide) k_) ?_
      generalize q_rem : (mm - mm / (10 : Int64) * (10 : Int64)) = rem
      refine Go.st (U := (Ti6.setTop (mkF m 148 #[.val (.int p0), .val (.long p1), .second, .val (.int p2), .val (.int p3), .val (.int p4), .val (.ref cs), .val (.ref st), .val (.int (p0 &&& (3 : Int32))), .unset, .unset, .unset, .unset, .val (.long mm), .second, .val (.long rem), .second, .unset, .unset, .unset, .unset] []))) (fun t_ k_ => XS.lstore Xi6.here hx rfl (hb hby at_146) rfl (l' := #[.val (.int p0), .val (.long p1), .second, .val (.int p2), .val (.int p3), .val (.int p4), .val (.ref cs), .val (.ref st), .val (.int (p0 &&& (3 : Int32))), .unset, .unset, .unset, .unset, .val (.long mm), .second, .val (.long rem), .second, .unset, .unset, .unset, .unset]) rfl k_) ?_
      have hm0 := own_m q_mm
      have J191 : ∀ (mv : Int64) (rv : Int64) (hH : own_H mv rv), Go p e below s room_1 (Q_law Z p0 p1 p2 p3 p4 G1 h0 n0) (Ti6.setTop (mkF m 191 #[.val (.int p0), .val (.long p1), .second, .val (.int p2), .val (.int p3), .val (.int p4), .val (.ref cs), .val (.ref st), .val (.int (p0 &&& (3 : Int32))), .unset, .unset, .unset, .unset, .val (.long mv), .second, .val (.long rv), .second, .unset, .unset, .unset, .unset] [])) := by
        intro mv rv hH
        refine Go.st (U := (Ti6.setTop (mkF m 193 #[.val (.int p0), .val (.long p1), .second, .val (.int p2), .val (.int p3), .val (.int p4), .val (.ref cs), .val (.ref st), .val (.int (p0 &&& (3 : Int32))), .unset, .unset, .unset, .unset, .val (.long mv), .second, .val (.long rv), .second, .unset, .unset, .unset, .unset] [(.long mv)]))) (fun t_ k_ => XS.lload Xi6.here hx rfl (hb hby at_191) rfl k_) ?_
        refine Go.st (U := (Ti6.setTop (mkF m 196 #[.val (.int p0), .val (.long p1), .second, .val (.int p2), .val (.int p3), .val (.int p4), .val (.ref cs), .val (.ref st), .val (.int (p0 &&& (3 : Int32))), .unset, .unset, .unset, .unset, .val (.long mv), .second, .val (.long rv), .second, .unset, .unset, .unset, .unset] [(.long (10 : Int64)), (.long mv)]))) (Xi6.ldc2Long hx hown (mvT hZ (hw _ (List.mem_of_getElem? (i := 31) rfl))) (g := (mkF m 193 #[.val (.int p0), .val (.long p1), .second, .val (.int p2), .val (.int p3), .val (.int p4), .val (.ref cs), .val (.ref st), .val (.int (p0 &&& (3 : Int32))), .unset, .unset, .unset, .unset, .val (.long mv), .second, .val (.long rv), .second, .unset, .unset, .unset, .unset] [(.long mv)])) rfl (hb hby at_193)) ?_
        refine Go.st (U := (Ti6.setTop (mkF m 197 #[.val (.int p0), .val (.long p1), .second, .val (.int p2), .val (.int p3), .val (.int p4), .val (.ref cs), .val (.ref st), .val (.int (p0 &&& (3 : Int32))), .unset, .unset, .unset, .unset, .val (.long mv), .second, .val (.long rv), .second, .unset, .unset, .unset, .unset] [(.long (mv / (10 : Int64)))]))) (fun t_ k_ => XS.ldiv Xi6.here hx rfl (hb hby at_196) rfl (by decide) k_) ?_
        generalize q_qq : (mv / (10 : Int64)) = qq
        refine Go.st (U := (Ti6.setTop (mkF m 199 #[.val (.int p0), .val (.long p1), .second, .val (.int p2), .val (.int p3), .val (.int p4), .val (.ref cs), .val (.ref st), .val (.int (p0 &&& (3 : Int32))), .unset, .unset, .unset, .unset, .val (.long mv), .second, .val (.long rv), .second, .val (.long qq), .second, .unset, .unset] []))) (fun t_ k_ => XS.lstore Xi6.here hx rfl (hb hby at_197) rfl (l' := #[.val (.int p0), .val (.long p1), .second, .val (.int p2), .val (.int p3), .val (.int p4), .val (.ref cs), .val (.ref st), .val (.int (p0 &&& (3 : Int32))), .unset, .unset, .unset, .unset, .val (.long mv), .second, .val (.long rv), .second, .val (.long qq), .second, .unset, .unset]) rfl k_) ?_
        obtain ⟨hq1, hq2, hq3⟩ := own_q hH q_qq
        have J239 : ∀ (rr : Int64) (hrr : own_R mv rr), Go p e below s room_1 (Q_law Z p0 p1 p2 p3 p4 G1 h0 n0) (Ti6.setTop (mkF m 239 #[.val (.int p0), .val (.long p1), .second, .val (.int p2), .val (.int p3), .val (.int p4), .val (.ref cs), .val (.ref st), .val (.int (p0 &&& (3 : Int32))), .unset, .unset, .unset, .unset, .val (.long mv), .second, .val (.long rv), .second, .val (.long qq), .second, .val (.long rr), .second] [])) := by
          intro rr hrr
          obtain ⟨nb1, nb2, OK⟩ := Jvm.OwnFl.own_A hH.1 hrr
          refine Go.st (U := (Ti6.setTop (mkF m 241 #[.val (.int p0), .val (.long p1), .second, .val (.int p2), .val (.int p3), .val (.int p4), .val (.ref cs), .val (.ref st), .val (.int (p0 &&& (3 : Int32))), .unset, .unset, .unset, .unset, .val (.long mv), .second, .val (.long rv), .second, .val (.long qq), .second, .val (.long rr), .second] [(.long mv)]))) (fun t_ k_ => XS.lload Xi6.here hx rfl (hb hby at_239) rfl k_) ?_
          refine Go.st (U := (Ti6.setTop (mkF m 242 #[.val (.int p0), .val (.long p1), .second, .val (.int p2), .val (.int p3), .val (.int p4), .val (.ref cs), .val (.ref st), .val (.int (p0 &&& (3 : Int32))), .unset, .unset, .unset, .unset, .val (.long mv), .second, .val (.long rv), .second, .val (.long qq), .second, .val (.long rr), .second] [(.double (FP.l2d mv))]))) (fun t_ k_ => XS.l2dS Xi6.here hx rfl (hb hby at_241) rfl rfl k_) ?_
          refine Go.st (U := (Ti6.setTop (mkF m 245 #[.val (.int p0), .val (.long p1), .second, .val (.int p2), .val (.int p3), .val (.int p4), .val (.ref cs), .val (.ref st), .val (.int (p0 &&& (3 : Int32))), .unset, .unset, .unset, .unset, .val (.long mv), .second, .val (.long rv), .second, .val (.long qq), .second, .val (.long rr), .second] [(.double (4711630319722168320 : UInt64)), (.double (FP.l2d mv))]))) (Xi6.ldc2DoubleC hx hown (mvT hZ (hw _ (List.mem_of_getElem? (i := 34) rfl))) (g := (mkF m 242 #[.val (.int p0), .val (.long p1), .second, .val (.int p2), .val (.int p3), .val (.int p4), .val (.ref cs), .val (.ref st), .val (.int (p0 &&& (3 : Int32))), .unset, .unset, .unset, .unset, .val (.long mv), .second, .val (.long rv), .second, .val (.long qq), .second, .val (.long rr), .second] [(.double (FP.l2d mv))])) rfl (hb hby at_242)) ?_
          refine Go.st (U := (Ti6.setTop (mkF m 246 #[.val (.int p0), .val (.long p1), .second, .val (.int p2), .val (.int p3), .val (.int p4), .val (.ref cs), .val (.ref st), .val (.int (p0 &&& (3 : Int32))), .unset, .unset, .unset, .unset, .val (.long mv), .second, .val (.long rv), .second, .val (.long qq), .second, .val (.long rr), .second] [(.double (FP.ddiv (FP.l2d mv) (4711630319722168320 : UInt64)))]))) (fun t_ k_ => XS.ddivS Xi6.here hx rfl (hb hby at_245) rfl nb1 rfl k_) ?_
          refine Go.st (U := (Ti6.setTop (mkF m 248 #[.val (.int p0), .val (.long p1), .second, .val (.int p2), .val (.int p3), .val (.int p4), .val (.ref cs), .val (.ref st), .val (.int (p0 &&& (3 : Int32))), .val (.double (FP.ddiv (FP.l2d mv) (4711630319722168320 : UInt64))), .second, .unset, .unset, .val (.long mv), .second, .val (.long rv), .second, .val (.long qq), .second, .val (.long rr), .second] []))) (fun t_ k_ => XS.dstore Xi6.here hx rfl (hb hby at_246) rfl (l' := #[.val (.int p0), .val (.long p1), .second, .val (.int p2), .val (.int p3), .val (.int p4), .val (.ref cs), .val (.ref st), .val (.int (p0 &&& (3 : Int32))), .val (.double (FP.ddiv (FP.l2d mv) (4711630319722168320 : UInt64))), .second, .unset, .unset, .val (.long mv), .second, .val (.long rv), .second, .val (.long qq), .second, .val (.long rr), .second]) rfl k_) ?_
          refine Go.st (U := (Ti6.setTop (mkF m 250 #[.val (.int p0), .val (.long p1), .second, .val (.int p2), .val (.int p3), .val (.int p4), .val (.ref cs), .val (.ref st), .val (.int (p0 &&& (3 : Int32))), .val (.double (FP.ddiv (FP.l2d mv) (4711630319722168320 : UInt64))), .second, .unset, .unset, .val (.long mv), .second, .val (.long rv), .second, .val (.long qq), .second, .val (.long rr), .second] [(.long rr)]))) (fun t_ k_ => XS.lload Xi6.here hx rfl (hb hby at_248) rfl k_) ?_
          refine Go.st (U := (Ti6.setTop (mkF m 251 #[.val (.int p0), .val (.long p1), .second, .val (.int p2), .val (.int p3), .val (.int p4), .val (.ref cs), .val (.ref st), .val (.int (p0 &&& (3 : Int32))), .val (.double (FP.ddiv (FP.l2d mv) (4711630319722168320 : UInt64))), .second, .unset, .unset, .val (.long mv), .second, .val (.long rv), .second, .val (.long qq), .second, .val (.long rr), .second] [(.double (FP.l2d rr))]))) (fun t_ k_ => XS.l2dS Xi6.here hx rfl (hb hby at_250) rfl rfl k_) ?_
          refine Go.st (U := (Ti6.setTop (mkF m 254 #[.val (.int p0), .val (.long p1), .second, .val (.int p2), .val (.int p3), .val (.int p4), .val (.ref cs), .val (.ref st), .val (.int (p0 &&& (3 : Int32))), .val (.double (FP.ddiv (FP.l2d mv) (4711630319722168320 : UInt64))), .second, .unset, .unset, .val (.long mv), .second, .val (.long rv), .second, .val (.long qq), .second, .val (.long rr), .second] [(.double (4696837146684686336 : UInt64)), (.double (FP.l2d rr))]))) (Xi6.ldc2DoubleC hx hown (mvT hZ (hw _ (List.mem_of_getElem? (i := 35) rfl))) (g := (mkF m 251 #[.val (.int p0), .val (.long p1), .second, .val (.int p2), .val (.int p3), .val (.int p4), .val (.ref cs), .val (.ref st), .val (.int (p0 &&& (3 : Int32))), .val (.double (FP.ddiv (FP.l2d mv) (4711630319722168320 : UInt64))), .second, .unset, .unset, .val (.long mv), .second, .val (.long rv), .second, .val (.long qq), .second, .val (.long rr), .second] [(.double (FP.l2d rr))])) rfl (hb hby at_251)) ?_
          refine Go.st (U := (Ti6.setTop (mkF m 255 #[.val (.int p0), .val (.long p1), .second, .val (.int p2), .val (.int p3), .val (.int p4), .val (.ref cs), .val (.ref st), .val (.int (p0 &&& (3 : Int32))), .val (.double (FP.ddiv (FP.l2d mv) (4711630319722168320 : UInt64))), .second, .unset, .unset, .val (.long mv), .second, .val (.long rv), .second, .val (.long qq), .second, .val (.long rr), .second] [(.double (FP.ddiv (FP.l2d rr) (4696837146684686336 : UInt64)))]))) (fun t_ k_ => XS.ddivS Xi6.here hx rfl (hb hby at_254) rfl nb2 rfl k_) ?_
          refine Go.st (U := (Ti6.setTop (mkF m 257 #[.val (.int p0), .val (.long p1), .second, .val (.int p2), .val (.int p3), .val (.int p4), .val (.ref cs), .val (.ref st), .val (.int (p0 &&& (3 : Int32))), .val (.double (FP.ddiv (FP.l2d mv) (4711630319722168320 : UInt64))), .second, .val (.double (FP.ddiv (FP.l2d rr) (4696837146684686336 : UInt64))), .second, .val (.long mv), .second, .val (.long rv), .second, .val (.long qq), .second, .val (.long rr), .second] []))) (fun t_ k_ => XS.dstore Xi6.here hx rfl (hb hby at_255) rfl (l' := #[.val (.int p0), .val (.long p1), .second, .val (.int p2), .val (.int p3), .val (.int p4), .val (.ref cs), .val (.ref st), .val (.int (p0 &&& (3 : Int32))), .val (.double (FP.ddiv (FP.l2d mv) (4711630319722168320 : UInt64))), .second, .val (.double (FP.ddiv (FP.l2d rr) (4696837146684686336 : UInt64))), .second, .val (.long mv), .second, .val (.long rv), .second, .val (.long qq), .second, .val (.long rr), .second]) rfl k_) ?_
          refine Go.st (U := (Ti6.setTop (mkF m 259 #[.val (.int p0), .val (.long p1), .second, .val (.int p2), .val (.int p3), .val (.int p4), .val (.ref cs), .val (.ref st), .val (.int (p0 &&& (3 : Int32))), .val (.double (FP.ddiv (FP.l2d mv) (4711630319722168320 : UInt64))), .second, .val (.double (FP.ddiv (FP.l2d rr) (4696837146684686336 : UInt64))), .second, .val (.long mv), .second, .val (.long rv), .second, .val (.long qq), .second, .val (.long rr), .second] [(.ref st)]))) (fun t_ k_ => XS.aload Xi6.here hx rfl (hb hby at_257) rfl rfl k_) ?_
          refine Go.st (U := (Ti6.setTop (mkF m 261 #[.val (.int p0), .val (.long p1), .second, .val (.int p2), .val (.int p3), .val (.int p4), .val (.ref cs), .val (.ref st), .val (.int (p0 &&& (3 : Int32))), .val (.double (FP.ddiv (FP.l2d mv) (4711630319722168320 : UInt64))), .second, .val (.double (FP.ddiv (FP.l2d rr) (4696837146684686336 : UInt64))), .second, .val (.long mv), .second, .val (.long rv), .second, .val (.long qq), .second, .val (.long rr), .second] [(.double (FP.ddiv (FP.l2d mv) (4711630319722168320 : UInt64))), (.ref st)]))) (fun t_ k_ => XS.dload Xi6.here hx rfl (hb hby at_259) rfl k_) ?_
          refine Go.callS Xi6 hx hZ hown (hw _ (List.mem_of_getElem? (i := 36) rfl)) (hw _ (List.mem_of_getElem? (i := 37) rfl)) (hw _ (List.mem_of_getElem? (i := 38) rfl)) (hw _ (List.mem_of_getElem? (i := 39) rfl)) (by decide) (rm_prt l Z a0 hw [] st (FP.ddiv (FP.l2d mv) (4711630319722168320 : UInt64)) Ti6.heap n0 Zi6 OK.1 OK.2.1 OK.2.2.1) (rfl : Ti6.heap = Ti6.heap) 0 (by decide) (by decide) (g := (mkF m 261 #[.val (.int p0), .val (.long p1), .second, .val (.int p2), .val (.int p3), .val (.int p4), .val (.ref cs), .val (.ref st), .val (.int (p0 &&& (3 : Int32))), .val (.double (FP.ddiv (FP.l2d mv) (4711630319722168320 : UInt64))), .second, .val (.double (FP.ddiv (FP.l2d rr) (4696837146684686336 : UInt64))), .second, .val (.long mv), .second, .val (.long rv), .second, .val (.long qq), .second, .val (.long rr), .second] [(.double (FP.ddiv (FP.l2d mv) (4711630319722168320 : UInt64))), (.ref st)])) rfl (by rw [hml]; rfl) [(.ref st), (.double (FP.ddiv (FP.l2d mv) (4711630319722168320 : UInt64)))] [] rfl (lenOf pd2 rfl) rfl (by show 2 * 0 + _ ≤ _; exact Nat.le_of_eq rfl) (hb hby at_261) (by decide) (by decide) ?_
          intro vi15 Ti15 Li15 hQi15 Xi15
          obtain ⟨dd, rfl, Ni15, Ki15, ge_dd, sz0_dd, Ei15_dd, Fi15_dd_number, Fi15_dd_score⟩ := hQi15
          have Ni15 := Fr.app Ni6 Ni15
          have Zi15 : n0 ≤ Ti15.heap.size := Nat.le_trans Zi6 Ki15.1
          have Oi15 := Old.keep Oi6 Ki15 all0
          have Ei15_st := Exa.keep Ei6_st Ki15
          have Ki15 := Keep.trans Ki6 Ki15 all0
          show Go p e below s _ _ (Ti15.setTop (mkF m 264 #[.val (.int p0), .val (.long p1), .second, .val (.int p2), .val (.int p3), .val (.int p4), .val (.ref cs), .val (.ref st), .val (.int (p0 &&& (3 : Int32))), .val (.double (FP.ddiv (FP.l2d mv) (4711630319722168320 : UInt64))), .second, .val (.double (FP.ddiv (FP.l2d rr) (4696837146684686336 : UInt64))), .second, .val (.long mv), .second, .val (.long rv), .second, .val (.long qq), .second, .val (.long rr), .second] [(.ref dd)]))
          refine Go.st (U := (Ti15.setTop (mkF m 266 #[.val (.int p0), .val (.long p1), .second, .val (.int p2), .val (.int p3), .val (.int p4), .val (.ref cs), .val (.ref st), .val (.int (p0 &&& (3 : Int32))), .val (.double (FP.ddiv (FP.l2d mv) (4711630319722168320 : UInt64))), .second, .val (.double (FP.ddiv (FP.l2d rr) (4696837146684686336 : UInt64))), .second, .val (.ref dd), .unset, .val (.long rv), .second, .val (.long qq), .second, .val (.long rr), .second] []))) (fun t_ k_ => XS.astore Xi15.here hx rfl (hb hby at_264) rfl rfl (l' := #[.val (.int p0), .val (.long p1), .second, .val (.int p2), .val (.int p3), .val (.int p4), .val (.ref cs), .val (.ref st), .val (.int (p0 &&& (3 : Int32))), .val (.double (FP.ddiv (FP.l2d mv) (4711630319722168320 : UInt64))), .second, .val (.double (FP.ddiv (FP.l2d rr) (4696837146684686336 : UInt64))), .second, .val (.ref dd), .unset, .val (.long rv), .second, .val (.long qq), .second, .val (.long rr), .second]) rfl k_) ?_
          refine Go.st (U := (Ti15.setTop (mkF m 268 #[.val (.int p0), .val (.long p1), .second, .val (.int p2), .val (.int p3), .val (.int p4), .val (.ref cs), .val (.ref st), .val (.int (p0 &&& (3 : Int32))), .val (.double (FP.ddiv (FP.l2d mv) (4711630319722168320 : UInt64))), .second, .val (.double (FP.ddiv (FP.l2d rr) (4696837146684686336 : UInt64))), .second, .val (.ref dd), .unset, .val (.long rv), .second, .val (.long qq), .second, .val (.long rr), .second] [(.ref dd)]))) (fun t_ k_ => XS.aload Xi15.here hx rfl (hb hby at_266) rfl rfl k_) ?_
          refine Go.callV Xi15 hx hZ hown (hw _ (List.mem_of_getElem? (i := 64) rfl)) (hw _ (List.mem_of_getElem? (i := 65) rfl)) (hw _ (List.mem_of_getElem? (i := 67) rfl)) (hw _ (List.mem_of_getElem? (i := 66) rfl)) (hw _ (List.mem_of_getElem? (i := 38) rfl)) (hw _ (List.mem_of_getElem? (i := 68) rfl)) (by decide) (rm_sco l Z a0 hw [] dd (own_v (FP.ddiv (FP.l2d mv) (4711630319722168320 : UInt64))) Ti15.heap n0 Zi15 Fi15_dd_score) (rfl : Ti15.heap = Ti15.heap) dd Ei15_dd 0 (by decide) (by decide) (g := (mkF m 268 #[.val (.int p0), .val (.long p1), .second, .val (.int p2), .val (.int p3), .val (.int p4), .val (.ref cs), .val (.ref st), .val (.int (p0 &&& (3 : Int32))), .val (.double (FP.ddiv (FP.l2d mv) (4711630319722168320 : UInt64))), .second, .val (.double (FP.ddiv (FP.l2d rr) (4696837146684686336 : UInt64))), .second, .val (.ref dd), .unset, .val (.long rv), .second, .val (.long qq), .second, .val (.long rr), .second] [(.ref dd)])) rfl (by rw [hml]; rfl) [] [] rfl (lenOf pd3 rfl) rfl (by show 2 * 0 + _ ≤ _; exact Nat.le_of_eq rfl) (hb hby at_268) (by decide) (by decide) ?_
          intro vi16 Ti16 Li16 hQi16 Xi16
          obtain ⟨rfl, Ni16, ei16⟩ := hQi16
          have Ni16 := Fr.app Ni15 Ni16
          show Go p e below s _ _ (Ti16.setTop (mkF m 271 #[.val (.int p0), .val (.long p1), .second, .val (.int p2), .val (.int p3), .val (.int p4), .val (.ref cs), .val (.ref st), .val (.int (p0 &&& (3 : Int32))), .val (.double (FP.ddiv (FP.l2d mv) (4711630319722168320 : UInt64))), .second, .val (.double (FP.ddiv (FP.l2d rr) (4696837146684686336 : UInt64))), .second, .val (.ref dd), .unset, .val (.long rv), .second, .val (.long qq), .second, .val (.long rr), .second] [(.double (own_v (FP.ddiv (FP.l2d mv) (4711630319722168320 : UInt64))))]))
          refine Go.st (U := (Ti16.setTop (mkF m 273 #[.val (.int p0), .val (.long p1), .second, .val (.int p2), .val (.int p3), .val (.int p4), .val (.ref cs), .val (.ref st), .val (.int (p0 &&& (3 : Int32))), .val (.double (FP.ddiv (FP.l2d mv) (4711630319722168320 : UInt64))), .second, .val (.double (FP.ddiv (FP.l2d rr) (4696837146684686336 : UInt64))), .second, .val (.ref dd), .unset, .val (.long rv), .second, .val (.long qq), .second, .val (.long rr), .second] [(.double (FP.ddiv (FP.l2d rr) (4696837146684686336 : UInt64))), (.double (own_v (FP.ddiv (FP.l2d mv) (4711630319722168320 : UInt64))))]))) (fun t_ k_ => XS.dload Xi16.here hx rfl (hb hby at_271) rfl k_) ?_
          refine Go.st (U := (Ti16.setTop (mkF m 274 #[.val (.int p0), .val (.long p1), .second, .val (.int p2), .val (.int p3), .val (.int p4), .val (.ref cs), .val (.ref st), .val (.int (p0 &&& (3 : Int32))), .val (.double (FP.ddiv (FP.l2d mv) (4711630319722168320 : UInt64))), .second, .val (.double (FP.ddiv (FP.l2d rr) (4696837146684686336 : UInt64))), .second, .val (.ref dd), .unset, .val (.long rv), .second, .val (.long qq), .second, .val (.long rr), .second] [(.int (cmpValue (FP.dcmp (own_v (FP.ddiv (FP.l2d mv) (4711630319722168320 : UInt64))) (FP.ddiv (FP.l2d rr) (4696837146684686336 : UInt64))) .l))]))) (fun t_ k_ => XS.dcmpS Xi16.here hx rfl (hb hby at_273) rfl rfl k_) ?_
          refine Go.st (U := (Ti16.setTop (mkF m 277 #[.val (.int p0), .val (.long p1), .second, .val (.int p2), .val (.int p3), .val (.int p4), .val (.ref cs), .val (.ref st), .val (.int (p0 &&& (3 : Int32))), .val (.double (FP.ddiv (FP.l2d mv) (4711630319722168320 : UInt64))), .second, .val (.double (FP.ddiv (FP.l2d rr) (4696837146684686336 : UInt64))), .second, .val (.ref dd), .unset, .val (.long rv), .second, .val (.long qq), .second, .val (.long rr), .second] []))) (fun t_ k_ => XS.ifNo Xi16.here hx rfl (hb hby at_274) rfl ((if0 _ _).trans (teq OK.2.2.2).2) k_) ?_
          refine Go.st (U := (Ti16.setTop (mkF m 279 #[.val (.int p0), .val (.long p1), .second, .val (.int p2), .val (.int p3), .val (.int p4), .val (.ref cs), .val (.ref st), .val (.int (p0 &&& (3 : Int32))), .val (.double (FP.ddiv (FP.l2d mv) (4711630319722168320 : UInt64))), .second, .val (.double (FP.ddiv (FP.l2d rr) (4696837146684686336 : UInt64))), .second, .val (.ref dd), .unset, .val (.long rv), .second, .val (.long qq), .second, .val (.long rr), .second] [(.ref dd)]))) (fun t_ k_ => XS.aload Xi16.here hx rfl (hb hby at_277) rfl rfl k_) ?_
          refine Go.callV Xi16 hx hZ hown (hw _ (List.mem_of_getElem? (i := 69) rfl)) (hw _ (List.mem_of_getElem? (i := 70) rfl)) (hw _ (List.mem_of_getElem? (i := 72) rfl)) (hw _ (List.mem_of_getElem? (i := 71) rfl)) (hw _ (List.mem_of_getElem? (i := 38) rfl)) (hw _ (List.mem_of_getElem? (i := 73) rfl)) (by decide) (rm_num l Z a0 hw [] dd st Ti15.heap n0 Zi15 Fi15_dd_number) ei16 dd Ei15_dd 0 (by decide) (by decide) (g := (mkF m 279 #[.val (.int p0), .val (.long p1), .second, .val (.int p2), .val (.int p3), .val (.int p4), .val (.ref cs), .val (.ref st), .val (.int (p0 &&& (3 : Int32))), .val (.double (FP.ddiv (FP.l2d mv) (4711630319722168320 : UInt64))), .second, .val (.double (FP.ddiv (FP.l2d rr) (4696837146684686336 : UInt64))), .second, .val (.ref dd), .unset, .val (.long rv), .second, .val (.long qq), .second, .val (.long rr), .second] [(.ref dd)])) rfl (by rw [hml]; rfl) [] [] rfl (lenOf pd4 rfl) rfl (by show 2 * 0 + _ ≤ _; exact Nat.le_of_eq rfl) (hb hby at_279) (by decide) (by decide) ?_
          intro vi17 Ti17 Li17 hQi17 Xi17
          obtain ⟨rfl, Ni17, ei17⟩ := hQi17
          have Ni17 := Fr.app Ni16 Ni17
          show Go p e below s _ _ (Ti17.setTop (mkF m 282 #[.val (.int p0), .val (.long p1), .second, .val (.int p2), .val (.int p3), .val (.int p4), .val (.ref cs), .val (.ref st), .val (.int (p0 &&& (3 : Int32))), .val (.double (FP.ddiv (FP.l2d mv) (4711630319722168320 : UInt64))), .second, .val (.double (FP.ddiv (FP.l2d rr) (4696837146684686336 : UInt64))), .second, .val (.ref dd), .unset, .val (.long rv), .second, .val (.long qq), .second, .val (.long rr), .second] [(.ref st)]))
          refine Go.st (U := (Ti17.setTop (mkF m 284 #[.val (.int p0), .val (.long p1), .second, .val (.int p2), .val (.int p3), .val (.int p4), .val (.ref cs), .val (.ref st), .val (.int (p0 &&& (3 : Int32))), .val (.double (FP.ddiv (FP.l2d mv) (4711630319722168320 : UInt64))), .second, .val (.double (FP.ddiv (FP.l2d rr) (4696837146684686336 : UInt64))), .second, .val (.ref dd), .unset, .val (.long rv), .second, .val (.long qq), .second, .val (.long rr), .second] [(.ref st), (.ref st)]))) (fun t_ k_ => XS.aload Xi17.here hx rfl (hb hby at_282) rfl rfl k_) ?_
          refine Go.callV Xi17 hx hZ hown (hw _ (List.mem_of_getElem? (i := 74) rfl)) (hw _ (List.mem_of_getElem? (i := 75) rfl)) (hw _ (List.mem_of_getElem? (i := 77) rfl)) (hw _ (List.mem_of_getElem? (i := 76) rfl)) (hw _ (List.mem_of_getElem? (i := 3) rfl)) (hw _ (List.mem_of_getElem? (i := 78) rfl)) (by decide) (rm_equ l Z a0 hw [] st Ti15.heap n0 Zi15 ) ei17 st Ei15_st 0 (by decide) (by decide) (g := (mkF m 284 #[.val (.int p0), .val (.long p1), .second, .val (.int p2), .val (.int p3), .val (.int p4), .val (.ref cs), .val (.ref st), .val (.int (p0 &&& (3 : Int32))), .val (.double (FP.ddiv (FP.l2d mv) (4711630319722168320 : UInt64))), .second, .val (.double (FP.ddiv (FP.l2d rr) (4696837146684686336 : UInt64))), .second, .val (.ref dd), .unset, .val (.long rv), .second, .val (.long qq), .second, .val (.long rr), .second] [(.ref st), (.ref st)])) rfl (by rw [hml]; rfl) [(.ref st)] [] rfl (lenOf pd5 rfl) rfl (by show 2 * 0 + _ ≤ _; exact Nat.le_of_eq rfl) (hb hby at_284) (by decide) (by decide) ?_
          intro vi18 Ti18 Li18 hQi18 Xi18
          obtain ⟨rfl, Ni18, ei18⟩ := hQi18
          have Ni18 := Fr.app Ni17 Ni18
          show Go p e below s _ _ (Ti18.setTop (mkF m 287 #[.val (.int p0), .val (.long p1), .second, .val (.int p2), .val (.int p3), .val (.int p4), .val (.ref cs), .val (.ref st), .val (.int (p0 &&& (3 : Int32))), .val (.double (FP.ddiv (FP.l2d mv) (4711630319722168320 : UInt64))), .second, .val (.double (FP.ddiv (FP.l2d rr) (4696837146684686336 : UInt64))), .second, .val (.ref dd), .unset, .val (.long rv), .second, .val (.long qq), .second, .val (.long rr), .second] [(.int 1)]))
          refine Go.st (U := (Ti18.setTop (mkF m 290 #[.val (.int p0), .val (.long p1), .second, .val (.int p2), .val (.int p3), .val (.int p4), .val (.ref cs), .val (.ref st), .val (.int (p0 &&& (3 : Int32))), .val (.double (FP.ddiv (FP.l2d mv) (4711630319722168320 : UInt64))), .second, .val (.double (FP.ddiv (FP.l2d rr) (4696837146684686336 : UInt64))), .second, .val (.ref dd), .unset, .val (.long rv), .second, .val (.long qq), .second, .val (.long rr), .second] []))) (fun t_ k_ => XS.ifNo Xi18.here hx rfl (hb hby at_287) rfl ((if0 _ _).trans (feq (by decide)).1) k_) ?_
          refine Go.st (U := (Ti18.setTop (mkF m 291 #[.val (.int p0), .val (.long p1), .second, .val (.int p2), .val (.int p3), .val (.int p4), .val (.ref cs), .val (.ref st), .val (.int (p0 &&& (3 : Int32))), .val (.double (FP.ddiv (FP.l2d mv) (4711630319722168320 : UInt64))), .second, .val (.double (FP.ddiv (FP.l2d rr) (4696837146684686336 : UInt64))), .second, .val (.ref dd), .unset, .val (.long rv), .second, .val (.long qq), .second, .val (.long rr), .second] [(.int (1 : Int32))]))) (fun t_ k_ => XS.iconst Xi18.here hx rfl (hb hby at_290) k_) ?_
          refine Go.st (U := (Ti18.setTop (mkF m 295 #[.val (.int p0), .val (.long p1), .second, .val (.int p2), .val (.int p3), .val (.int p4), .val (.ref cs), .val (.ref st), .val (.int (p0 &&& (3 : Int32))), .val (.double (FP.ddiv (FP.l2d mv) (4711630319722168320 : UInt64))), .second, .val (.double (FP.ddiv (FP.l2d rr) (4696837146684686336 : UInt64))), .second, .val (.ref dd), .unset, .val (.long rv), .second, .val (.long qq), .second, .val (.long rr), .second] [(.int (1 : Int32))]))) (fun t_ k_ => XS.goto Xi18.here hx rfl (pc0 := 291) (pc' := 295) rfl (hb hby at_291) (by decide) (by decide) k_) ?_
          refine Go.retZ Xi18 hx hlk hret (hb hby at_295) (by decide) (by decide) ?_
          exact ⟨rfl, Ni18⟩
        refine Go.st (U := (Ti6.setTop (mkF m 201 #[.val (.int p0), .val (.long p1), .second, .val (.int p2), .val (.int p3), .val (.int p4), .val (.ref cs), .val (.ref st), .val (.int (p0 &&& (3 : Int32))), .unset, .unset, .unset, .unset, .val (.long mv), .second, .val (.long rv), .second, .val (.long qq), .second, .unset, .unset] [(.long rv)]))) (fun t_ k_ => XS.lload Xi6.here hx rfl (hb hby at_199) rfl k_) ?_
        refine Go.st (U := (Ti6.setTop (mkF m 204 #[.val (.int p0), .val (.long p1), .second, .val (.int p2), .val (.int p3), .val (.int p4), .val (.ref cs), .val (.ref st), .val (.int (p0 &&& (3 : Int32))), .unset, .unset, .unset, .unset, .val (.long mv), .second, .val (.long rv), .second, .val (.long qq), .second, .unset, .unset] [(.long (5 : Int64)), (.long rv)]))) (Xi6.ldc2Long hx hown (mvT hZ (hw _ (List.mem_of_getElem? (i := 32) rfl))) (g := (mkF m 201 #[.val (.int p0), .val (.long p1), .second, .val (.int p2), .val (.int p3), .val (.int p4), .val (.ref cs), .val (.ref st), .val (.int (p0 &&& (3 : Int32))), .unset, .unset, .unset, .unset, .val (.long mv), .second, .val (.long rv), .second, .val (.long qq), .second, .unset, .unset] [(.long rv)])) rfl (hb hby at_201)) ?_
        refine Go.st (U := (Ti6.setTop (mkF m 205 #[.val (.int p0), .val (.long p1), .second, .val (.int p2), .val (.int p3), .val (.int p4), .val (.ref cs), .val (.ref st), .val (.int (p0 &&& (3 : Int32))), .unset, .unset, .unset, .unset, .val (.long mv), .second, .val (.long rv), .second, .val (.long qq), .second, .unset, .unset] [(.int (lcmpW rv (5 : Int64)))]))) (fun t_ k_ => XS.lcmp Xi6.here hx rfl (hb hby at_204) rfl k_) ?_
        by_cases b205 : (0 : Int32) < (lcmpW rv (5 : Int64))
        · refine Go.st (U := (Ti6.setTop (mkF m 208 #[.val (.int p0), .val (.long p1), .second, .val (.int p2), .val (.int p3), .val (.int p4), .val (.ref cs), .val (.ref st), .val (.int (p0 &&& (3 : Int32))), .unset, .unset, .unset, .unset, .val (.long mv), .second, .val (.long rv), .second, .val (.long qq), .second, .unset, .unset] []))) (fun t_ k_ => XS.ifNo Xi6.here hx rfl (hb hby at_205) rfl ((if0 _ _).trans (tlt b205).2.2.2) k_) ?_
          refine Go.st (U := (Ti6.setTop (mkF m 210 #[.val (.int p0), .val (.long p1), .second, .val (.int p2), .val (.int p3), .val (.int p4), .val (.ref cs), .val (.ref st), .val (.int (p0 &&& (3 : Int32))), .unset, .unset, .unset, .unset, .val (.long mv), .second, .val (.long rv), .second, .val (.long qq), .second, .unset, .unset] [(.long qq)]))) (fun t_ k_ => XS.lload Xi6.here hx rfl (hb hby at_208) rfl k_) ?_
          refine Go.st (U := (Ti6.setTop (mkF m 211 #[.val (.int p0), .val (.long p1), .second, .val (.int p2), .val (.int p3), .val (.int p4), .val (.ref cs), .val (.ref st), .val (.int (p0 &&& (3 : Int32))), .unset, .unset, .unset, .unset, .val (.long mv), .second, .val (.long rv), .second, .val (.long qq), .second, .unset, .unset] [(.long (1 : Int64)), (.long qq)]))) (fun t_ k_ => XS.lconst Xi6.here hx rfl (hb hby at_210) k_) ?_
          refine Go.st (U := (Ti6.setTop (mkF m 212 #[.val (.int p0), .val (.long p1), .second, .val (.int p2), .val (.int p3), .val (.int p4), .val (.ref cs), .val (.ref st), .val (.int (p0 &&& (3 : Int32))), .unset, .unset, .unset, .unset, .val (.long mv), .second, .val (.long rv), .second, .val (.long qq), .second, .unset, .unset] [(.long (qq + (1 : Int64)))]))) (fun t_ k_ => XS.ladd Xi6.here hx rfl (hb hby at_211) rfl k_) ?_
          refine Go.st (U := (Ti6.setTop (mkF m 214 #[.val (.int p0), .val (.long p1), .second, .val (.int p2), .val (.int p3), .val (.int p4), .val (.ref cs), .val (.ref st), .val (.int (p0 &&& (3 : Int32))), .unset, .unset, .unset, .unset, .val (.long mv), .second, .val (.long rv), .second, .val (.long qq), .second, .val (.long (qq + (1 : Int64))), .second] []))) (fun t_ k_ => XS.lstore Xi6.here hx rfl (hb hby at_212) rfl (l' := #[.val (.int p0), .val (.long p1), .second, .val (.int p2), .val (.int p3), .val (.int p4), .val (.ref cs), .val (.ref st), .val (.int (p0 &&& (3 : Int32))), .unset, .unset, .unset, .unset, .val (.long mv), .second, .val (.long rv), .second, .val (.long qq), .second, .val (.long (qq + (1 : Int64))), .second]) rfl k_) ?_
          refine Go.st (U := (Ti6.setTop (mkF m 239 #[.val (.int p0), .val (.long p1), .second, .val (.int p2), .val (.int p3), .val (.int p4), .val (.ref cs), .val (.ref st), .val (.int (p0 &&& (3 : Int32))), .unset, .unset, .unset, .unset, .val (.long mv), .second, .val (.long rv), .second, .val (.long qq), .second, .val (.long (qq + (1 : Int64))), .second] []))) (fun t_ k_ => XS.goto Xi6.here hx rfl (pc0 := 214) (pc' := 239) rfl (hb hby at_214) (by decide) (by decide) k_) ?_
          exact J239 (qq + (1 : Int64)) (hq1 b205)
        · refine Go.st (U := (Ti6.setTop (mkF m 217 #[.val (.int p0), .val (.long p1), .second, .val (.int p2), .val (.int p3), .val (.int p4), .val (.ref cs), .val (.ref st), .val (.int (p0 &&& (3 : Int32))), .unset, .unset, .unset, .unset, .val (.long mv), .second, .val (.long rv), .second, .val (.long qq), .second, .unset, .unset] []))) (fun t_ k_ => XS.ifYes Xi6.here hx rfl (pc0 := 205) (pc' := 217) rfl (hb hby at_205) rfl ((if0 _ _).trans (flt b205).2.2.2) (by decide) (by decide) k_) ?_
          refine Go.st (U := (Ti6.setTop (mkF m 219 #[.val (.int p0), .val (.long p1), .second, .val (.int p2), .val (.int p3), .val (.int p4), .val (.ref cs), .val (.ref st), .val (.int (p0 &&& (3 : Int32))), .unset, .unset, .unset, .unset, .val (.long mv), .second, .val (.long rv), .second, .val (.long qq), .second, .unset, .unset] [(.long rv)]))) (fun t_ k_ => XS.lload Xi6.here hx rfl (hb hby at_217) rfl k_) ?_
          refine Go.st (U := (Ti6.setTop (mkF m 222 #[.val (.int p0), .val (.long p1), .second, .val (.int p2), .val (.int p3), .val (.int p4), .val (.ref cs), .val (.ref st), .val (.int (p0 &&& (3 : Int32))), .unset, .unset, .unset, .unset, .val (.long mv), .second, .val (.long rv), .second, .val (.long qq), .second, .unset, .unset] [(.long (-5 : Int64)), (.long rv)]))) (Xi6.ldc2Long hx hown (mvT hZ (hw _ (List.mem_of_getElem? (i := 33) rfl))) (g := (mkF m 219 #[.val (.int p0), .val (.long p1), .second, .val (.int p2), .val (.int p3), .val (.int p4), .val (.ref cs), .val (.ref st), .val (.int (p0 &&& (3 : Int32))), .unset, .unset, .unset, .unset, .val (.long mv), .second, .val (.long rv), .second, .val (.long qq), .second, .unset, .unset] [(.long rv)])) rfl (hb hby at_219)) ?_
          refine Go.st (U := (Ti6.setTop (mkF m 223 #[.val (.int p0), .val (.long p1), .second, .val (.int p2), .val (.int p3), .val (.int p4), .val (.ref cs), .val (.ref st), .val (.int (p0 &&& (3 : Int32))), .unset, .unset, .unset, .unset, .val (.long mv), .second, .val (.long rv), .second, .val (.long qq), .second, .unset, .unset] [(.int (lcmpW rv (-5 : Int64)))]))) (fun t_ k_ => XS.lcmp Xi6.here hx rfl (hb hby at_222) rfl k_) ?_
          by_cases b223 : (lcmpW rv (-5 : Int64)) < (0 : Int32)
          · refine Go.st (U := (Ti6.setTop (mkF m 226 #[.val (.int p0), .val (.long p1), .second, .val (.int p2), .val (.int p3), .val (.int p4), .val (.ref cs), .val (.ref st), .val (.int (p0 &&& (3 : Int32))), .unset, .unset, .unset, .unset, .val (.long mv), .second, .val (.long rv), .second, .val (.long qq), .second, .unset, .unset] []))) (fun t_ k_ => XS.ifNo Xi6.here hx rfl (hb hby at_223) rfl ((if0 _ _).trans (tlt b223).2.1) k_) ?_
            refine Go.st (U := (Ti6.setTop (mkF m 228 #[.val (.int p0), .val (.long p1), .second, .val (.int p2), .val (.int p3), .val (.int p4), .val (.ref cs), .val (.ref st), .val (.int (p0 &&& (3 : Int32))), .unset, .unset, .unset, .unset, .val (.long mv), .second, .val (.long rv), .second, .val (.long qq), .second, .unset, .unset] [(.long qq)]))) (fun t_ k_ => XS.lload Xi6.here hx rfl (hb hby at_226) rfl k_) ?_
            refine Go.st (U := (Ti6.setTop (mkF m 229 #[.val (.int p0), .val (.long p1), .second, .val (.int p2), .val (.int p3), .val (.int p4), .val (.ref cs), .val (.ref st), .val (.int (p0 &&& (3 : Int32))), .unset, .unset, .unset, .unset, .val (.long mv), .second, .val (.long rv), .second, .val (.long qq), .second, .unset, .unset] [(.long (1 : Int64)), (.long qq)]))) (fun t_ k_ => XS.lconst Xi6.here hx rfl (hb hby at_228) k_) ?_
            refine Go.st (U := (Ti6.setTop (mkF m 230 #[.val (.int p0), .val (.long p1), .second, .val (.int p2), .val (.int p3), .val (.int p4), .val (.ref cs), .val (.ref st), .val (.int (p0 &&& (3 : Int32))), .unset, .unset, .unset, .unset, .val (.long mv), .second, .val (.long rv), .second, .val (.long qq), .second, .unset, .unset] [(.long (qq - (1 : Int64)))]))) (fun t_ k_ => XS.lsub Xi6.here hx rfl (hb hby at_229) rfl k_) ?_
            refine Go.st (U := (Ti6.setTop (mkF m 232 #[.val (.int p0), .val (.long p1), .second, .val (.int p2), .val (.int p3), .val (.int p4), .val (.ref cs), .val (.ref st), .val (.int (p0 &&& (3 : Int32))), .unset, .unset, .unset, .unset, .val (.long mv), .second, .val (.long rv), .second, .val (.long qq), .second, .val (.long (qq - (1 : Int64))), .second] []))) (fun t_ k_ => XS.lstore Xi6.here hx rfl (hb hby at_230) rfl (l' := #[.val (.int p0), .val (.long p1), .second, .val (.int p2), .val (.int p3), .val (.int p4), .val (.ref cs), .val (.ref st), .val (.int (p0 &&& (3 : Int32))), .unset, .unset, .unset, .unset, .val (.long mv), .second, .val (.long rv), .second, .val (.long qq), .second, .val (.long (qq - (1 : Int64))), .second]) rfl k_) ?_
            refine Go.st (U := (Ti6.setTop (mkF m 239 #[.val (.int p0), .val (.long p1), .second, .val (.int p2), .val (.int p3), .val (.int p4), .val (.ref cs), .val (.ref st), .val (.int (p0 &&& (3 : Int32))), .unset, .unset, .unset, .unset, .val (.long mv), .second, .val (.long rv), .second, .val (.long qq), .second, .val (.long (qq - (1 : Int64))), .second] []))) (fun t_ k_ => XS.goto Xi6.here hx rfl (pc0 := 232) (pc' := 239) rfl (hb hby at_232) (by decide) (by decide) k_) ?_
            exact J239 (qq - (1 : Int64)) (hq2 b205 b223)
          · refine Go.st (U := (Ti6.setTop (mkF m 235 #[.val (.int p0), .val (.long p1), .second, .val (.int p2), .val (.int p3), .val (.int p4), .val (.ref cs), .val (.ref st), .val (.int (p0 &&& (3 : Int32))), .unset, .unset, .unset, .unset, .val (.long mv), .second, .val (.long rv), .second, .val (.long qq), .second, .unset, .unset] []))) (fun t_ k_ => XS.ifYes Xi6.here hx rfl (pc0 := 223) (pc' := 235) rfl (hb hby at_223) rfl ((if0 _ _).trans (flt b223).2.1) (by decide) (by decide) k_) ?_
            refine Go.st (U := (Ti6.setTop (mkF m 237 #[.val (.int p0), .val (.long p1), .second, .val (.int p2), .val (.int p3), .val (.int p4), .val (.ref cs), .val (.ref st), .val (.int (p0 &&& (3 : Int32))), .unset, .unset, .unset, .unset, .val (.long mv), .second, .val (.long rv), .second, .val (.long qq), .second, .unset, .unset] [(.long qq)]))) (fun t_ k_ => XS.lload Xi6.here hx rfl (hb hby at_235) rfl k_) ?_
            refine Go.st (U := (Ti6.setTop (mkF m 239 #[.val (.int p0), .val (.long p1), .second, .val (.int p2), .val (.int p3), .val (.int p4), .val (.ref cs), .val (.ref st), .val (.int (p0 &&& (3 : Int32))), .unset, .unset, .unset, .unset, .val (.long mv), .second, .val (.long rv), .second, .val (.long qq), .second, .val (.long qq), .second] []))) (fun t_ k_ => XS.lstore Xi6.here hx rfl (hb hby at_237) rfl (l' := #[.val (.int p0), .val (.long p1), .second, .val (.int p2), .val (.int p3), .val (.int p4), .val (.ref cs), .val (.ref st), .val (.int (p0 &&& (3 : Int32))), .unset, .unset, .unset, .unset, .val (.long mv), .second, .val (.long rv), .second, .val (.long qq), .second, .val (.long qq), .second]) rfl k_) ?_
            exact J239 qq (hq3 b205 b223)
      refine Go.st (U := (Ti6.setTop (mkF m 150 #[.val (.int p0), .val (.long p1), .second, .val (.int p2), .val (.int p3), .val (.int p4), .val (.ref cs), .val (.ref st), .val (.int (p0 &&& (3 : Int32))), .unset, .unset, .unset, .unset, .val (.long mm), .second, .val (.long rem), .second, .unset, .unset, .unset, .unset] [(.long rem)]))) (fun t_ k_ => XS.lload Xi6.here hx rfl (hb hby at_148) rfl k_) ?_
      refine Go.st (U := (Ti6.setTop (mkF m 153 #[.val (.int p0), .val (.long p1), .second, .val (.int p2), .val (.int p3), .val (.int p4), .val (.ref cs), .val (.ref st), .val (.int (p0 &&& (3 : Int32))), .unset, .unset, .unset, .unset, .val (.long mm), .second, .val (.long rem), .second, .unset, .unset, .unset, .unset] [(.long (5 : Int64)), (.long rem)]))) (Xi6.ldc2Long hx hown (mvT hZ (hw _ (List.mem_of_getElem? (i := 32) rfl))) (g := (mkF m 150 #[.val (.int p0), .val (.long p1), .second, .val (.int p2), .val (.int p3), .val (.int p4), .val (.ref cs), .val (.ref st), .val (.int (p0 &&& (3 : Int32))), .unset, .unset, .unset, .unset, .val (.long mm), .second, .val (.long rem), .second, .unset, .unset, .unset, .unset] [(.long rem)])) rfl (hb hby at_150)) ?_
      refine Go.st (U := (Ti6.setTop (mkF m 154 #[.val (.int p0), .val (.long p1), .second, .val (.int p2), .val (.int p3), .val (.int p4), .val (.ref cs), .val (.ref st), .val (.int (p0 &&& (3 : Int32))), .unset, .unset, .unset, .unset, .val (.long mm), .second, .val (.long rem), .second, .unset, .unset, .unset, .unset] [(.int (lcmpW rem (5 : Int64)))]))) (fun t_ k_ => XS.lcmp Xi6.here hx rfl (hb hby at_153) rfl k_) ?_
      by_cases b154 : (lcmpW rem (5 : Int64)) = (0 : Int32)
      · refine Go.st (U := (Ti6.setTop (mkF m 157 #[.val (.int p0), .val (.long p1), .second, .val (.int p2), .val (.int p3), .val (.int p4), .val (.ref cs), .val (.ref st), .val (.int (p0 &&& (3 : Int32))), .unset, .unset, .unset, .unset, .val (.long mm), .second, .val (.long rem), .second, .unset, .unset, .unset, .unset] []))) (fun t_ k_ => XS.ifNo Xi6.here hx rfl (hb hby at_154) rfl ((if0 _ _).trans (teq b154).2) k_) ?_
        refine Go.st (U := (Ti6.setTop (mkF m 159 #[.val (.int p0), .val (.long p1), .second, .val (.int p2), .val (.int p3), .val (.int p4), .val (.ref cs), .val (.ref st), .val (.int (p0 &&& (3 : Int32))), .unset, .unset, .unset, .unset, .val (.long mm), .second, .val (.long rem), .second, .unset, .unset, .unset, .unset] [(.long mm)]))) (fun t_ k_ => XS.lload Xi6.here hx rfl (hb hby at_157) rfl k_) ?_
        refine Go.st (U := (Ti6.setTop (mkF m 160 #[.val (.int p0), .val (.long p1), .second, .val (.int p2), .val (.int p3), .val (.int p4), .val (.ref cs), .val (.ref st), .val (.int (p0 &&& (3 : Int32))), .unset, .unset, .unset, .unset, .val (.long mm), .second, .val (.long rem), .second, .unset, .unset, .unset, .unset] [(.long (1 : Int64)), (.long mm)]))) (fun t_ k_ => XS.lconst Xi6.here hx rfl (hb hby at_159) k_) ?_
        refine Go.st (U := (Ti6.setTop (mkF m 161 #[.val (.int p0), .val (.long p1), .second, .val (.int p2), .val (.int p3), .val (.int p4), .val (.ref cs), .val (.ref st), .val (.int (p0 &&& (3 : Int32))), .unset, .unset, .unset, .unset, .val (.long mm), .second, .val (.long rem), .second, .unset, .unset, .unset, .unset] [(.long (mm - (1 : Int64)))]))) (fun t_ k_ => XS.lsub Xi6.here hx rfl (hb hby at_160) rfl k_) ?_
        refine Go.st (U := (Ti6.setTop (mkF m 163 #[.val (.int p0), .val (.long p1), .second, .val (.int p2), .val (.int p3), .val (.int p4), .val (.ref cs), .val (.ref st), .val (.int (p0 &&& (3 : Int32))), .unset, .unset, .unset, .unset, .val (.long (mm - (1 : Int64))), .second, .val (.long rem), .second, .unset, .unset, .unset, .unset] []))) (fun t_ k_ => XS.lstore Xi6.here hx rfl (hb hby at_161) rfl (l' := #[.val (.int p0), .val (.long p1), .second, .val (.int p2), .val (.int p3), .val (.int p4), .val (.ref cs), .val (.ref st), .val (.int (p0 &&& (3 : Int32))), .unset, .unset, .unset, .unset, .val (.long (mm - (1 : Int64))), .second, .val (.long rem), .second, .unset, .unset, .unset, .unset]) rfl k_) ?_
        refine Go.st (U := (Ti6.setTop (mkF m 166 #[.val (.int p0), .val (.long p1), .second, .val (.int p2), .val (.int p3), .val (.int p4), .val (.ref cs), .val (.ref st), .val (.int (p0 &&& (3 : Int32))), .unset, .unset, .unset, .unset, .val (.long (mm - (1 : Int64))), .second, .val (.long rem), .second, .unset, .unset, .unset, .unset] [(.long (4 : Int64))]))) (Xi6.ldc2Long hx hown (mvT hZ (hw _ (List.mem_of_getElem? (i := 79) rfl))) (g := (mkF m 163 #[.val (.int p0), .val (.long p1), .second, .val (.int p2), .val (.int p3), .val (.int p4), .val (.ref cs), .val (.ref st), .val (.int (p0 &&& (3 : Int32))), .unset, .unset, .unset, .unset, .val (.long (mm - (1 : Int64))), .second, .val (.long rem), .second, .unset, .unset, .unset, .unset] [])) rfl (hb hby at_163)) ?_
        refine Go.st (U := (Ti6.setTop (mkF m 168 #[.val (.int p0), .val (.long p1), .second, .val (.int p2), .val (.int p3), .val (.int p4), .val (.ref cs), .val (.ref st), .val (.int (p0 &&& (3 : Int32))), .unset, .unset, .unset, .unset, .val (.long (mm - (1 : Int64))), .second, .val (.long (4 : Int64)), .second, .unset, .unset, .unset, .unset] []))) (fun t_ k_ => XS.lstore Xi6.here hx rfl (hb hby at_166) rfl (l' := #[.val (.int p0), .val (.long p1), .second, .val (.int p2), .val (.int p3), .val (.int p4), .val (.ref cs), .val (.ref st), .val (.int (p0 &&& (3 : Int32))), .unset, .unset, .unset, .unset, .val (.long (mm - (1 : Int64))), .second, .val (.long (4 : Int64)), .second, .unset, .unset, .unset, .unset]) rfl k_) ?_
        refine Go.st (U := (Ti6.setTop (mkF m 191 #[.val (.int p0), .val (.long p1), .second, .val (.int p2), .val (.int p3), .val (.int p4), .val (.ref cs), .val (.ref st), .val (.int (p0 &&& (3 : Int32))), .unset, .unset, .unset, .unset, .val (.long (mm - (1 : Int64))), .second, .val (.long (4 : Int64)), .second, .unset, .unset, .unset, .unset] []))) (fun t_ k_ => XS.goto Xi6.here hx rfl (pc0 := 168) (pc' := 191) rfl (hb hby at_168) (by decide) (by decide) k_) ?_
        exact J191 (mm - (1 : Int64)) (4 : Int64) (own_H1 hm0 q_rem b154)
      · refine Go.st (U := (Ti6.setTop (mkF m 171 #[.val (.int p0), .val (.long p1), .second, .val (.int p2), .val (.int p3), .val (.int p4), .val (.ref cs), .val (.ref st), .val (.int (p0 &&& (3 : Int32))), .unset, .unset, .unset, .unset, .val (.long mm), .second, .val (.long rem), .second, .unset, .unset, .unset, .unset] []))) (fun t_ k_ => XS.ifYes Xi6.here hx rfl (pc0 := 154) (pc' := 171) rfl (hb hby at_154) rfl ((if0 _ _).trans (feq b154).2) (by decide) (by decide) k_) ?_
        refine Go.st (U := (Ti6.setTop (mkF m 173 #[.val (.int p0), .val (.long p1), .second, .val (.int p2), .val (.int p3), .val (.int p4), .val (.ref cs), .val (.ref st), .val (.int (p0 &&& (3 : Int32))), .unset, .unset, .unset, .unset, .val (.long mm), .second, .val (.long rem), .second, .unset, .unset, .unset, .unset] [(.long rem)]))) (fun t_ k_ => XS.lload Xi6.here hx rfl (hb hby at_171) rfl k_) ?_
        refine Go.st (U := (Ti6.setTop (mkF m 176 #[.val (.int p0), .val (.long p1), .second, .val (.int p2), .val (.int p3), .val (.int p4), .val (.ref cs), .val (.ref st), .val (.int (p0 &&& (3 : Int32))), .unset, .unset, .unset, .unset, .val (.long mm), .second, .val (.long rem), .second, .unset, .unset, .unset, .unset] [(.long (-5 : Int64)), (.long rem)]))) (Xi6.ldc2Long hx hown (mvT hZ (hw _ (List.mem_of_getElem? (i := 33) rfl))) (g := (mkF m 173 #[.val (.int p0), .val (.long p1), .second, .val (.int p2), .val (.int p3), .val (.int p4), .val (.ref cs), .val (.ref st), .val (.int (p0 &&& (3 : Int32))), .unset, .unset, .unset, .unset, .val (.long mm), .second, .val (.long rem), .second, .unset, .unset, .unset, .unset] [(.long rem)])) rfl (hb hby at_173)) ?_
        refine Go.st (U := (Ti6.setTop (mkF m 177 #[.val (.int p0), .val (.long p1), .second, .val (.int p2), .val (.int p3), .val (.int p4), .val (.ref cs), .val (.ref st), .val (.int (p0 &&& (3 : Int32))), .unset, .unset, .unset, .unset, .val (.long mm), .second, .val (.long rem), .second, .unset, .unset, .unset, .unset] [(.int (lcmpW rem (-5 : Int64)))]))) (fun t_ k_ => XS.lcmp Xi6.here hx rfl (hb hby at_176) rfl k_) ?_
        by_cases b177 : (lcmpW rem (-5 : Int64)) = (0 : Int32)
        · refine Go.st (U := (Ti6.setTop (mkF m 180 #[.val (.int p0), .val (.long p1), .second, .val (.int p2), .val (.int p3), .val (.int p4), .val (.ref cs), .val (.ref st), .val (.int (p0 &&& (3 : Int32))), .unset, .unset, .unset, .unset, .val (.long mm), .second, .val (.long rem), .second, .unset, .unset, .unset, .unset] []))) (fun t_ k_ => XS.ifNo Xi6.here hx rfl (hb hby at_177) rfl ((if0 _ _).trans (teq b177).2) k_) ?_
          refine Go.st (U := (Ti6.setTop (mkF m 182 #[.val (.int p0), .val (.long p1), .second, .val (.int p2), .val (.int p3), .val (.int p4), .val (.ref cs), .val (.ref st), .val (.int (p0 &&& (3 : Int32))), .unset, .unset, .unset, .unset, .val (.long mm), .second, .val (.long rem), .second, .unset, .unset, .unset, .unset] [(.long mm)]))) (fun t_ k_ => XS.lload Xi6.here hx rfl (hb hby at_180) rfl k_) ?_
          refine Go.st (U := (Ti6.setTop (mkF m 183 #[.val (.int p0), .val (.long p1), .second, .val (.int p2), .val (.int p3), .val (.int p4), .val (.ref cs), .val (.ref st), .val (.int (p0 &&& (3 : Int32))), .unset, .unset, .unset, .unset, .val (.long mm), .second, .val (.long rem), .second, .unset, .unset, .unset, .unset] [(.long (1 : Int64)), (.long mm)]))) (fun t_ k_ => XS.lconst Xi6.here hx rfl (hb hby at_182) k_) ?_
          refine Go.st (U := (Ti6.setTop (mkF m 184 #[.val (.int p0), .val (.long p1), .second, .val (.int p2), .val (.int p3), .val (.int p4), .val (.ref cs), .val (.ref st), .val (.int (p0 &&& (3 : Int32))), .unset, .unset, .unset, .unset, .val (.long mm), .second, .val (.long rem), .second, .unset, .unset, .unset, .unset] [(.long (mm + (1 : Int64)))]))) (fun t_ k_ => XS.ladd Xi6.here hx rfl (hb hby at_183) rfl k_) ?_
          refine Go.st (U := (Ti6.setTop (mkF m 186 #[.val (.int p0), .val (.long p1), .second, .val (.int p2), .val (.int p3), .val (.int p4), .val (.ref cs), .val (.ref st), .val (.int (p0 &&& (3 : Int32))), .unset, .unset, .unset, .unset, .val (.long (mm + (1 : Int64))), .second, .val (.long rem), .second, .unset, .unset, .unset, .unset] []))) (fun t_ k_ => XS.lstore Xi6.here hx rfl (hb hby at_184) rfl (l' := #[.val (.int p0), .val (.long p1), .second, .val (.int p2), .val (.int p3), .val (.int p4), .val (.ref cs), .val (.ref st), .val (.int (p0 &&& (3 : Int32))), .unset, .unset, .unset, .unset, .val (.long (mm + (1 : Int64))), .second, .val (.long rem), .second, .unset, .unset, .unset, .unset]) rfl k_) ?_
          refine Go.st (U := (Ti6.setTop (mkF m 189 #[.val (.int p0), .val (.long p1), .second, .val (.int p2), .val (.int p3), .val (.int p4), .val (.ref cs), .val (.ref st), .val (.int (p0 &&& (3 : Int32))), .unset, .unset, .unset, .unset, .val (.long (mm + (1 : Int64))), .second, .val (.long rem), .second, .unset, .unset, .unset, .unset] [(.long (-4 : Int64))]))) (Xi6.ldc2Long hx hown (mvT hZ (hw _ (List.mem_of_getElem? (i := 84) rfl))) (g := (mkF m 186 #[.val (.int p0), .val (.long p1), .second, .val (.int p2), .val (.int p3), .val (.int p4), .val (.ref cs), .val (.ref st), .val (.int (p0 &&& (3 : Int32))), .unset, .unset, .unset, .unset, .val (.long (mm + (1 : Int64))), .second, .val (.long rem), .second, .unset, .unset, .unset, .unset] [])) rfl (hb hby at_186)) ?_
          refine Go.st (U := (Ti6.setTop (mkF m 191 #[.val (.int p0), .val (.long p1), .second, .val (.int p2), .val (.int p3), .val (.int p4), .val (.ref cs), .val (.ref st), .val (.int (p0 &&& (3 : Int32))), .unset, .unset, .unset, .unset, .val (.long (mm + (1 : Int64))), .second, .val (.long (-4 : Int64)), .second, .unset, .unset, .unset, .unset] []))) (fun t_ k_ => XS.lstore Xi6.here hx rfl (hb hby at_189) rfl (l' := #[.val (.int p0), .val (.long p1), .second, .val (.int p2), .val (.int p3), .val (.int p4), .val (.ref cs), .val (.ref st), .val (.int (p0 &&& (3 : Int32))), .unset, .unset, .unset, .unset, .val (.long (mm + (1 : Int64))), .second, .val (.long (-4 : Int64)), .second, .unset, .unset, .unset, .unset]) rfl k_) ?_
          exact J191 (mm + (1 : Int64)) (-4 : Int64) (own_H2 hm0 q_rem b177)
        · refine Go.st (U := (Ti6.setTop (mkF m 191 #[.val (.int p0), .val (.long p1), .second, .val (.int p2), .val (.int p3), .val (.int p4), .val (.ref cs), .val (.ref st), .val (.int (p0 &&& (3 : Int32))), .unset, .unset, .unset, .unset, .val (.long mm), .second, .val (.long rem), .second, .unset, .unset, .unset, .unset] []))) (fun t_ k_ => XS.ifYes Xi6.here hx rfl (pc0 := 177) (pc' := 191) rfl (hb hby at_177) rfl ((if0 _ _).trans (feq b177).2) (by decide) (by decide) k_) ?_
          exact J191 mm rem (own_H0 hm0 q_rem b154 b177)
set_option maxRecDepth 65536 in
set_option maxHeartbeats 40000000 in
theorem comes_1 {Post : Tables → Env → Array Value → State → Outcome → State → Prop} (hpost : ∀ tb e args s v u, (limb_1_1.after args s (.returned v) u = true ∧ limb_1_2.after args s (.returned v) u = true ∧ True) → FrameEnd s (.returned v) u (Jvm.fieldLocs frame_1_writes args s ++ Jvm.arrayLocs frame_1_arrays args s ++ Jvm.staticLocs frame_1_statics s) 16 128 → Post tb e args s (.returned v) u) :
    ArmFor flags0 classFile x code maxLocals ret World_1 tables_1 room_1 Calls_1 rest_1 Pre_1 Post := by
  intro l hfl _ _ p e ha hc hk s m args below hf hA hF happ hP
  obtain ⟨hcalls, hrest, hpre⟩ := hP
  obtain ⟨-, -, -, hnamed, -, -, -, hat⟩ := (Spec.applies_iff hf).mp happ
  obtain ⟨hg, hn⟩ := and_e (Cond.before_iff.mp (show (Jvm.Cond.and given_1 narrow_1).before args s = true from hpre))
  obtain ⟨hcnt, k0⟩ := and_e hg
  obtain ⟨j0, k1⟩ := and_e k0
  obtain ⟨j1, k2⟩ := and_e k1
  obtain ⟨j2, k3⟩ := and_e k2
  obtain ⟨j3, k4⟩ := and_e k3
  have j4 := k4
  obtain ⟨w0, w1, w2, w3, w4, rfl⟩ : ∃ w0 w1 w2 w3 w4 : Value, args = #[w0, w1, w2, w3, w4] := by
    have hs : args.size = 5 := by simpa [Cond.value, given_1] using hcnt
    obtain ⟨L⟩ := args
    match L, hs with
    | [w0, w1, w2, w3, w4], _ => exact ⟨w0, w1, w2, w3, w4, rfl⟩
  have hw := fun d (hd : d ∈ tables_1) => atoms_spec (ws := Jvm.Cond.code x code maxLocals ret :: tables_1) hat d (List.mem_cons_of_mem _ hd)
  obtain ⟨hsets, hown0⟩ := atoms_of _ (rest_1_c_eq ▸ (show rest_1_c.before _ s = true from hrest))
  have hfit : Fit s := fun {y c} hc i hi => by
    obtain ⟨ha, rfl⟩ := Array.getElem?_eq_some_iff.mp hc
    have q := List.all_eq_true.mp ((Array.all_eq_true_iff_forall_mem.mp hF) _ (Array.getElem_mem ha)) i (List.mem_range.mpr hi)
    simpa [Array.getElem?_eq_getElem hi] using q
  obtain ⟨i0, e0⟩ := is_v j0
  obtain rfl : w0 = (.int i0) := Option.some.inj e0
  obtain ⟨i1, e1⟩ := isL_v j1
  obtain rfl : w1 = (.long i1) := Option.some.inj e1
  obtain ⟨i2, e2⟩ := is_v j2
  obtain rfl : w2 = (.int i2) := Option.some.inj e2
  obtain ⟨i3, e3⟩ := is_v j3
  obtain rfl : w3 = (.int i3) := Option.some.inj e3
  obtain ⟨i4, e4⟩ := is_v j4
  obtain rfl : w4 = (.int i4) := Option.some.inj e4
  have n3 := not_v (Cond.before_iff.mp (hsets _ (List.mem_of_getElem? (i := 2) rfl)))
  obtain ⟨i7, e6⟩ := is_v (Cond.before_iff.mp (hsets _ (List.mem_of_getElem? (i := 1) rfl)))
  have S8 : Sta s s.heap "java/lang/String" "COMPACT_STRINGS" "Z" (.int i7) := Sta.start e6 (Or.inl (hsets _ (List.mem_of_getElem? (i := 0) rfl)))
  have c13 : ¬ (i7 = (0 : Int32)) := gotF (Cond.eq_ints e6 (Term.int_eval (0))) n3
  obtain ⟨n, o, h1, h2, h3, _, L, rfl, ⟨rfl, N⟩, hq⟩ := rm_law l s _ hw tables_1 i0 i1 i2 i3 i4 i7 s.heap s.heap.size (Nat.le_refl _) (Old.start s) S8 c13 p e ha hc hk s m _ below hf ((Spec.applies_iff_loose hf).mp happ).1 ⟨rfl, State.Warmed39.refl s, rfl⟩ trivial
  refine ⟨n, _, h1, h2, h3, hpost _ _ _ _ _ _ ⟨Cond.after_iff.mpr rfl, Cond.after_iff.mpr (eq_i res_at (Term.int_eval (1)) rfl), trivial⟩ ⟨hq.1, hq.2.1, (hq.2.2.sift fun y hy => Or.inr (N y hy)).mono (by decide) (by decide)⟩⟩
theorem main_1_1 : Claimed_1_1 := comes_1 fun _ _ _ _ _ _ h hF => ⟨h.1, hF⟩
theorem main_1_2 : Claimed_1_2 := comes_1 fun _ _ _ _ _ _ h hF => ⟨h.2.1, hF⟩
end Jvm.Pilot.@@N@@
namespace Jvm.Pilot.@@N@@
open Jvm Jvm.ClassFile Sem Op Lib Jvm.Free Jvm.Stand Jvm.Pilot.@@N@@.Jvm.D
/-! MADE BY PROGRAM (witnessworld.py) out of the Statement's table words and the real class files: 23 classes; the members and pool entries that the words name. The judged class is class 1, her method 1. -/
namespace start1
open Jvm.ClassFile
def u (s : String) : CpInfo := .utf8 (stringToUtf16 s)
/-- a pool by its gaps: so many unusable entries, then the entry; so many at the end -/
def gap : Nat → List CpInfo → List CpInfo
  | 0, r => r
  | n + 1, r => .unusable :: gap n r
def poolList (es : List (Nat × CpInfo)) (last : Nat) : List CpInfo := es.foldr (fun e r => gap e.1 (e.2 :: r)) (gap last [])
def pool (es : List (Nat × CpInfo)) (last : Nat) : Array CpInfo := ⟨poolList es last⟩
def fileOf (pool : Array CpInfo) (this : Nat) (attrs : Array Attribute := #[]) (ms : Array MethodInfo := #[]) (fl : Nat := 33) (sup : Nat := 0) (ifs : Array Nat := #[]) (fds : Array FieldInfo := #[]) : ClassFile where
  minorVersion := 0
  majorVersion := 65
  constantPool := pool
  accessFlags := fl
  thisClass := this
  superClass := sup
  interfaces := ifs
  fields := fds
  methods := ms
  attributes := attrs
def plain (name : String) (sup : Option ClassId) : Class where
  name := name
  kind := .ordinary
  loader := none
  accessFlags := 33
  super := sup
  interfaces := #[]
  cf := none
  fields := #[]
  methods := #[]
  instanceTypes := #[]
  staticTypes := #[]
  resolved := #[]
  callSites := []
  init := .initialized
  statics := none
  mirror := none

def pool0 : Array CpInfo := pool [(5, u "<init>"), (0, u "()V"), (1, .class_ 10), (1, u "java/lang/Object")] 113

def k0c0 : Code := { maxStack := 0, maxLocals := 1, code := object_method_1_code, exceptionTable := #[], attributes := #[] }
def k0m0 : Method := { name := "<init>", desc := "()V", sig := { parameters := [], returnType := none }, accessFlags := 1, code := some k0c0 }
/-- java/lang/Object -/
def k0 : Class := { plain "java/lang/Object" none with
  accessFlags := 33
  interfaces := #[]
  cf := some (fileOf pool0 8 #[] #[{ accessFlags := 1, nameIndex := 5, descriptorIndex := 6, attributes := #[] }] 33 0 #[] #[])
  fields := #[]
  methods := #[k0m0]
  instanceTypes := #[]
  staticTypes := #[]
  resolved := Array.replicate 124 none
  statics := none }

def pool1 : Array CpInfo := pool [(2, .class_ 4), (1, u "java/lang/Object"), (0, u "<init>"), (0, u "()V"), (0, .class_ 8), (0, u "java/lang/String"), (0, .methodref 7 10), (0, .nameAndType 5 11), (0, u "([C)V"), (0, .long 2), (1, .integer 1048576), (0, .double 4638707616191610880), (1, .long 15625), (1, .double 4696837146684686336), (1, .long 1099511627776), (1, .long 10), (1, .long 5), (1, .long 4), (1, .long 18446744073709551611), (1, .long 18446744073709551612), (1, .double 4711630319722168320), (1, .methodref 36 37), (0, .class_ 38), (0, .nameAndType 39 40), (0, u "com/example/palaute/palaute/ScoredDocument"), (0, u "asPrinted"), (0, u "(Ljava/lang/String;D)Lcom/example/palaute/palaute/ScoredDocument;"), (0, .methodref 36 42), (0, .nameAndType 43 44), (0, u "score"), (0, u "()D"), (0, .methodref 36 46), (0, .nameAndType 47 48), (0, u "number"), (0, u "()Ljava/lang/String;"), (0, .methodref 7 50), (0, .nameAndType 51 52), (0, u "equals"), (0, u "(Ljava/lang/Object;)Z"), (0, .class_ 54), (0, u "com/example/palaute/palaute/ScoredDocumentAsPrintedPinLaw"), (2, u "law"), (0, u "(IJIII)Z")] 5

def k1m0 : Method := { name := "<init>", desc := "()V", sig := { parameters := [], returnType := none }, accessFlags := 1, code := none }
def k1c1 : Code := { maxStack := 4, maxLocals := 21, code := code, exceptionTable := #[], attributes := #[] }
def k1m1 : Method := { name := "law", desc := "(IJIII)Z", sig := { parameters := [.int, .long, .int, .int, .int], returnType := some .boolean }, accessFlags := 9, code := some k1c1 }
/-- com/example/palaute/palaute/ScoredDocumentAsPrintedPinLaw -/
def k1 : Class := { plain "com/example/palaute/palaute/ScoredDocumentAsPrintedPinLaw" (some 0) with
  accessFlags := 49
  interfaces := #[]
  cf := some (fileOf pool1 53 #[] #[{ accessFlags := 1, nameIndex := 5, descriptorIndex := 6, attributes := #[] }, { accessFlags := 9, nameIndex := 57, descriptorIndex := 58, attributes := #[] }] 49 2 #[] #[])
  fields := #[]
  methods := #[k1m0, k1m1]
  instanceTypes := #[]
  staticTypes := #[]
  resolved := Array.replicate 64 none
  statics := none }

def pool2 : Array CpInfo := pool [(1, .class_ 2), (0, u "java/io/Serializable"), (0, .class_ 4), (0, u "java/lang/Object")] 2

/-- java/io/Serializable -/
def k2 : Class := { plain "java/io/Serializable" (some 0) with
  accessFlags := 1537
  interfaces := #[]
  cf := some (fileOf pool2 1 #[] #[] 1537 3 #[] #[])
  fields := #[]
  methods := #[]
  instanceTypes := #[]
  staticTypes := #[]
  resolved := Array.replicate 7 none
  statics := none }

def pool3 : Array CpInfo := pool [(1, .class_ 2), (0, u "java/lang/Comparable"), (0, .class_ 4), (0, u "java/lang/Object")] 7

/-- java/lang/Comparable -/
def k3 : Class := { plain "java/lang/Comparable" (some 0) with
  accessFlags := 1537
  interfaces := #[]
  cf := some (fileOf pool3 1 #[] #[] 1537 3 #[] #[])
  fields := #[]
  methods := #[]
  instanceTypes := #[]
  staticTypes := #[]
  resolved := Array.replicate 12 none
  statics := none }

def pool4 : Array CpInfo := pool [(2, .class_ 4), (1, u "java/lang/CharSequence"), (42, .class_ 48), (0, u "java/lang/CharSequence$1CodePointIterator"), (10, .class_ 60), (0, u "java/lang/CharSequence$1CharIterator"), (5, .class_ 67), (0, u "java/lang/Object")] 63

/-- java/lang/CharSequence -/
def k4 : Class := { plain "java/lang/CharSequence" (some 0) with
  accessFlags := 1537
  interfaces := #[]
  cf := some (fileOf pool4 2 #[.nestMembers #[47, 59]] #[] 1537 66 #[] #[])
  fields := #[]
  methods := #[]
  instanceTypes := #[]
  staticTypes := #[]
  resolved := Array.replicate 131 none
  statics := none }

def pool5 : Array CpInfo := pool [(1, .class_ 2), (0, u "java/lang/constant/Constable"), (0, .class_ 4), (0, u "java/lang/Object")] 6

/-- java/lang/constant/Constable -/
def k5 : Class := { plain "java/lang/constant/Constable" (some 0) with
  accessFlags := 1537
  interfaces := #[]
  cf := some (fileOf pool5 1 #[] #[] 1537 3 #[] #[])
  fields := #[]
  methods := #[]
  instanceTypes := #[]
  staticTypes := #[]
  resolved := Array.replicate 11 none
  statics := none }

def pool6 : Array CpInfo := pool [(1, .class_ 2), (0, u "java/lang/constant/ConstantDesc"), (0, .class_ 4), (0, u "java/lang/Object")] 32

/-- java/lang/constant/ConstantDesc -/
def k6 : Class := { plain "java/lang/constant/ConstantDesc" (some 0) with
  accessFlags := 1537
  interfaces := #[]
  cf := some (fileOf pool6 1 #[] #[] 1537 3 #[] #[])
  fields := #[]
  methods := #[]
  instanceTypes := #[]
  staticTypes := #[]
  resolved := Array.replicate 37 none
  statics := none }

def pool7 : Array CpInfo := pool [(1, .methodref 2 3), (0, .class_ 4), (0, .nameAndType 5 6), (0, u "java/lang/Object"), (0, u "<init>"), (0, u "()V"), (2, .fieldref 10 11), (0, .class_ 12), (0, .nameAndType 13 14), (0, u "java/lang/String"), (0, u "value"), (0, u "[B"), (0, .fieldref 10 16), (0, .nameAndType 17 18), (0, u "coder"), (0, u "B"), (2, u "hash"), (0, u "I"), (2, u "hashIsZero"), (0, u "Z"), (0, .methodref 10 28), (0, .nameAndType 5 29), (0, u "([CIILjava/lang/Void;)V"), (8, .fieldref 10 39), (0, .nameAndType 40 26), (0, u "COMPACT_STRINGS"), (1, .class_ 44), (1, u "java/lang/StringUTF16"), (0, u "compress"), (1, .methodref 42 48), (0, .nameAndType 49 50), (0, u "coderFromArrayLen"), (0, u "([BI)B"), (126, .methodref 42 178), (0, .nameAndType 45 179), (0, u "([CII)[B"), (363, u "equals"), (29, u "(Ljava/lang/Object;)Z"), (1, .class_ 576), (0, u "java/lang/CharSequence"), (22, u "CASE_INSENSITIVE_ORDER"), (0, u "Ljava/util/Comparator;"), (409, u "([C)V"), (90, u "serialPersistentFields"), (0, u "[Ljava/io/ObjectStreamField;"), (0, .class_ 1104), (0, u "java/lang/String$CaseInsensitiveComparator"), (1, .class_ 1107), (0, u "java/io/Serializable"), (0, .class_ 1109), (0, u "java/lang/Comparable"), (0, .class_ 1111), (0, u "java/lang/constant/Constable"), (0, .class_ 1113), (0, u "java/lang/constant/ConstantDesc"), (2, u "serialVersionUID"), (0, u "J"), (3, u "REPL"), (0, u "C"), (2, u "LATIN1"), (1, u "UTF16")] 323

def k7m0 : Method := { name := "<init>", desc := "()V", sig := { parameters := [], returnType := none }, accessFlags := 1, code := none }
def k7c1 : Code := { maxStack := 5, maxLocals := 2, code := jdk_42_method_3_code, exceptionTable := #[], attributes := #[] }
def k7m1 : Method := { name := "<init>", desc := "([C)V", sig := { parameters := [(.array .char)], returnType := none }, accessFlags := 1, code := some k7c1 }
def k7c2 : Code := { maxStack := 2, maxLocals := 3, code := jdk_42_method_66_code, exceptionTable := #[], attributes := #[] }
def k7m2 : Method := { name := "equals", desc := "(Ljava/lang/Object;)Z", sig := { parameters := [(.object "java/lang/Object")], returnType := some .boolean }, accessFlags := 1, code := some k7c2 }
def k7c3 : Code := { maxStack := 4, maxLocals := 6, code := jdk_42_method_149_code, exceptionTable := #[], attributes := #[] }
def k7m3 : Method := { name := "<init>", desc := "([CIILjava/lang/Void;)V", sig := { parameters := [(.array .char), .int, .int, (.object "java/lang/Void")], returnType := none }, accessFlags := 2, code := some k7c3 }
/-- java/lang/String -/
def k7 : Class := { plain "java/lang/String" (some 0) with
  accessFlags := 49
  interfaces := #[2, 3, 4, 5, 6]
  cf := some (fileOf pool7 10 #[.nestMembers #[1103]] #[{ accessFlags := 1, nameIndex := 5, descriptorIndex := 6, attributes := #[] }, { accessFlags := 1, nameIndex := 5, descriptorIndex := 1010, attributes := #[] }, { accessFlags := 1, nameIndex := 543, descriptorIndex := 573, attributes := #[] }, { accessFlags := 2, nameIndex := 5, descriptorIndex := 29, attributes := #[] }] 49 2 #[1106, 1108, 575, 1110, 1112] #[{ accessFlags := 18, nameIndex := 13, descriptorIndex := 14, attributes := #[] }, { accessFlags := 18, nameIndex := 17, descriptorIndex := 18, attributes := #[] }, { accessFlags := 2, nameIndex := 21, descriptorIndex := 22, attributes := #[] }, { accessFlags := 2, nameIndex := 25, descriptorIndex := 26, attributes := #[] }, { accessFlags := 26, nameIndex := 1116, descriptorIndex := 1117, attributes := #[] }, { accessFlags := 24, nameIndex := 40, descriptorIndex := 26, attributes := #[] }, { accessFlags := 26, nameIndex := 1101, descriptorIndex := 1102, attributes := #[] }, { accessFlags := 26, nameIndex := 1121, descriptorIndex := 1122, attributes := #[] }, { accessFlags := 25, nameIndex := 599, descriptorIndex := 600, attributes := #[] }, { accessFlags := 24, nameIndex := 1125, descriptorIndex := 18, attributes := #[] }, { accessFlags := 24, nameIndex := 1127, descriptorIndex := 18, attributes := #[] }])
  fields := #[{ name := "value", type := (.array .byte), accessFlags := 18, slot := 0, constantValue := 0 }, { name := "coder", type := .byte, accessFlags := 18, slot := 1, constantValue := 0 }, { name := "hash", type := .int, accessFlags := 2, slot := 2, constantValue := 0 }, { name := "hashIsZero", type := .boolean, accessFlags := 2, slot := 3, constantValue := 0 }, { name := "serialVersionUID", type := .long, accessFlags := 26, slot := 0, constantValue := 0 }, { name := "COMPACT_STRINGS", type := .boolean, accessFlags := 24, slot := 1, constantValue := 0 }, { name := "serialPersistentFields", type := (.array (.object "java/io/ObjectStreamField")), accessFlags := 26, slot := 2, constantValue := 0 }, { name := "REPL", type := .char, accessFlags := 26, slot := 3, constantValue := 0 }, { name := "CASE_INSENSITIVE_ORDER", type := (.object "java/util/Comparator"), accessFlags := 25, slot := 4, constantValue := 0 }, { name := "LATIN1", type := .byte, accessFlags := 24, slot := 5, constantValue := 0 }, { name := "UTF16", type := .byte, accessFlags := 24, slot := 6, constantValue := 0 }]
  methods := #[k7m0, k7m1, k7m2, k7m3]
  instanceTypes := #[(.array .byte), .byte, .int, .boolean]
  staticTypes := #[.long, .boolean, (.array (.object "java/io/ObjectStreamField")), .char, (.object "java/util/Comparator"), .byte, .byte]
  resolved := Array.replicate 1451 none
  statics := some 0 }

def pool8 : Array CpInfo := pool [(6, .class_ 8), (1, u "java/lang/Object"), (0, u "<init>"), (0, u "()V"), (1, .class_ 14), (1, u "java/lang/StringUTF16"), (31, u "$assertionsDisabled"), (0, u "Z"), (13, u "HI_BYTE_SHIFT"), (0, u "I"), (2, u "LO_BYTE_SHIFT"), (49, .methodref 12 116), (0, .nameAndType 117 118), (0, u "compress"), (0, u "([CI[BII)I"), (3, u "([CII)[B"), (138, u "coderFromArrayLen"), (0, u "([BI)B"), (106, .class_ 371), (1, u "java/lang/StringUTF16$LinesSpliterator"), (58, u "MAX_LENGTH"), (196, .class_ 628), (0, u "java/lang/StringUTF16$CodePointsSpliterator"), (0, .class_ 630), (0, u "java/lang/StringUTF16$CharsSpliterator")] 4

def k8m0 : Method := { name := "<init>", desc := "()V", sig := { parameters := [], returnType := none }, accessFlags := 0, code := none }
def k8c1 : Code := { maxStack := 2, maxLocals := 2, code := jdk_52_method_15_code, exceptionTable := #[], attributes := #[] }
def k8m1 : Method := { name := "coderFromArrayLen", desc := "([BI)B", sig := { parameters := [(.array .byte), .int], returnType := some .byte }, accessFlags := 8, code := some k8c1 }
def k8c2 : Code := { maxStack := 5, maxLocals := 6, code := jdk_52_method_16_code, exceptionTable := #[], attributes := #[] }
def k8m2 : Method := { name := "compress", desc := "([CII)[B", sig := { parameters := [(.array .char), .int, .int], returnType := some (.array .byte) }, accessFlags := 9, code := some k8c2 }
def k8c3 : Code := { maxStack := 3, maxLocals := 7, code := jdk_52_method_21_code, exceptionTable := #[], attributes := #[] }
def k8m3 : Method := { name := "compress", desc := "([CI[BII)I", sig := { parameters := [(.array .char), .int, (.array .byte), .int, .int], returnType := some .int }, accessFlags := 9, code := some k8c3 }
/-- java/lang/StringUTF16 -/
def k8 : Class := { plain "java/lang/StringUTF16" (some 0) with
  accessFlags := 48
  interfaces := #[]
  cf := some (fileOf pool8 12 #[.nestMembers #[627, 629, 369]] #[{ accessFlags := 0, nameIndex := 9, descriptorIndex := 10, attributes := #[] }, { accessFlags := 8, nameIndex := 261, descriptorIndex := 262, attributes := #[] }, { accessFlags := 9, nameIndex := 117, descriptorIndex := 122, attributes := #[] }, { accessFlags := 9, nameIndex := 117, descriptorIndex := 118, attributes := #[] }] 48 6 #[] #[{ accessFlags := 26, nameIndex := 61, descriptorIndex := 62, attributes := #[] }, { accessFlags := 26, nameIndex := 65, descriptorIndex := 62, attributes := #[] }, { accessFlags := 24, nameIndex := 430, descriptorIndex := 62, attributes := #[] }, { accessFlags := 4120, nameIndex := 46, descriptorIndex := 47, attributes := #[] }])
  fields := #[{ name := "HI_BYTE_SHIFT", type := .int, accessFlags := 26, slot := 0, constantValue := 0 }, { name := "LO_BYTE_SHIFT", type := .int, accessFlags := 26, slot := 1, constantValue := 0 }, { name := "MAX_LENGTH", type := .int, accessFlags := 24, slot := 2, constantValue := 0 }, { name := "$assertionsDisabled", type := .boolean, accessFlags := 4120, slot := 3, constantValue := 0 }]
  methods := #[k8m0, k8m1, k8m2, k8m3]
  instanceTypes := #[]
  staticTypes := #[.int, .int, .int, .boolean]
  resolved := Array.replicate 635 none
  statics := none }

def pool9 : Array CpInfo := pool [(1, .methodref 2 3), (0, .class_ 4), (0, .nameAndType 5 6), (0, u "java/lang/Object"), (0, u "<init>"), (0, u "()V"), (0, .fieldref 8 9), (0, .class_ 10), (0, .nameAndType 11 12), (0, u "com/example/palaute/palaute/ScoredDocument"), (0, u "number"), (0, u "Ljava/lang/String;"), (0, .fieldref 8 14), (0, .nameAndType 15 16), (0, u "score"), (0, u "D"), (0, .double 4696837146684686336), (1, .methodref 20 21), (0, .class_ 22), (0, .nameAndType 23 24), (0, u "java/lang/Math"), (0, u "round"), (0, u "(D)J"), (0, .methodref 8 26), (0, .nameAndType 5 27), (0, u "(Ljava/lang/String;D)V"), (9, u "()Ljava/lang/String;"), (24, u "RANKING"), (0, u "Ljava/util/Comparator;"), (2, u "DECIMALS"), (0, u "I"), (2, u "SCALE"), (2, u "asPrinted"), (0, u "(Ljava/lang/String;D)Lcom/example/palaute/palaute/ScoredDocument;"), (0, u "()D")] 33

def k9c0 : Code := { maxStack := 5, maxLocals := 4, code := prog_17_method_1_code, exceptionTable := #[], attributes := #[] }
def k9m0 : Method := { name := "<init>", desc := "(Ljava/lang/String;D)V", sig := { parameters := [(.object "java/lang/String"), .double], returnType := none }, accessFlags := 0, code := some k9c0 }
def k9c1 : Code := { maxStack := 7, maxLocals := 3, code := prog_17_method_2_code, exceptionTable := #[], attributes := #[] }
def k9m1 : Method := { name := "asPrinted", desc := "(Ljava/lang/String;D)Lcom/example/palaute/palaute/ScoredDocument;", sig := { parameters := [(.object "java/lang/String"), .double], returnType := some (.object "com/example/palaute/palaute/ScoredDocument") }, accessFlags := 8, code := some k9c1 }
def k9c2 : Code := { maxStack := 1, maxLocals := 1, code := prog_17_method_3_code, exceptionTable := #[], attributes := #[] }
def k9m2 : Method := { name := "number", desc := "()Ljava/lang/String;", sig := { parameters := [], returnType := some (.object "java/lang/String") }, accessFlags := 0, code := some k9c2 }
def k9c3 : Code := { maxStack := 2, maxLocals := 1, code := prog_17_method_4_code, exceptionTable := #[], attributes := #[] }
def k9m3 : Method := { name := "score", desc := "()D", sig := { parameters := [], returnType := some .double }, accessFlags := 0, code := some k9c3 }
/-- com/example/palaute/palaute/ScoredDocument -/
def k9 : Class := { plain "com/example/palaute/palaute/ScoredDocument" (some 0) with
  accessFlags := 48
  interfaces := #[]
  cf := some (fileOf pool9 8 #[] #[{ accessFlags := 0, nameIndex := 5, descriptorIndex := 27, attributes := #[] }, { accessFlags := 8, nameIndex := 73, descriptorIndex := 74, attributes := #[] }, { accessFlags := 0, nameIndex := 11, descriptorIndex := 37, attributes := #[] }, { accessFlags := 0, nameIndex := 15, descriptorIndex := 75, attributes := #[] }] 48 2 #[] #[{ accessFlags := 24, nameIndex := 62, descriptorIndex := 63, attributes := #[] }, { accessFlags := 26, nameIndex := 66, descriptorIndex := 67, attributes := #[] }, { accessFlags := 26, nameIndex := 70, descriptorIndex := 16, attributes := #[] }, { accessFlags := 18, nameIndex := 11, descriptorIndex := 12, attributes := #[] }, { accessFlags := 18, nameIndex := 15, descriptorIndex := 16, attributes := #[] }])
  fields := #[{ name := "RANKING", type := (.object "java/util/Comparator"), accessFlags := 24, slot := 0, constantValue := 0 }, { name := "DECIMALS", type := .int, accessFlags := 26, slot := 1, constantValue := 0 }, { name := "SCALE", type := .double, accessFlags := 26, slot := 2, constantValue := 0 }, { name := "number", type := (.object "java/lang/String"), accessFlags := 18, slot := 0, constantValue := 0 }, { name := "score", type := .double, accessFlags := 18, slot := 1, constantValue := 0 }]
  methods := #[k9m0, k9m1, k9m2, k9m3]
  instanceTypes := #[(.object "java/lang/String"), .double]
  staticTypes := #[(.object "java/util/Comparator"), .int, .double]
  resolved := Array.replicate 109 none
  statics := none }

def pool10 : Array CpInfo := pool [(1, .class_ 2), (0, u "java/lang/Math"), (1, .class_ 6), (1, u "java/lang/Object"), (0, u "<init>"), (0, u "()V"), (70, .methodref 80 81), (0, .class_ 82), (0, .nameAndType 83 84), (0, u "java/lang/Double"), (0, u "doubleToRawLongBits"), (0, u "(D)J"), (2, .long 9218868437227405312), (1, .long 1074), (1, .long 18446744073709551552), (1, .long 4503599627370495), (1, .long 4503599627370496), (2, .class_ 100), (1, u "java/lang/Math$RandomNumberGeneratorHolder"), (71, u "negativeZeroFloatBits"), (0, u "J"), (2, u "negativeZeroDoubleBits"), (68, u "$assertionsDisabled"), (0, u "Z"), (91, u "twoToTheDoubleScaleDown"), (0, u "D"), (4, u "twoToTheDoubleScaleUp"), (9, u "E"), (3, u "PI"), (2, u "TAU"), (2, u "DEGREES_TO_RADIANS"), (0, u "RADIANS_TO_DEGREES"), (17, u "round")] 76

def k10m0 : Method := { name := "<init>", desc := "()V", sig := { parameters := [], returnType := none }, accessFlags := 2, code := none }
def k10c1 : Code := { maxStack := 4, maxLocals := 10, code := jdk_29_method_22_code, exceptionTable := #[], attributes := #[] }
def k10m1 : Method := { name := "round", desc := "(D)J", sig := { parameters := [.double], returnType := some .long }, accessFlags := 9, code := some k10c1 }
/-- java/lang/Math -/
def k10 : Class := { plain "java/lang/Math" (some 0) with
  accessFlags := 49
  interfaces := #[]
  cf := some (fileOf pool10 1 #[.nestMembers #[98]] #[{ accessFlags := 2, nameIndex := 7, descriptorIndex := 8, attributes := #[] }, { accessFlags := 9, nameIndex := 383, descriptorIndex := 84, attributes := #[] }] 49 4 #[] #[{ accessFlags := 25, nameIndex := 354, descriptorIndex := 339, attributes := #[] }, { accessFlags := 25, nameIndex := 358, descriptorIndex := 339, attributes := #[] }, { accessFlags := 25, nameIndex := 361, descriptorIndex := 339, attributes := #[] }, { accessFlags := 26, nameIndex := 364, descriptorIndex := 339, attributes := #[] }, { accessFlags := 26, nameIndex := 365, descriptorIndex := 339, attributes := #[] }, { accessFlags := 26, nameIndex := 172, descriptorIndex := 173, attributes := #[] }, { accessFlags := 26, nameIndex := 176, descriptorIndex := 173, attributes := #[] }, { accessFlags := 8, nameIndex := 344, descriptorIndex := 339, attributes := #[] }, { accessFlags := 8, nameIndex := 338, descriptorIndex := 339, attributes := #[] }, { accessFlags := 4120, nameIndex := 245, descriptorIndex := 246, attributes := #[] }])
  fields := #[{ name := "E", type := .double, accessFlags := 25, slot := 0, constantValue := 0 }, { name := "PI", type := .double, accessFlags := 25, slot := 1, constantValue := 0 }, { name := "TAU", type := .double, accessFlags := 25, slot := 2, constantValue := 0 }, { name := "DEGREES_TO_RADIANS", type := .double, accessFlags := 26, slot := 3, constantValue := 0 }, { name := "RADIANS_TO_DEGREES", type := .double, accessFlags := 26, slot := 4, constantValue := 0 }, { name := "negativeZeroFloatBits", type := .long, accessFlags := 26, slot := 5, constantValue := 0 }, { name := "negativeZeroDoubleBits", type := .long, accessFlags := 26, slot := 6, constantValue := 0 }, { name := "twoToTheDoubleScaleUp", type := .double, accessFlags := 8, slot := 7, constantValue := 0 }, { name := "twoToTheDoubleScaleDown", type := .double, accessFlags := 8, slot := 8, constantValue := 0 }, { name := "$assertionsDisabled", type := .boolean, accessFlags := 4120, slot := 9, constantValue := 0 }]
  methods := #[k10m0, k10m1]
  instanceTypes := #[]
  staticTypes := #[.double, .double, .double, .double, .double, .long, .long, .double, .double, .boolean]
  resolved := Array.replicate 460 none
  statics := none }

def pool11 : Array CpInfo := pool [(2, .class_ 4), (1, u "java/lang/Object"), (0, u "<init>"), (0, u "()V"), (1, .class_ 10), (1, u "java/lang/Number"), (2, .class_ 14), (0, u "java/io/Serializable"), (0, u "serialVersionUID"), (0, u "J")] 20

def k11m0 : Method := { name := "<init>", desc := "()V", sig := { parameters := [], returnType := none }, accessFlags := 1, code := none }
/-- java/lang/Number -/
def k11 : Class := { plain "java/lang/Number" (some 0) with
  accessFlags := 1057
  interfaces := #[2]
  cf := some (fileOf pool11 8 #[] #[{ accessFlags := 1, nameIndex := 5, descriptorIndex := 6, attributes := #[] }] 1057 2 #[13] #[{ accessFlags := 26, nameIndex := 15, descriptorIndex := 16, attributes := #[] }])
  fields := #[{ name := "serialVersionUID", type := .long, accessFlags := 26, slot := 0, constantValue := 0 }]
  methods := #[k11m0]
  instanceTypes := #[]
  staticTypes := #[.long]
  resolved := Array.replicate 37 none
  statics := none }

def pool12 : Array CpInfo := pool [(1, .class_ 2), (0, u "java/lang/Double"), (46, u "(D)J"), (64, .class_ 116), (1, u "java/lang/Number"), (3, u "value"), (0, u "D"), (14, u "doubleToRawLongBits"), (36, u "TYPE"), (0, u "Ljava/lang/Class;"), (0, .class_ 176), (0, u "java/lang/Comparable"), (0, .class_ 178), (0, u "java/lang/constant/Constable"), (0, .class_ 180), (0, u "java/lang/constant/ConstantDesc"), (0, u "POSITIVE_INFINITY"), (3, u "NEGATIVE_INFINITY"), (2, u "NaN"), (2, u "MAX_VALUE"), (0, u "MIN_NORMAL"), (0, u "MIN_VALUE"), (2, u "SIZE"), (0, u "I"), (1, u "PRECISION"), (1, u "MAX_EXPONENT"), (1, u "MIN_EXPONENT"), (1, u "BYTES"), (3, u "serialVersionUID"), (0, u "J")] 79

def k12m0 : Method := { name := "doubleToRawLongBits", desc := "(D)J", sig := { parameters := [.double], returnType := some .long }, accessFlags := 265, code := none }
/-- java/lang/Double -/
def k12 : Class := { plain "java/lang/Double" (some 11) with
  accessFlags := 49
  interfaces := #[3, 5, 6]
  cf := some (fileOf pool12 1 #[] #[{ accessFlags := 265, nameIndex := 136, descriptorIndex := 49, attributes := #[] }] 49 114 #[175, 177, 179] #[{ accessFlags := 25, nameIndex := 181, descriptorIndex := 121, attributes := #[] }, { accessFlags := 25, nameIndex := 185, descriptorIndex := 121, attributes := #[] }, { accessFlags := 25, nameIndex := 188, descriptorIndex := 121, attributes := #[] }, { accessFlags := 25, nameIndex := 191, descriptorIndex := 121, attributes := #[] }, { accessFlags := 25, nameIndex := 192, descriptorIndex := 121, attributes := #[] }, { accessFlags := 25, nameIndex := 193, descriptorIndex := 121, attributes := #[] }, { accessFlags := 25, nameIndex := 196, descriptorIndex := 197, attributes := #[] }, { accessFlags := 25, nameIndex := 199, descriptorIndex := 197, attributes := #[] }, { accessFlags := 25, nameIndex := 201, descriptorIndex := 197, attributes := #[] }, { accessFlags := 25, nameIndex := 203, descriptorIndex := 197, attributes := #[] }, { accessFlags := 25, nameIndex := 205, descriptorIndex := 197, attributes := #[] }, { accessFlags := 25, nameIndex := 173, descriptorIndex := 174, attributes := #[] }, { accessFlags := 18, nameIndex := 120, descriptorIndex := 121, attributes := #[] }, { accessFlags := 26, nameIndex := 209, descriptorIndex := 210, attributes := #[] }])
  fields := #[{ name := "POSITIVE_INFINITY", type := .double, accessFlags := 25, slot := 0, constantValue := 0 }, { name := "NEGATIVE_INFINITY", type := .double, accessFlags := 25, slot := 1, constantValue := 0 }, { name := "NaN", type := .double, accessFlags := 25, slot := 2, constantValue := 0 }, { name := "MAX_VALUE", type := .double, accessFlags := 25, slot := 3, constantValue := 0 }, { name := "MIN_NORMAL", type := .double, accessFlags := 25, slot := 4, constantValue := 0 }, { name := "MIN_VALUE", type := .double, accessFlags := 25, slot := 5, constantValue := 0 }, { name := "SIZE", type := .int, accessFlags := 25, slot := 6, constantValue := 0 }, { name := "PRECISION", type := .int, accessFlags := 25, slot := 7, constantValue := 0 }, { name := "MAX_EXPONENT", type := .int, accessFlags := 25, slot := 8, constantValue := 0 }, { name := "MIN_EXPONENT", type := .int, accessFlags := 25, slot := 9, constantValue := 0 }, { name := "BYTES", type := .int, accessFlags := 25, slot := 10, constantValue := 0 }, { name := "TYPE", type := (.object "java/lang/Class"), accessFlags := 25, slot := 11, constantValue := 0 }, { name := "value", type := .double, accessFlags := 18, slot := 0, constantValue := 0 }, { name := "serialVersionUID", type := .long, accessFlags := 26, slot := 12, constantValue := 0 }]
  methods := #[k12m0]
  instanceTypes := #[.double]
  staticTypes := #[.double, .double, .double, .double, .double, .double, .int, .int, .int, .int, .int, (.object "java/lang/Class"), .long]
  resolved := Array.replicate 290 none
  statics := none }

def pool13 : Array CpInfo := pool [(4, .class_ 6), (1, u "java/lang/Object"), (0, u "<init>"), (0, u "()V"), (5, .class_ 16), (1, u "java/lang/StringLatin1"), (104, u "$assertionsDisabled"), (0, u "Z"), (98, .class_ 223), (1, u "java/lang/StringLatin1$LinesSpliterator"), (166, .class_ 391), (0, u "java/lang/StringLatin1$CharsSpliterator")] 3

def k13m0 : Method := { name := "<init>", desc := "()V", sig := { parameters := [], returnType := none }, accessFlags := 0, code := none }
/-- java/lang/StringLatin1 -/
def k13 : Class := { plain "java/lang/StringLatin1" (some 0) with
  accessFlags := 48
  interfaces := #[]
  cf := some (fileOf pool13 14 #[.nestMembers #[390, 221]] #[{ accessFlags := 0, nameIndex := 7, descriptorIndex := 8, attributes := #[] }] 48 4 #[] #[{ accessFlags := 4120, nameIndex := 121, descriptorIndex := 122, attributes := #[] }])
  fields := #[{ name := "$assertionsDisabled", type := .boolean, accessFlags := 4120, slot := 0, constantValue := 0 }]
  methods := #[k13m0]
  instanceTypes := #[]
  staticTypes := #[.boolean]
  resolved := Array.replicate 395 none
  statics := none }

def pool14 : Array CpInfo := pool [(2, .class_ 4), (1, u "java/lang/Object"), (0, u "<init>"), (0, u "()V"), (17, .class_ 26), (1, u "jdk/internal/util/Preconditions"), (28, .class_ 56), (0, u "jdk/internal/util/Preconditions$4"), (57, .class_ 115), (0, u "jdk/internal/util/Preconditions$1"), (7, u "SIOOBE_FORMATTER"), (0, u "Ljava/util/function/BiFunction;"), (0, .class_ 126), (0, u "jdk/internal/util/Preconditions$2"), (3, u "AIOOBE_FORMATTER"), (0, .class_ 132), (0, u "jdk/internal/util/Preconditions$3"), (3, u "IOOBE_FORMATTER")] 57

def k14m0 : Method := { name := "<init>", desc := "()V", sig := { parameters := [], returnType := none }, accessFlags := 1, code := none }
/-- jdk/internal/util/Preconditions -/
def k14 : Class := { plain "jdk/internal/util/Preconditions" (some 0) with
  accessFlags := 33
  interfaces := #[]
  cf := some (fileOf pool14 24 #[.nestMembers #[55, 131, 125, 114]] #[{ accessFlags := 1, nameIndex := 5, descriptorIndex := 6, attributes := #[] }] 33 2 #[] #[{ accessFlags := 25, nameIndex := 123, descriptorIndex := 124, attributes := #[] }, { accessFlags := 25, nameIndex := 130, descriptorIndex := 124, attributes := #[] }, { accessFlags := 25, nameIndex := 136, descriptorIndex := 124, attributes := #[] }])
  fields := #[{ name := "SIOOBE_FORMATTER", type := (.object "java/util/function/BiFunction"), accessFlags := 25, slot := 0, constantValue := 0 }, { name := "AIOOBE_FORMATTER", type := (.object "java/util/function/BiFunction"), accessFlags := 25, slot := 1, constantValue := 0 }, { name := "IOOBE_FORMATTER", type := (.object "java/util/function/BiFunction"), accessFlags := 25, slot := 2, constantValue := 0 }]
  methods := #[k14m0]
  instanceTypes := #[]
  staticTypes := #[(.object "java/util/function/BiFunction"), (.object "java/util/function/BiFunction"), (.object "java/util/function/BiFunction")]
  resolved := Array.replicate 194 none
  statics := some 1 }

def pool15 : Array CpInfo := pool [(9, u "<init>"), (6, .class_ 18), (1, u "java/lang/Object"), (0, u "()V"), (1, .class_ 23), (1, u "jdk/internal/util/ArraysSupport"), (0, u "LOG2_ARRAY_LONG_INDEX_SCALE"), (0, u "I"), (2, u "U"), (0, u "Ljdk/internal/misc/Unsafe;"), (8, u "BIG_ENDIAN"), (0, u "Z"), (8, u "LOG2_BYTE_BIT_SIZE"), (4, u "LOG2_ARRAY_INT_INDEX_SCALE"), (54, u "JLA"), (0, u "Ljdk/internal/access/JavaLangAccess;"), (11, u "LOG2_ARRAY_BOOLEAN_INDEX_SCALE"), (9, u "LOG2_ARRAY_BYTE_INDEX_SCALE"), (5, u "LOG2_ARRAY_CHAR_INDEX_SCALE"), (5, u "LOG2_ARRAY_SHORT_INDEX_SCALE"), (18, u "LOG2_ARRAY_FLOAT_INDEX_SCALE"), (24, u "LOG2_ARRAY_DOUBLE_INDEX_SCALE"), (89, u "T_BOOLEAN"), (2, u "T_CHAR"), (1, u "T_FLOAT"), (1, u "T_DOUBLE"), (1, u "T_BYTE"), (1, u "T_SHORT"), (1, u "T_INT"), (1, u "T_LONG"), (1, u "SOFT_MAX_ARRAY_LENGTH")] 83

def k15m0 : Method := { name := "<init>", desc := "()V", sig := { parameters := [], returnType := none }, accessFlags := 2, code := none }
/-- jdk/internal/util/ArraysSupport -/
def k15 : Class := { plain "jdk/internal/util/ArraysSupport" (some 0) with
  accessFlags := 33
  interfaces := #[]
  cf := some (fileOf pool15 21 #[] #[{ accessFlags := 2, nameIndex := 9, descriptorIndex := 19, attributes := #[] }] 33 16 #[] #[{ accessFlags := 24, nameIndex := 28, descriptorIndex := 29, attributes := #[] }, { accessFlags := 26, nameIndex := 38, descriptorIndex := 39, attributes := #[] }, { accessFlags := 25, nameIndex := 121, descriptorIndex := 25, attributes := #[] }, { accessFlags := 25, nameIndex := 131, descriptorIndex := 25, attributes := #[] }, { accessFlags := 25, nameIndex := 137, descriptorIndex := 25, attributes := #[] }, { accessFlags := 25, nameIndex := 143, descriptorIndex := 25, attributes := #[] }, { accessFlags := 25, nameIndex := 53, descriptorIndex := 25, attributes := #[] }, { accessFlags := 25, nameIndex := 24, descriptorIndex := 25, attributes := #[] }, { accessFlags := 25, nameIndex := 162, descriptorIndex := 25, attributes := #[] }, { accessFlags := 25, nameIndex := 187, descriptorIndex := 25, attributes := #[] }, { accessFlags := 26, nameIndex := 48, descriptorIndex := 25, attributes := #[] }, { accessFlags := 25, nameIndex := 277, descriptorIndex := 25, attributes := #[] }, { accessFlags := 25, nameIndex := 280, descriptorIndex := 25, attributes := #[] }, { accessFlags := 25, nameIndex := 282, descriptorIndex := 25, attributes := #[] }, { accessFlags := 25, nameIndex := 284, descriptorIndex := 25, attributes := #[] }, { accessFlags := 25, nameIndex := 286, descriptorIndex := 25, attributes := #[] }, { accessFlags := 25, nameIndex := 288, descriptorIndex := 25, attributes := #[] }, { accessFlags := 25, nameIndex := 290, descriptorIndex := 25, attributes := #[] }, { accessFlags := 25, nameIndex := 292, descriptorIndex := 25, attributes := #[] }, { accessFlags := 26, nameIndex := 108, descriptorIndex := 109, attributes := #[] }, { accessFlags := 25, nameIndex := 294, descriptorIndex := 25, attributes := #[] }])
  fields := #[{ name := "U", type := (.object "jdk/internal/misc/Unsafe"), accessFlags := 24, slot := 0, constantValue := 0 }, { name := "BIG_ENDIAN", type := .boolean, accessFlags := 26, slot := 1, constantValue := 0 }, { name := "LOG2_ARRAY_BOOLEAN_INDEX_SCALE", type := .int, accessFlags := 25, slot := 2, constantValue := 0 }, { name := "LOG2_ARRAY_BYTE_INDEX_SCALE", type := .int, accessFlags := 25, slot := 3, constantValue := 0 }, { name := "LOG2_ARRAY_CHAR_INDEX_SCALE", type := .int, accessFlags := 25, slot := 4, constantValue := 0 }, { name := "LOG2_ARRAY_SHORT_INDEX_SCALE", type := .int, accessFlags := 25, slot := 5, constantValue := 0 }, { name := "LOG2_ARRAY_INT_INDEX_SCALE", type := .int, accessFlags := 25, slot := 6, constantValue := 0 }, { name := "LOG2_ARRAY_LONG_INDEX_SCALE", type := .int, accessFlags := 25, slot := 7, constantValue := 0 }, { name := "LOG2_ARRAY_FLOAT_INDEX_SCALE", type := .int, accessFlags := 25, slot := 8, constantValue := 0 }, { name := "LOG2_ARRAY_DOUBLE_INDEX_SCALE", type := .int, accessFlags := 25, slot := 9, constantValue := 0 }, { name := "LOG2_BYTE_BIT_SIZE", type := .int, accessFlags := 26, slot := 10, constantValue := 0 }, { name := "T_BOOLEAN", type := .int, accessFlags := 25, slot := 11, constantValue := 0 }, { name := "T_CHAR", type := .int, accessFlags := 25, slot := 12, constantValue := 0 }, { name := "T_FLOAT", type := .int, accessFlags := 25, slot := 13, constantValue := 0 }, { name := "T_DOUBLE", type := .int, accessFlags := 25, slot := 14, constantValue := 0 }, { name := "T_BYTE", type := .int, accessFlags := 25, slot := 15, constantValue := 0 }, { name := "T_SHORT", type := .int, accessFlags := 25, slot := 16, constantValue := 0 }, { name := "T_INT", type := .int, accessFlags := 25, slot := 17, constantValue := 0 }, { name := "T_LONG", type := .int, accessFlags := 25, slot := 18, constantValue := 0 }, { name := "JLA", type := (.object "jdk/internal/access/JavaLangAccess"), accessFlags := 26, slot := 19, constantValue := 0 }, { name := "SOFT_MAX_ARRAY_LENGTH", type := .int, accessFlags := 25, slot := 20, constantValue := 0 }]
  methods := #[k15m0]
  instanceTypes := #[]
  staticTypes := #[(.object "jdk/internal/misc/Unsafe"), .boolean, .int, .int, .int, .int, .int, .int, .int, .int, .int, .int, .int, .int, .int, .int, .int, .int, .int, (.object "jdk/internal/access/JavaLangAccess"), .int]
  resolved := Array.replicate 378 none
  statics := none }

def pool16 : Array CpInfo := pool [(1, u "java/lang/Cloneable"), (0, .class_ 1), (0, u "java/lang/Object"), (0, .class_ 3)] 3

/-- java/lang/Cloneable -/
def k16 : Class := { plain "java/lang/Cloneable" (some 0) with
  accessFlags := 1537
  interfaces := #[]
  cf := some (fileOf pool16 2 #[] #[] 1537 4 #[] #[])
  fields := #[]
  methods := #[]
  instanceTypes := #[]
  staticTypes := #[]
  resolved := Array.replicate 8 none
  statics := none }

/-- the primitive byte -/
def k17 : Class := { plain "byte" none with kind := .primitive 'B', accessFlags := 0x411 }
/-- [B -/
def k18 : Class := { plain "[B" (some 0) with kind := .array 17 .byte, interfaces := #[16, 2], accessFlags := 1041 }

/-- the primitive char -/
def k19 : Class := { plain "char" none with kind := .primitive 'C', accessFlags := 0x411 }
/-- [C -/
def k20 : Class := { plain "[C" (some 0) with kind := .array 19 .char, interfaces := #[16, 2], accessFlags := 1041 }

/-- the primitive int -/
def k21 : Class := { plain "int" none with kind := .primitive 'I', accessFlags := 0x411 }
/-- [I -/
def k22 : Class := { plain "[I" (some 0) with kind := .array 21 .int, interfaces := #[16, 2], accessFlags := 1041 }

def heap : Heap := #[{ cls := 7, slots := #[.long 0, .int 1, .null, .int 0, .null, .int 0, .int 0], vm := .statics 7 },
  { cls := 14, slots := #[.null, .null, .null], vm := .statics 14 }]
def classes : Array Class := #[k0, k1, k2, k3, k4, k5, k6, k7, k8, k9, k10, k11, k12, k13, k14, k15, k16, k17, k18, k19, k20, k21, k22]
def interned : List (Array UInt16 × Addr) := []
def slotsUsed : Nat := 10
def theMethod : MethodId := ⟨1, 1⟩
def args0 : Array Value := #[.int 5, .long 7, .int 9, .int 11, .int 13]
def aboutOver (below : List Frame) : State where
  vm := { classes := classes, interned := interned.toArray }
  heap := heap
  slotsUsed := slotsUsed
  threads := #[{ frames := .invoking theMethod args0 :: below }]
def below0 : List Frame := [.native { method := ⟨0, 0⟩, args := #[] }]
def about1 : State := aboutOver below0
def p0 : Program := .bare "" "" ""
def e0 : Env := launch0.env 0 0 0
theorem w_frames : about1.frames = Frame.invoking theMethod args0 :: below0 := rfl
set_option maxRecDepth 65536 in
theorem w_args : argsFit about1.vm theMethod args0 = true := by decide +kernel
set_option maxRecDepth 65536 in
theorem w_heap : heapFits about1 = true := by decide +kernel
set_option maxRecDepth 65536 in
theorem w_runnable : about1.curStatus? = some .runnable := by decide +kernel
set_option maxRecDepth 65536 in
theorem w_alone : about1.alone = true := by decide +kernel
set_option maxRecDepth 65536 in
theorem w_named : about1.methodNamed? x = some theMethod := by decide +kernel
set_option maxRecDepth 65536 in
theorem w_hears : about1.hears theMethod below0 = true := by decide +kernel
set_option maxRecDepth 65536 in
theorem w_ripe : about1.ripe theMethod args0 below0 = true := by decide +kernel
theorem w_running : about1.status = .running := rfl
set_option maxRecDepth 65536 in
theorem w_room : about1.hasRoom e0.platform room_1 = true :=
  launch0.hasRoom_least _ room_1 (by decide +kernel) (by decide +kernel) (by decide +kernel) (by decide +kernel) (by decide +kernel) (by decide +kernel)
theorem allAtoms_all (ts : List Jvm.Cond) (a : Array Jvm.Value) (st : Jvm.State) : (allAtoms ts).before a st = ts.all (fun c => c.before a st) := by
  induction ts with
  | nil => rfl
  | cons c t ih =>
    show (Jvm.Cond.and c (allAtoms t)).before a st = _
    rw [Jvm.Cond.before_and, ih, List.all_cons]
def words1 : List Jvm.Cond := Jvm.Cond.code x code maxLocals ret :: tables_1
/-- a 'code' word, met by the world's own term for the bytes: nothing is compared byte by byte -/
theorem code_word {y : MethodName} {bytes : ByteArray} {mx : Nat} {rt : Option FieldType} {a : Array Value} {s : State} {m : MethodId} {meth : Method} {c : Code} (h1 : s.methodNamed? y = some m) (h2 : s.vm.method? m = some meth) (h3 : meth.code = some c) (h4 : c.code = bytes)
    (h5 : (c.maxLocals == mx && c.exceptionTable.isEmpty && decide (c.maxStack ≤ mostOperands) && decide (meth.sig.returnType = rt) && !meth.locks && decide (parseMethodDescriptor y.desc = some meth.sig)) = true) : (Jvm.Cond.code y bytes mx rt).before a s = true := by
  simp only [Bool.and_eq_true, beq_iff_eq, Bool.not_eq_true', decide_eq_true_eq] at h5
  obtain ⟨⟨⟨⟨⟨g1, g2⟩, g3⟩, g4⟩, g5⟩, g6⟩ := h5
  simp [Cond.before, Cond.holds, Cond.value, h1, h2, h3, h4, g1, g2, g3, g4, g5, g6]
def isCode : Jvm.Cond → Bool
  | .code _ _ _ _ => true
  | _ => false
theorem all_split {L : List Jvm.Cond} {P : Jvm.Cond → Bool} (h1 : L.all (fun c => isCode c || P c) = true) (h2 : ∀ c ∈ L.filter isCode, P c = true) : L.all P = true := by
  refine List.all_eq_true.mpr fun c hc => ?_
  have h := List.all_eq_true.mp h1 c hc
  rcases Bool.eq_false_or_eq_true (isCode c) with hi | hi
  · exact h2 c (List.mem_filter.mpr ⟨hc, hi⟩)
  · simpa [hi] using h
set_option maxRecDepth 65536 in
theorem w_c0 : (Jvm.Cond.code x code maxLocals ret).before args0 about1 = true := code_word (m := ⟨1, 1⟩) (meth := k1m1) (c := k1c1) (by decide +kernel) rfl rfl rfl (by decide +kernel)
set_option maxRecDepth 65536 in
theorem w_c1 : (Jvm.Cond.code ({ cls := "java/lang/String", name := "<init>", desc := "([C)V" } : Jvm.MethodName) jdk_42_method_3_code (2 : Nat) (Option.none : Option Jvm.ClassFile.FieldType)).before args0 about1 = true := code_word (m := ⟨7, 1⟩) (meth := k7m1) (c := k7c1) (by decide +kernel) rfl rfl rfl (by decide +kernel)
set_option maxRecDepth 65536 in
theorem w_c2 : (Jvm.Cond.code ({ cls := "java/lang/String", name := "<init>", desc := "([CIILjava/lang/Void;)V" } : Jvm.MethodName) jdk_42_method_149_code (6 : Nat) (Option.none : Option Jvm.ClassFile.FieldType)).before args0 about1 = true := code_word (m := ⟨7, 3⟩) (meth := k7m3) (c := k7c3) (by decide +kernel) rfl rfl rfl (by decide +kernel)
set_option maxRecDepth 65536 in
theorem w_c3 : (Jvm.Cond.code ({ cls := "java/lang/Object", name := "<init>", desc := "()V" } : Jvm.MethodName) object_method_1_code (1 : Nat) (Option.none : Option Jvm.ClassFile.FieldType)).before args0 about1 = true := code_word (m := ⟨0, 0⟩) (meth := k0m0) (c := k0c0) (by decide +kernel) rfl rfl rfl (by decide +kernel)
set_option maxRecDepth 65536 in
theorem w_c4 : (Jvm.Cond.code ({ cls := "java/lang/StringUTF16", name := "compress", desc := "([CII)[B" } : Jvm.MethodName) jdk_52_method_16_code (6 : Nat) (Option.some (Jvm.ClassFile.FieldType.array Jvm.ClassFile.FieldType.byte))).before args0 about1 = true := code_word (m := ⟨8, 2⟩) (meth := k8m2) (c := k8c2) (by decide +kernel) rfl rfl rfl (by decide +kernel)
set_option maxRecDepth 65536 in
theorem w_c5 : (Jvm.Cond.code ({ cls := "java/lang/StringUTF16", name := "compress", desc := "([CI[BII)I" } : Jvm.MethodName) jdk_52_method_21_code (7 : Nat) (Option.some Jvm.ClassFile.FieldType.int)).before args0 about1 = true := code_word (m := ⟨8, 3⟩) (meth := k8m3) (c := k8c3) (by decide +kernel) rfl rfl rfl (by decide +kernel)
set_option maxRecDepth 65536 in
theorem w_c6 : (Jvm.Cond.code ({ cls := "java/lang/StringUTF16", name := "coderFromArrayLen", desc := "([BI)B" } : Jvm.MethodName) jdk_52_method_15_code (2 : Nat) (Option.some Jvm.ClassFile.FieldType.byte)).before args0 about1 = true := code_word (m := ⟨8, 1⟩) (meth := k8m1) (c := k8c1) (by decide +kernel) rfl rfl rfl (by decide +kernel)
set_option maxRecDepth 65536 in
theorem w_c7 : (Jvm.Cond.code ({ cls := "com/example/palaute/palaute/ScoredDocument", name := "asPrinted", desc := "(Ljava/lang/String;D)Lcom/example/palaute/palaute/ScoredDocument;" } : Jvm.MethodName) prog_17_method_2_code (3 : Nat) (Option.some (Jvm.ClassFile.FieldType.object "com/example/palaute/palaute/ScoredDocument"))).before args0 about1 = true := code_word (m := ⟨9, 1⟩) (meth := k9m1) (c := k9c1) (by decide +kernel) rfl rfl rfl (by decide +kernel)
set_option maxRecDepth 65536 in
theorem w_c8 : (Jvm.Cond.code ({ cls := "java/lang/Math", name := "round", desc := "(D)J" } : Jvm.MethodName) jdk_29_method_22_code (10 : Nat) (Option.some Jvm.ClassFile.FieldType.long)).before args0 about1 = true := code_word (m := ⟨10, 1⟩) (meth := k10m1) (c := k10c1) (by decide +kernel) rfl rfl rfl (by decide +kernel)
set_option maxRecDepth 65536 in
theorem w_c9 : (Jvm.Cond.code ({ cls := "com/example/palaute/palaute/ScoredDocument", name := "<init>", desc := "(Ljava/lang/String;D)V" } : Jvm.MethodName) prog_17_method_1_code (4 : Nat) (Option.none : Option Jvm.ClassFile.FieldType)).before args0 about1 = true := code_word (m := ⟨9, 0⟩) (meth := k9m0) (c := k9c0) (by decide +kernel) rfl rfl rfl (by decide +kernel)
set_option maxRecDepth 65536 in
theorem w_c10 : (Jvm.Cond.code ({ cls := "com/example/palaute/palaute/ScoredDocument", name := "score", desc := "()D" } : Jvm.MethodName) prog_17_method_4_code (1 : Nat) (Option.some Jvm.ClassFile.FieldType.double)).before args0 about1 = true := code_word (m := ⟨9, 3⟩) (meth := k9m3) (c := k9c3) (by decide +kernel) rfl rfl rfl (by decide +kernel)
set_option maxRecDepth 65536 in
theorem w_c11 : (Jvm.Cond.code ({ cls := "com/example/palaute/palaute/ScoredDocument", name := "number", desc := "()Ljava/lang/String;" } : Jvm.MethodName) prog_17_method_3_code (1 : Nat) (Option.some (Jvm.ClassFile.FieldType.object "java/lang/String"))).before args0 about1 = true := code_word (m := ⟨9, 2⟩) (meth := k9m2) (c := k9c2) (by decide +kernel) rfl rfl rfl (by decide +kernel)
set_option maxRecDepth 65536 in
theorem w_c12 : (Jvm.Cond.code ({ cls := "java/lang/String", name := "equals", desc := "(Ljava/lang/Object;)Z" } : Jvm.MethodName) jdk_42_method_66_code (3 : Nat) (Option.some Jvm.ClassFile.FieldType.boolean)).before args0 about1 = true := code_word (m := ⟨7, 2⟩) (meth := k7m2) (c := k7c2) (by decide +kernel) rfl rfl rfl (by decide +kernel)
def codes1 : List Jvm.Cond := [Jvm.Cond.code x code maxLocals ret, Jvm.Cond.code ({ cls := "java/lang/String", name := "<init>", desc := "([C)V" } : Jvm.MethodName) jdk_42_method_3_code (2 : Nat) (Option.none : Option Jvm.ClassFile.FieldType), Jvm.Cond.code ({ cls := "java/lang/String", name := "<init>", desc := "([CIILjava/lang/Void;)V" } : Jvm.MethodName) jdk_42_method_149_code (6 : Nat) (Option.none : Option Jvm.ClassFile.FieldType), Jvm.Cond.code ({ cls := "java/lang/Object", name := "<init>", desc := "()V" } : Jvm.MethodName) object_method_1_code (1 : Nat) (Option.none : Option Jvm.ClassFile.FieldType), Jvm.Cond.code ({ cls := "java/lang/StringUTF16", name := "compress", desc := "([CII)[B" } : Jvm.MethodName) jdk_52_method_16_code (6 : Nat) (Option.some (Jvm.ClassFile.FieldType.array Jvm.ClassFile.FieldType.byte)), Jvm.Cond.code ({ cls := "java/lang/StringUTF16", name := "compress", desc := "([CI[BII)I" } : Jvm.MethodName) jdk_52_method_21_code (7 : Nat) (Option.some Jvm.ClassFile.FieldType.int), Jvm.Cond.code ({ cls := "java/lang/StringUTF16", name := "coderFromArrayLen", desc := "([BI)B" } : Jvm.MethodName) jdk_52_method_15_code (2 : Nat) (Option.some Jvm.ClassFile.FieldType.byte), Jvm.Cond.code ({ cls := "com/example/palaute/palaute/ScoredDocument", name := "asPrinted", desc := "(Ljava/lang/String;D)Lcom/example/palaute/palaute/ScoredDocument;" } : Jvm.MethodName) prog_17_method_2_code (3 : Nat) (Option.some (Jvm.ClassFile.FieldType.object "com/example/palaute/palaute/ScoredDocument")), Jvm.Cond.code ({ cls := "java/lang/Math", name := "round", desc := "(D)J" } : Jvm.MethodName) jdk_29_method_22_code (10 : Nat) (Option.some Jvm.ClassFile.FieldType.long), Jvm.Cond.code ({ cls := "com/example/palaute/palaute/ScoredDocument", name := "<init>", desc := "(Ljava/lang/String;D)V" } : Jvm.MethodName) prog_17_method_1_code (4 : Nat) (Option.none : Option Jvm.ClassFile.FieldType), Jvm.Cond.code ({ cls := "com/example/palaute/palaute/ScoredDocument", name := "score", desc := "()D" } : Jvm.MethodName) prog_17_method_4_code (1 : Nat) (Option.some Jvm.ClassFile.FieldType.double), Jvm.Cond.code ({ cls := "com/example/palaute/palaute/ScoredDocument", name := "number", desc := "()Ljava/lang/String;" } : Jvm.MethodName) prog_17_method_3_code (1 : Nat) (Option.some (Jvm.ClassFile.FieldType.object "java/lang/String")), Jvm.Cond.code ({ cls := "java/lang/String", name := "equals", desc := "(Ljava/lang/Object;)Z" } : Jvm.MethodName) jdk_42_method_66_code (3 : Nat) (Option.some Jvm.ClassFile.FieldType.boolean)]
set_option maxRecDepth 65536 in
theorem codes_eq : words1.filter isCode = codes1 := rfl
theorem w_codes : ∀ c ∈ words1.filter isCode, c.before args0 about1 = true := by
  rw [codes_eq]
  intro c hc
  simp only [codes1, List.mem_cons, List.not_mem_nil, or_false] at hc
  rcases hc with rfl | rfl | rfl | rfl | rfl | rfl | rfl | rfl | rfl | rfl | rfl | rfl | rfl
  · exact w_c0
  · exact w_c1
  · exact w_c2
  · exact w_c3
  · exact w_c4
  · exact w_c5
  · exact w_c6
  · exact w_c7
  · exact w_c8
  · exact w_c9
  · exact w_c10
  · exact w_c11
  · exact w_c12
set_option maxRecDepth 65536 in
theorem w_t1 : (words1.take 24).all (fun c => isCode c || c.before args0 about1) = true := by decide +kernel
set_option maxRecDepth 65536 in
theorem w_t2 : ((words1.drop 24).take 24).all (fun c => isCode c || c.before args0 about1) = true := by decide +kernel
set_option maxRecDepth 65536 in
theorem w_t3 : (((words1.drop 24).drop 24).take 24).all (fun c => isCode c || c.before args0 about1) = true := by decide +kernel
set_option maxRecDepth 65536 in
theorem w_t4 : (((words1.drop 24).drop 24).drop 24).all (fun c => isCode c || c.before args0 about1) = true := by decide +kernel
theorem w_tables : (allAtoms (Jvm.Cond.code x code maxLocals ret :: tables_1)).before args0 about1 = true := by
  rw [allAtoms_all]
  show words1.all (fun c => c.before args0 about1) = true
  refine all_split ?_ w_codes
  rw [← List.take_append_drop 24 words1, List.all_append, w_t1, ← List.take_append_drop 24 (words1.drop 24), List.all_append, w_t2, ← List.take_append_drop 24 ((words1.drop 24).drop 24), List.all_append, w_t3, w_t4]
  rfl
set_option maxRecDepth 65536 in
theorem w_rest : rest_1_c.before args0 about1 = true := by decide +kernel
set_option maxRecDepth 65536 in
theorem w_case : (Jvm.Cond.and given_1 narrow_1).before args0 about1 = true := by decide +kernel
theorem w_applies : (headSpec (Jvm.Cond.code x code maxLocals ret :: tables_1) room_1).applies x e0.platform about1 = true :=
  (Spec.applies_iff w_frames).mpr ⟨w_running, w_runnable, w_alone, w_named, w_hears, w_ripe, w_room, w_tables⟩
theorem atStart : AtStart classFile x code maxLocals ret World_1 tables_1 room_1 Calls_1 rest_1 Pre_1 launch0 p0 e0 about1 theMethod args0 below0 :=
  ⟨lists_1, trivial, launch0.admits_env _ _ _, launch0.least_env, fairChoices_fair.cas, fairChoices_fair.clock, w_frames, w_args, w_heap, w_applies, trivial, w_rest, w_case⟩
end start1
theorem witness_1 : WitnessClaimed_1 := ⟨start1.p0, start1.e0, start1.about1, start1.theMethod, start1.args0, start1.below0, start1.atStart⟩
end Jvm.Pilot.@@N@@
