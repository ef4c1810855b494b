import JvmDerived
import JvmDerived.Pilot.@@N@@Statement
import JvmDerived.Pilot.@@N@@Code
set_option linter.unusedVariables false
set_option linter.unusedSimpArgs false
namespace Jvm.OwnKit
open Sem ClassFile Op Lib Jvm.Stand Jvm.Free Jvm.LawKit Jvm.RoadKit
/-- from the state A the run comes to an end as the contract asks it -/
def OwnEnd (p : Program) (e : Env) (below : List Frame) (s : State) (Q : Option Value → Heap → List Loc → Prop) (kc ks : Nat) (A : State) : Prop :=
  ∃ (s₂ : State) (o : Outcome), Steps p.tables e below A s₂ ∧ s₂.status = .running ∧ Ended s₂ below o ∧ ∃ v L, o = .returned v ∧ Q v s₂.heap L ∧ FrameEnd s o s₂ L kc ks
section Own
variable {p : Program} {l : Launch} {e : Env} {R : Room} {s : State} {m : MethodId} {args : Array Value} {below : List Frame} {meth : Method} {c : Code} {T : State} {locs : List Loc} {cells slots : Nat} {Z : State} {a0 : Array Value} {h : Heap}
variable {Q : Option Value → Heap → List Loc → Prop} {kc ks : Nat}
theorem go {A B : State} (k : ∀ t, Steps p.tables e below B t → Steps p.tables e below A t) (F : OwnEnd p e below s Q kc ks B) : OwnEnd p e below s Q kc ks A := by
  obtain ⟨s₂, o, h1, r⟩ := F; exact ⟨s₂, o, k _ h1, r⟩
theorem up {cells' slots' : Nat} (X : Stand p l e R s m args below meth c T locs cells slots) (h1 : cells ≤ cells') (h2 : slots ≤ slots') : Stand p l e R s m args below meth c T locs cells' slots' :=
  ⟨X.admits, X.cas, X.clock, X.frames, X.room, X.hears, X.method, X.code, X.here, X.tail, X.warmed, X.limits, X.bytes, X.same.mono h1 h2⟩
theorem done (X : Stand p l e R s m args below meth c T locs cells slots) (hlk : meth.locks = false) {v : Option Value} (hv : meth.sig.returnType = none → v = none) {A : State}
    (st : ∀ fs, (∀ (f : JFrame) (acts : List Action), f.method = m → f.locked = none → f.entered = [] → (doReturn e (T.setTop f) acts v).1 = T.setFrames fs) → Steps p.tables e below A (T.setFrames fs))
    (eT : T.heap = h) (hk : cells ≤ kc) (hs : slots ≤ ks) (hQ : Q v h locs) : OwnEnd p e below s Q kc ks A := by
  obtain ⟨fs, hr, hrun, hended, hW, hsame⟩ := X.leave (v := v) hv hlk
  exact ⟨_, _, st fs hr, hrun, hended, _, _, rfl, (by show Q v T.heap locs; rw [eT]; exact hQ), ⟨_, rfl⟩, hW, hsame.mono hk hs⟩
theorem endI (X : Stand p l e R s m args below meth c T locs cells slots) (hx : p.tables.exec = Jvm.exec) (hlk : meth.locks = false) (hret : meth.sig.returnType = some .int) {pc : Nat} {Ls : Array Slot} {z : Int32} {rest : List Value} (hd : decode c.code pc = .ok (.ireturn, 1))
    (eT : T.heap = h) (hk : cells ≤ kc) (hs : slots ≤ ks) (hQ : Q (some (.int z)) h locs) : OwnEnd p e below s Q kc ks (T.setTop (mkF m pc Ls (.int z :: rest))) :=
  done X hlk (fun q => by rw [hret] at q; cases q) (fun fs hr => retOut X hx (w := .int z) hret rfl (Or.inl ⟨rfl, Or.inl rfl, z, rfl⟩) hd hr) eT hk hs hQ
theorem endN (X : Stand p l e R s m args below meth c T locs cells slots) (hx : p.tables.exec = Jvm.exec) (hlk : meth.locks = false) {t : FieldType} (ht : t = .boolean ∨ t = .byte ∨ t = .char ∨ t = .short) (hret : meth.sig.returnType = some t) {pc : Nat} {Ls : Array Slot} {z : Int32} {rest : List Value} (hd : decode c.code pc = .ok (.ireturn, 1))
    (eT : T.heap = h) (hk : cells ≤ kc) (hs : slots ≤ ks) (hQ : Q (some (.int (nar t z))) h locs) : OwnEnd p e below s Q kc ks (T.setTop (mkF m pc Ls (.int z :: rest))) :=
  done X hlk (fun q => by rw [hret] at q; cases q) (fun fs hr => retN X hx hret ht hd hr) eT hk hs hQ
theorem endJ (X : Stand p l e R s m args below meth c T locs cells slots) (hx : p.tables.exec = Jvm.exec) (hlk : meth.locks = false) (hret : meth.sig.returnType = some .long) {pc : Nat} {Ls : Array Slot} {z : Int64} {rest : List Value} (hd : decode c.code pc = .ok (.lreturn, 1))
    (eT : T.heap = h) (hk : cells ≤ kc) (hs : slots ≤ ks) (hQ : Q (some (.long z)) h locs) : OwnEnd p e below s Q kc ks (T.setTop (mkF m pc Ls (.long z :: rest))) :=
  done X hlk (fun q => by rw [hret] at q; cases q) (fun fs hr => retOut X hx (w := .long z) hret rfl (Or.inr (Or.inl ⟨rfl, rfl, z, rfl⟩)) hd hr) eT hk hs hQ
theorem endA (X : Stand p l e R s m args below meth c T locs cells slots) (hx : p.tables.exec = Jvm.exec) (hlk : meth.locks = false) {t : FieldType} (hret : meth.sig.returnType = some t) (ht : t.isReference = true) {pc : Nat} {Ls : Array Slot} {w : Value} (hw : w.isRef = true) {rest : List Value} (hd : decode c.code pc = .ok (.areturn, 1))
    (eT : T.heap = h) (hk : cells ≤ kc) (hs : slots ≤ ks) (hQ : Q (some w) h locs) : OwnEnd p e below s Q kc ks (T.setTop (mkF m pc Ls (w :: rest))) :=
  done X hlk (fun q => by rw [hret] at q; cases q) (fun fs hr => retOut X hx (w := w) hret (by cases t <;> first | rfl | cases ht) (Or.inr (Or.inr (Or.inr (Or.inr ⟨rfl, ht, hw⟩)))) hd hr) eT hk hs hQ
theorem endV (X : Stand p l e R s m args below meth c T locs cells slots) (hx : p.tables.exec = Jvm.exec) (hlk : meth.locks = false) (hret : meth.sig.returnType = none) {pc : Nat} {Ls : Array Slot} (hd : decode c.code pc = .ok (.return_, 1))
    (eT : T.heap = h) (hk : cells ≤ kc) (hs : slots ≤ ks) (hQ : Q none h locs) : OwnEnd p e below s Q kc ks (T.setTop (mkF m pc Ls [])) :=
  done X hlk (fun _ => rfl) (fun fs hr => X.returnOut hx hret hd hr) eT hk hs hQ
theorem nar01 {P : Prop} [Decidable P] : nar .boolean (if P then (1 : Int32) else 0) = if P then (1 : Int32) else 0 := by split <;> rfl
section Call
variable {own : String} {index : Nat} {y z : MethodName} {bytes : ByteArray} {maxL W : Nat} {ret : Option FieldType} {rm : Room} {as' : Array Value} {Qc : Option Value → Heap → List Loc → Prop} {g : JFrame} {argsL rest : List Value}
theorem callStat (X : Stand p l e R s m args below meth c T locs cells slots) (hx : p.tables.exec = Jvm.exec) (hZ : Z.Warmed39 s.vm) (hown : s.vm.findClass own = some m.cls)
    (w1 : (Cond.methodLink own index y).before a0 Z = true) (w2 : (Cond.static y).before a0 Z = true) (w3 : (Cond.initialized y.cls).before a0 Z = true) (w4 : (Cond.code y bytes maxL ret).before a0 Z = true)
    (hy : y.cls ≠ "java/lang/invoke/MethodHandle" ∧ y.cls ≠ "java/lang/invoke/VarHandle")
    (hM : MetFree l y (head1 [Cond.code y bytes maxL ret] rm) (fun a U => a = as' ∧ Z.Warmed39 U.vm ∧ U.heap = h) (fun _ _ _ _ _ => True) (fun _ U o U' => ∃ v L, o = .returned v ∧ Qc v U'.heap L ∧ FrameEnd U o U' L rm.cells rm.slots))
    (hf : rm.frames + 1 ≤ R.frames) (hl : W + (maxL + 11) + rm.locals ≤ R.locals) (eT : T.heap = h) (hg : g.method = m) (hsize : g.locals.size = c.maxLocals) (ha : argsL.toArray = as')
    (hlen : ∀ sig, parseMethodDescriptor y.desc = some sig → argsL.length = sig.parameters.length) (hstack : g.stack = argsL.reverse ++ rest) (hW : 2 * g.monitorRoom + (rest.map fun v => v.category).sum ≤ W) (hdg : decode c.code g.pc = .ok (.invokestatic index, 3))
    (hc : cells + rm.cells ≤ R.cells) (hs : slots + rm.slots ≤ R.slots) :
    ∃ (v : Option Value) (T' : State) (L : List Loc), Stand p l e R s m args below meth c T' (locs ++ L) (cells + rm.cells) (slots + rm.slots) ∧ Qc v T'.heap L ∧ ∀ target, Steps p.tables e below (T'.setTop { g with pc := g.pc + 3, stack := v.toList ++ rest }) target → Steps p.tables e below (T.setTop g) target := by
  obtain ⟨v, _, ⟨T', L', k', n'⟩, -, X', ⟨L, hQ, l1, l2, l3⟩, st⟩ := Jvm.LawKit.callS X hx hown (mvT hZ w1) (mvT hZ w2) (mvT hZ w3) (mvT hZ w4) hy (backOf (W := W) hM hZ w4 w3 hf hl) (g := g) hg hsize (argsL := argsL) (rest := rest) hlen hstack hW hdg (fun _ _ => ⟨ha, eT, hc, hs⟩)
  dsimp only [Pt.U, Pt.locs, Pt.cells, Pt.slots] at X' l1 l2 l3 st hQ
  subst l1 l2 l3
  exact ⟨v, T', L, X', hQ, st⟩
theorem callInit (X : Stand p l e R s m args below meth c T locs cells slots) (hx : p.tables.exec = Jvm.exec) (hZ : Z.Warmed39 s.vm) (hown : s.vm.findClass own = some m.cls) (hy1 : y.name = "<init>")
    (w1 : (Cond.methodLink own index y).before a0 Z = true) (w2 : (Cond.instanceMethod y).before a0 Z = true) (w3 : (Cond.initialized y.cls).before a0 Z = true) (w4 : (Cond.code y bytes maxL none).before a0 Z = true)
    (hy : y.cls ≠ "java/lang/invoke/MethodHandle" ∧ y.cls ≠ "java/lang/invoke/VarHandle")
    (hM : MetFree l y (head1 [Cond.code y bytes maxL none] rm) (fun a U => a = as' ∧ Z.Warmed39 U.vm ∧ U.heap = h) (fun _ _ _ _ _ => True) (fun _ U o U' => ∃ v L, o = .returned v ∧ Qc v U'.heap L ∧ FrameEnd U o U' L rm.cells rm.slots))
    (hf : rm.frames + 1 ≤ R.frames) (hl : W + (maxL + 11) + rm.locals ≤ R.locals) (eT : T.heap = h) (hg : g.method = m) (hsize : g.locals.size = c.maxLocals) {a : Addr} (ha : (Value.ref a :: argsL).toArray = as')
    (hlen : ∀ sig, parseMethodDescriptor y.desc = some sig → argsL.length = sig.parameters.length) (hstack : g.stack = argsL.reverse ++ .ref a :: rest) (hW : 2 * g.monitorRoom + (rest.map fun v => v.category).sum ≤ W) (hdg : decode c.code g.pc = .ok (.invokespecial index, 3))
    (hc : cells + rm.cells ≤ R.cells) (hs : slots + rm.slots ≤ R.slots) :
    ∃ (v : Option Value) (T' : State) (L : List Loc), Stand p l e R s m args below meth c T' (locs ++ L) (cells + rm.cells) (slots + rm.slots) ∧ Qc v T'.heap L ∧ ∀ target, Steps p.tables e below (T'.setTop { g with pc := g.pc + 3, stack := v.toList ++ rest }) target → Steps p.tables e below (T.setTop g) target := by
  obtain ⟨v, _, ⟨T', L', k', n'⟩, -, X', ⟨L, hQ, l1, l2, l3⟩, st⟩ := X.specialBack hx hy1 hown (mvT hZ w1) (mvT hZ w2) (mvT hZ w4) hy (backOf (W := W) hM hZ w4 w3 hf hl) (g := g) hg hsize (Steps.refl _) (a := a) (argsL := argsL) (rest := rest) hlen hstack hW hdg (fun _ _ => ⟨ha, eT, hc, hs⟩)
  dsimp only [Pt.U, Pt.locs, Pt.cells, Pt.slots] at X' l1 l2 l3 st hQ
  subst l1 l2 l3
  exact ⟨v, T', L, X', hQ, fun _ k => st.trans k⟩
theorem callVirt (X : Stand p l e R s m args below meth c T locs cells slots) (hx : p.tables.exec = Jvm.exec) (hZ : Z.Warmed39 s.vm) (hown : s.vm.findClass own = some m.cls) {C : String}
    (w1 : (Cond.methodLink own index y).before a0 Z = true) (w2 : (Cond.declares y).before a0 Z = true) (hnf : NotFace s y) (w3 : (Cond.selects C y z).before a0 Z = true) (w5 : (Cond.instanceMethod z).before a0 Z = true) (w6 : (Cond.initialized z.cls).before a0 Z = true) (w4 : (Cond.code z bytes maxL ret).before a0 Z = true)
    (hy : y.cls ≠ "java/lang/invoke/MethodHandle" ∧ y.cls ≠ "java/lang/invoke/VarHandle")
    (hM : MetFree l z (head1 [Cond.code z bytes maxL ret] rm) (fun a U => a = as' ∧ Z.Warmed39 U.vm ∧ U.heap = h) (fun _ _ _ _ _ => True) (fun _ U o U' => ∃ v L, o = .returned v ∧ Qc v U'.heap L ∧ FrameEnd U o U' L rm.cells rm.slots))
    (hf : rm.frames + 1 ≤ R.frames) (hl : W + (maxL + 11) + rm.locals ≤ R.locals) (eT : T.heap = h) {a : Addr} (E : Exa Z h a C) (hg : g.method = m) (hsize : g.locals.size = c.maxLocals) (ha : (Value.ref a :: argsL).toArray = as')
    (hlen : ∀ sig, parseMethodDescriptor y.desc = some sig → argsL.length = sig.parameters.length) (hstack : g.stack = argsL.reverse ++ .ref a :: rest) (hW : 2 * g.monitorRoom + (rest.map fun v => v.category).sum ≤ W) (hdg : decode c.code g.pc = .ok (.invokevirtual index, 3))
    (hc : cells + rm.cells ≤ R.cells) (hs : slots + rm.slots ≤ R.slots) :
    ∃ (v : Option Value) (T' : State) (L : List Loc), Stand p l e R s m args below meth c T' (locs ++ L) (cells + rm.cells) (slots + rm.slots) ∧ Qc v T'.heap L ∧ ∀ target, Steps p.tables e below (T'.setTop { g with pc := g.pc + 3, stack := v.toList ++ rest }) target → Steps p.tables e below (T.setTop g) target := by
  obtain ⟨cq, kq, q1, q2, q3⟩ := isOf hZ eT E
  obtain ⟨v, _, ⟨T', L', k', n'⟩, -, X', ⟨L, hQ, l1, l2, l3⟩, st⟩ := X.virtualBack hx hown (mvT hZ w1) (mvT hZ w2) hnf (mvT hZ w3) (mvT hZ w5) hy (backOf (W := W) hM hZ w4 w6 hf hl) q1 q3 (g := g) hg hsize (Steps.refl _) (argsL := argsL) (rest := rest) hlen hstack hW hdg (fun _ _ => ⟨ha, eT, hc, hs⟩)
  dsimp only [Pt.U, Pt.locs, Pt.cells, Pt.slots] at X' l1 l2 l3 st hQ
  subst l1 l2 l3
  exact ⟨v, T', L, X', hQ, fun _ k => st.trans k⟩
theorem callUp (X : Stand p l e R s m args below meth c T locs cells slots) (hx : p.tables.exec = Jvm.exec) (hZ : Z.Warmed39 s.vm) (hown : s.vm.findClass own = some m.cls) {C owner : String}
    (w1 : (Cond.methodLink own index y).before a0 Z = true) (w0 : (Cond.sameMethod y.cls owner y.name y.desc).before a0 Z = true) (w2 : (Cond.declares ⟨owner, y.name, y.desc⟩).before a0 Z = true) (ho : owner ≠ "java/lang/invoke/MethodHandle" ∧ owner ≠ "java/lang/invoke/VarHandle")
    (w3 : (Cond.selects C y z).before a0 Z = true) (w5 : (Cond.instanceMethod z).before a0 Z = true) (w6 : (Cond.initialized z.cls).before a0 Z = true) (w4 : (Cond.code z bytes maxL ret).before a0 Z = true)
    (hM : MetFree l z (head1 [Cond.code z bytes maxL ret] rm) (fun a U => a = as' ∧ Z.Warmed39 U.vm ∧ U.heap = h) (fun _ _ _ _ _ => True) (fun _ U o U' => ∃ v L, o = .returned v ∧ Qc v U'.heap L ∧ FrameEnd U o U' L rm.cells rm.slots))
    (hf : rm.frames + 1 ≤ R.frames) (hl : W + (maxL + 11) + rm.locals ≤ R.locals) (eT : T.heap = h) {a : Addr} (E : Exa Z h a C) (hg : g.method = m) (hsize : g.locals.size = c.maxLocals) (ha : (Value.ref a :: argsL).toArray = as')
    (hlen : ∀ sig, parseMethodDescriptor y.desc = some sig → argsL.length = sig.parameters.length) (hstack : g.stack = argsL.reverse ++ .ref a :: rest) (hW : 2 * g.monitorRoom + (rest.map fun v => v.category).sum ≤ W) (hdg : decode c.code g.pc = .ok (.invokevirtual index, 3))
    (hc : cells + rm.cells ≤ R.cells) (hs : slots + rm.slots ≤ R.slots) :
    ∃ (v : Option Value) (T' : State) (L : List Loc), Stand p l e R s m args below meth c T' (locs ++ L) (cells + rm.cells) (slots + rm.slots) ∧ Qc v T'.heap L ∧ ∀ target, Steps p.tables e below (T'.setTop { g with pc := g.pc + 3, stack := v.toList ++ rest }) target → Steps p.tables e below (T.setTop g) target := by
  obtain ⟨cq, kq, q1, q2, q3⟩ := isOf hZ eT E
  obtain ⟨v, _, ⟨T', L', k', n'⟩, -, X', ⟨L, hQ, l1, l2, l3⟩, st⟩ := X.virtualBackUp hx hown (mvT hZ w1) (mvT hZ w0) (mvT hZ w2) ho (mvT hZ w3) (mvT hZ w5) (backOf (W := W) hM hZ w4 w6 hf hl) q1 q3 (g := g) hg hsize (Steps.refl _) (argsL := argsL) (rest := rest) hlen hstack hW hdg (fun _ _ => ⟨ha, eT, hc, hs⟩)
  dsimp only [Pt.U, Pt.locs, Pt.cells, Pt.slots] at X' l1 l2 l3 st hQ
  subst l1 l2 l3
  exact ⟨v, T', L, X', hQ, fun _ k => st.trans k⟩
theorem callPriv (X : Stand p l e R s m args below meth c T locs cells slots) (hx : p.tables.exec = Jvm.exec) (hZ : Z.Warmed39 s.vm) (hown : s.vm.findClass own = some m.cls) {C : String} {kk : Nat}
    (w1 : (Cond.methodLink own index y).before a0 Z = true) (w2 : (Cond.instanceMethod y).before a0 Z = true) (wp : (Cond.privateMethod y).before a0 Z = true) (wi : (Cond.instantiable y.cls kk).before a0 Z = true) (w6 : (Cond.initialized y.cls).before a0 Z = true) (w4 : (Cond.code y bytes maxL ret).before a0 Z = true)
    (hy : y.cls ≠ "java/lang/invoke/MethodHandle" ∧ y.cls ≠ "java/lang/invoke/VarHandle")
    (hM : MetFree l y (head1 [Cond.code y bytes maxL ret] rm) (fun a U => a = as' ∧ Z.Warmed39 U.vm ∧ U.heap = h) (fun _ _ _ _ _ => True) (fun _ U o U' => ∃ v L, o = .returned v ∧ Qc v U'.heap L ∧ FrameEnd U o U' L rm.cells rm.slots))
    (hf : rm.frames + 1 ≤ R.frames) (hl : W + (maxL + 11) + rm.locals ≤ R.locals) (eT : T.heap = h) {a : Addr} (E : Exa Z h a C) (hg : g.method = m) (hsize : g.locals.size = c.maxLocals) (ha : (Value.ref a :: argsL).toArray = as')
    (hlen : ∀ sig, parseMethodDescriptor y.desc = some sig → argsL.length = sig.parameters.length) (hstack : g.stack = argsL.reverse ++ .ref a :: rest) (hW : 2 * g.monitorRoom + (rest.map fun v => v.category).sum ≤ W) (hdg : decode c.code g.pc = .ok (.invokevirtual index, 3))
    (hc : cells + rm.cells ≤ R.cells) (hs : slots + rm.slots ≤ R.slots) :
    ∃ (v : Option Value) (T' : State) (L : List Loc), Stand p l e R s m args below meth c T' (locs ++ L) (cells + rm.cells) (slots + rm.slots) ∧ Qc v T'.heap L ∧ ∀ target, Steps p.tables e below (T'.setTop { g with pc := g.pc + 3, stack := v.toList ++ rest }) target → Steps p.tables e below (T.setTop g) target := by
  obtain ⟨c2, k2, i1, i2, -, i4, -⟩ := Cond.instantiable_spec (mvT hZ wi (args := args))
  simp only [Bool.or_eq_false_iff] at i4
  have hpriv := Cond.privateMethod_at (mvP hZ wp (args := args))
  have hsel := selects_self_of_private (args := args) i1 i2 i4.1 hpriv (mvT hZ w2) hy
  obtain ⟨cl, q1, q2⟩ := E.cell
  obtain ⟨v, _, ⟨T', L', k', n'⟩, -, X', ⟨L, hQ, l1, l2, l3⟩, st⟩ := X.privateBack hx hown (mvT hZ w1) (mvT hZ w2) hsel hpriv (mvT hZ w4) hy (backOf (W := W) hM hZ w4 w6 hf hl) (g := g) hg hsize (Steps.refl _) (a := a) (cell := cl) (by rw [eT]; exact q1) q2 (argsL := argsL) (rest := rest) hlen hstack hW hdg (fun _ _ => ⟨ha, eT, hc, hs⟩)
  dsimp only [Pt.U, Pt.locs, Pt.cells, Pt.slots] at X' l1 l2 l3 st hQ
  subst l1 l2 l3
  exact ⟨v, T', L, X', hQ, fun _ k => st.trans k⟩
theorem callFace (X : Stand p l e R s m args below meth c T locs cells slots) (hx : p.tables.exec = Jvm.exec) (hZ : Z.Warmed39 s.vm) (hown : s.vm.findClass own = some m.cls) {C : String} {count : Nat}
    (w1 : (Cond.methodLink own index y).before a0 Z = true) (w2 : (Cond.declares y).before a0 Z = true) (wf : (Cond.interfaceMethod y.cls y.cls y.name y.desc).before args s = true) (w3 : (Cond.selects C y z).before a0 Z = true) (w5 : (Cond.instanceMethod z).before a0 Z = true) (wu : (Cond.publicMethod z).before a0 Z = true) (wh : (Cond.unhidden C y.name y.desc).before a0 Z = true) (wk : (Cond.castable C y.cls).before a0 Z = true) (w6 : (Cond.initialized z.cls).before a0 Z = true) (w4 : (Cond.code z bytes maxL ret).before a0 Z = true)
    (hy : y.cls ≠ "java/lang/invoke/MethodHandle" ∧ y.cls ≠ "java/lang/invoke/VarHandle")
    (hM : MetFree l z (head1 [Cond.code z bytes maxL ret] rm) (fun a U => a = as' ∧ Z.Warmed39 U.vm ∧ U.heap = h) (fun _ _ _ _ _ => True) (fun _ U o U' => ∃ v L, o = .returned v ∧ Qc v U'.heap L ∧ FrameEnd U o U' L rm.cells rm.slots))
    (hf : rm.frames + 1 ≤ R.frames) (hl : W + (maxL + 11) + rm.locals ≤ R.locals) (eT : T.heap = h) {a : Addr} (E : Exa Z h a C) (hg : g.method = m) (hsize : g.locals.size = c.maxLocals) (ha : (Value.ref a :: argsL).toArray = as')
    (hlen : ∀ sig, parseMethodDescriptor y.desc = some sig → argsL.length = sig.parameters.length) (hstack : g.stack = argsL.reverse ++ .ref a :: rest) (hW : 2 * g.monitorRoom + (rest.map fun v => v.category).sum ≤ W) (hdg : decode c.code g.pc = .ok (.invokeinterface index count, 5))
    (hc : cells + rm.cells ≤ R.cells) (hs : slots + rm.slots ≤ R.slots) :
    ∃ (v : Option Value) (T' : State) (L : List Loc), Stand p l e R s m args below meth c T' (locs ++ L) (cells + rm.cells) (slots + rm.slots) ∧ Qc v T'.heap L ∧ ∀ target, Steps p.tables e below (T'.setTop { g with pc := g.pc + 5, stack := v.toList ++ rest }) target → Steps p.tables e below (T.setTop g) target := by
  obtain ⟨cq, kq, q1, q2, q3⟩ := isOf hZ eT E
  obtain ⟨v, _, ⟨T', L', k', n'⟩, -, X', ⟨L, hQ, l1, l2, l3⟩, st⟩ := X.interfaceBack hx hown (mvT hZ w1) (mvT hZ w2) wf (mvT hZ w3) (mvT hZ w5) (mvT hZ wu) (mvT hZ wh) (mvT hZ wk) hy (backOf (W := W) hM hZ w4 w6 hf hl) q1 q2 q3 (g := g) hg hsize (Steps.refl _) (argsL := argsL) (rest := rest) hlen hstack hW hdg (fun _ _ => ⟨ha, eT, hc, hs⟩)
  dsimp only [Pt.U, Pt.locs, Pt.cells, Pt.slots] at X' l1 l2 l3 st hQ
  subst l1 l2 l3
  exact ⟨v, T', L, X', hQ, fun _ k => st.trans k⟩
end Call
/-- an object of C is none of K (K a class that can be made) -/
theorem NSroot {O K : String} {kk : Nat} (w : (Cond.noSuperclass O).before a0 Z = true) (wk : (Cond.instantiable K kk).before a0 Z = true) (hn : O ≠ K) : NS Z O K := by
  obtain ⟨c, k, h1, h2, h3, -, -⟩ := Cond.noSuperclass_spec w
  obtain ⟨t, kt, g1, -⟩ := Cond.instantiable_spec wk
  have ne := ids_ne h1 g1 hn
  refine ⟨c, t, h1, g1, fun fuel => ?_⟩
  cases fuel with
  | zero => rfl
  | succ f => simp [Vm.isSubclassAux, ne, h2, h3]
theorem NSno {C S K : String} {kk : Nat} (w : (Cond.superclass C S).before a0 Z = true) (wk : (Cond.instantiable K kk).before a0 Z = true) (n : NS Z C K) (hn : C ≠ K) : ∃ c t, Z.vm.findClass C = some c ∧ Z.vm.findClass K = some t ∧ Z.vm.assignable c t = false := by
  obtain ⟨c, t, h0, g0, n3⟩ := n
  obtain ⟨p, k, kp, h1, h2, h3, h4, h5, -, h7⟩ := Cond.superclass_spec h0 w
  obtain ⟨t', k', g1, g2, g5, g7, -⟩ := Cond.instantiable_spec wk
  cases g0.symm.trans g1
  simp only [Bool.or_eq_false_iff] at g7
  have ne := ids_ne h0 g0 hn
  refine ⟨c, t, h0, g0, ?_⟩
  show Z.vm.assignableAux (255 + 1) c t = false
  simp [Vm.assignableAux, ne, h2, g2, h5, g5, g7.1, Vm.isSubclass, n3]
end Own
end Jvm.OwnKit
namespace Jvm.Pilot.@@N@@
open Jvm Jvm.ClassFile Sem Op Lib Jvm.Free Jvm.Stand Jvm.LawKit Jvm.RoadKit Bundle Jvm.OwnKit Jvm.Pilot.@@N@@.Jvm.D

theorem own_bxL (q : Int64) (h1 : ¬ q < (-128 : Int64)) (h2 : ¬ (127 : Int64) < q) : ¬ ((q.toInt32) + (128 : Int32)) < 0 ∧ ((q.toInt32) + (128 : Int32)).toNatClampNeg < 256 := by
  have a1 := c_l2i q
  have a2 := c_iadd q.toInt32 128
  have a3 := rng32 q.toInt32
  have a4 := rng32 (q.toInt32 + 128)
  have a5 := rng64 q
  simp only [Int64.lt_iff_toInt_lt, Int32.lt_iff_toInt_lt, Int32.toNatClampNeg, Int64.reduceToInt, Int32.reduceToInt] at *
  omega
theorem own_bxI (q : Int32) (h1 : ¬ q < (-128 : Int32)) (h2 : ¬ (127 : Int32) < q) : ¬ (q + (128 : Int32)) < 0 ∧ (q + (128 : Int32)).toNatClampNeg < 256 := by
  have a2 := c_iadd q 128
  have a3 := rng32 q
  have a4 := rng32 (q + 128)
  simp only [Int32.lt_iff_toInt_lt, Int32.toNatClampNeg, Int32.reduceToInt] at *
  omega
theorem own_len {args : Array Value} {s : State} {t : Term} {a : Addr} {cc : Cell} {ty : FieldType} {k : Int32} (ht : t.eval args s none [] s = some (.ref a)) (A : Arr s s.heap a cc ty) (h : (Jvm.Cond.eq (Jvm.Term.length t) (Jvm.Term.int k)).value args s none s [] = some true) : cc.slots.size.toInt32 = k ∧ cc.slots.size < 2 ^ 31 := by
  obtain ⟨x, y, e1, e2, -, k2⟩ := cmp_v (Or.inl h)
  have e3 : y = .int k := (Option.some.inj e2).symm
  subst e3
  obtain ⟨z, rfl⟩ := k2
  have e4 : z = k := gotT (Cond.eq_ints e1 rfl) h
  subst e4
  have e5 := A.fin (Vm.Alike.refl _)
  simp only [Term.eval, ht, e5, Option.bind_eq_bind, Option.bind_some] at e1
  split at e1
  · rename_i hl
    exact ⟨Value.int.inj (Option.some.inj e1), hl⟩
  · cases e1
theorem own_all {args : Array Value} {s : State} {t : Term} {d : Jvm.Cond} {a : Addr} {cc : Cell} {ty : FieldType} {C : String} (ht : t.eval args s none [] s = some (.ref a)) (A : Arr s s.heap a cc ty)
    (h : (Jvm.Cond.all t (Jvm.Cond.and (Jvm.Cond.exactly (Jvm.Term.elem t (Jvm.Term.index 0)) C) d)).value args s none s [] = some true) (hs : cc.slots.size < 2 ^ 31) (ht' : ∀ i, t.eval args s none [i] s = some (.ref a)) : ∀ i, i < cc.slots.size → ∃ b, cc.slots[i]? = some (.ref b) ∧ Exa s s.heap b C := by
  intro i hi
  have h1 := (and_e (Cond.all_elim ht (A.fin (Vm.Alike.refl _)) h i hi)).1
  obtain ⟨b, hb⟩ := exa_v h1
  have hidx : (Jvm.Term.index 0).eval args s none [i] s = some (.int i.toInt32) := by simp [Term.eval]
  obtain ⟨-, e⟩ := elem_in hb (ht' i) hidx A.1
  have en : i.toInt32.toNatClampNeg = i := by simp only [Int32.toNatClampNeg, len_toInt (Nat.lt_trans hi hs)]; rfl
  rw [en] at e
  refine ⟨b, e, ?_⟩
  have hx' := beq_iff_eq.mpr h1
  obtain ⟨a', c', cell, k, e1, e2, e3, e4, e5, rfl, e7⟩ := Cond.exactly_spec (beq_iff_eq.mpr h1 : (Jvm.Cond.exactly (Jvm.Term.elem t (Jvm.Term.index 0)) C).holds args s none s [i] = true)
  cases hb.symm.trans e1
  exact ⟨cell, k, e3, e2, e4, e5, e7⟩

abbrev own_eq (f0 : Int64) (f1 : Int64) (f2 : Int64) (f3 : Int64) (f4 : Int32) (f5 : Int32) (f6 : Int32) (f7 : Int64) (f8 : Int32) (f9 : Int32) (f10 : Int64) (g0 : Int64) (g1 : Int64) (g2 : Int64) (g3 : Int64) (g4 : Int32) (g5 : Int32) (g6 : Int32) (g7 : Int64) (g8 : Int32) (g9 : Int32) (g10 : Int64) : Prop := f0 = g0 ∧ f1 = g1 ∧ f2 = g2 ∧ f3 = g3 ∧ f4 = g4 ∧ f5 = g5 ∧ f6 = g6 ∧ f7 = g7 ∧ f8 = g8 ∧ f9 = g9 ∧ f10 = g10
theorem own_k14 (a k : Int32) (q : (a &&& 2147483647) % 14 = k) : k = 0 ∨ k = 1 ∨ k = 2 ∨ k = 3 ∨ k = 4 ∨ k = 5 ∨ k = 6 ∨ k = 7 ∨ k = 8 ∨ k = 9 ∨ k = 10 ∨ k = 11 ∨ k = 12 ∨ k = 13 := by
  have h1 : (a &&& 2147483647).toInt = a.toInt % (2 ^ 31 : Nat) := c_mask a 2147483647 31 (by decide) (by decide)
  obtain ⟨h2, h3⟩ := c_irem (a &&& 2147483647) 14 14 (by decide)
  have h4 := h2 (by omega)
  rw [q] at h4
  simp only [← Int32.toInt_inj, Int32.reduceToInt]
  omega
theorem own_fin (k : Int32) (hk : k = 0 ∨ k = 1 ∨ k = 2 ∨ k = 3 ∨ k = 4 ∨ k = 5 ∨ k = 6 ∨ k = 7 ∨ k = 8 ∨ k = 9 ∨ k = 10 ∨ k = 11 ∨ k = 12 ∨ k = 13) (v : Int64) (vi : Int32) (f0 t0 : Int64) (f1 t1 : Int64) (f2 t2 : Int64) (f3 t3 : Int64) (f4 t4 : Int32) (f5 t5 : Int32) (f6 t6 : Int32) (f7 t7 : Int64) (f8 t8 : Int32) (f9 t9 : Int32) (f10 t10 : Int64) (ex b : Int32) (q0 : t0 = (if k = (0 : Int32) then v else f0)) (q1 : t1 = (if k = (1 : Int32) then v else f1)) (q2 : t2 = (if k = (2 : Int32) then v else f2)) (q3 : t3 = (if k = (3 : Int32) then v else f3)) (q4 : t4 = (if k = (4 : Int32) then vi else f4)) (q5 : t5 = (if k = (5 : Int32) then vi else f5)) (q6 : t6 = (if k = (6 : Int32) then vi else f6)) (q7 : t7 = (if k = (7 : Int32) then v else f7)) (q8 : t8 = (if k = (8 : Int32) then vi else f8)) (q9 : t9 = (if k = (9 : Int32) then vi else f9)) (q10 : t10 = (if k = (10 : Int32) then v else f10)) (qe : ex = (if k = (0 : Int32) then (if f0 = v then (1 : Int32) else (0 : Int32)) else (if k = (1 : Int32) then (if f1 = v then (1 : Int32) else (0 : Int32)) else (if k = (2 : Int32) then (if f2 = v then (1 : Int32) else (0 : Int32)) else (if k = (3 : Int32) then (if f3 = v then (1 : Int32) else (0 : Int32)) else (if k = (4 : Int32) then (if f4 = vi then (1 : Int32) else (0 : Int32)) else (if k = (5 : Int32) then (if f5 = vi then (1 : Int32) else (0 : Int32)) else (if k = (6 : Int32) then (if f6 = vi then (1 : Int32) else (0 : Int32)) else (if k = (7 : Int32) then (if f7 = v then (1 : Int32) else (0 : Int32)) else (if k = (8 : Int32) then (if f8 = vi then (1 : Int32) else (0 : Int32)) else (if k = (9 : Int32) then (if f9 = vi then (1 : Int32) else (0 : Int32)) else (if k = (10 : Int32) then (if f10 = v then (1 : Int32) else (0 : Int32)) else (if k = (11 : Int32) then (1 : Int32) else (0 : Int32)))))))))))))) (qb : b = (if k < (11 : Int32) then (if ex = (0 : Int32) then (0 : Int32) else (1 : Int32)) else (1 : Int32))) :
    (¬ k = (12 : Int32) → ¬ k = (13 : Int32) → (if own_eq f0 f1 f2 f3 f4 f5 f6 f7 f8 f9 f10 t0 t1 t2 t3 t4 t5 t6 t7 t8 t9 t10 then (1 : Int32) else 0) = ex) ∧ (k = (12 : Int32) ∨ k = (13 : Int32) → (0 : Int32) = ex) ∧ (if own_eq t0 t1 t2 t3 t4 t5 t6 t7 t8 t9 t10 f0 f1 f2 f3 f4 f5 f6 f7 f8 f9 f10 then (1 : Int32) else 0) = b := by
  subst q0 q1 q2 q3 q4 q5 q6 q7 q8 q9 q10 qe qb
  rcases hk with rfl | rfl | rfl | rfl | rfl | rfl | rfl | rfl | rfl | rfl | rfl | rfl | rfl | rfl
  · by_cases h : f0 = v
    · subst h; simp [own_eq]
    · have h' : ¬ v = f0 := fun e => h e.symm
      simp [own_eq, h, h']
  · by_cases h : f1 = v
    · subst h; simp [own_eq]
    · have h' : ¬ v = f1 := fun e => h e.symm
      simp [own_eq, h, h']
  · by_cases h : f2 = v
    · subst h; simp [own_eq]
    · have h' : ¬ v = f2 := fun e => h e.symm
      simp [own_eq, h, h']
  · by_cases h : f3 = v
    · subst h; simp [own_eq]
    · have h' : ¬ v = f3 := fun e => h e.symm
      simp [own_eq, h, h']
  · by_cases h : f4 = vi
    · subst h; simp [own_eq]
    · have h' : ¬ vi = f4 := fun e => h e.symm
      simp [own_eq, h, h']
  · by_cases h : f5 = vi
    · subst h; simp [own_eq]
    · have h' : ¬ vi = f5 := fun e => h e.symm
      simp [own_eq, h, h']
  · by_cases h : f6 = vi
    · subst h; simp [own_eq]
    · have h' : ¬ vi = f6 := fun e => h e.symm
      simp [own_eq, h, h']
  · by_cases h : f7 = v
    · subst h; simp [own_eq]
    · have h' : ¬ v = f7 := fun e => h e.symm
      simp [own_eq, h, h']
  · by_cases h : f8 = vi
    · subst h; simp [own_eq]
    · have h' : ¬ vi = f8 := fun e => h e.symm
      simp [own_eq, h, h']
  · by_cases h : f9 = vi
    · subst h; simp [own_eq]
    · have h' : ¬ vi = f9 := fun e => h e.symm
      simp [own_eq, h, h']
  · by_cases h : f10 = v
    · subst h; simp [own_eq]
    · have h' : ¬ v = f10 := fun e => h e.symm
      simp [own_eq, h, h']
  · simp [own_eq]
  · simp [own_eq]
  · simp [own_eq]
abbrev fL0 (y0 : Addr) (y1 : Int64) (y2 : Int64) (y3 : Int64) (y4 : Int64) (y5 : Int32) (y6 : Int32) (y7 : Int32) (y8 : Int64) (y9 : Int32) (y10 : Int32) (y11 : Int64) : Array Slot := #[.val (.ref y0), .val (.long y1), .second, .val (.long y2), .second, .val (.long y3), .second, .val (.long y4), .second, .val (.int y5), .val (.int y6), .val (.int y7), .val (.long y8), .second, .val (.int y9), .val (.int y10), .val (.long y11), .second]
abbrev fL1 (y0 : Int64) (y1 : Int64) (y2 : Int64) (y3 : Int32) (y4 : Int64) : Array Slot := #[.val (.long y0), .second, .val (.long y1), .second, .val (.long y2), .second, .val (.int y3), .val (.long y4), .second, .unset, .unset, .unset, .unset, .unset, .unset, .unset, .unset, .unset, .unset, .unset, .unset, .unset, .unset, .unset, .unset, .unset, .unset, .unset, .unset, .unset, .unset, .unset, .unset, .unset, .unset]
abbrev fL2 (y0 : Int64) (y1 : Int64) (y2 : Int64) (y3 : Int32) (y4 : Int64) (y5 : Int32) : Array Slot := #[.val (.long y0), .second, .val (.long y1), .second, .val (.long y2), .second, .val (.int y3), .val (.long y4), .second, .val (.int y5), .unset, .unset, .unset, .unset, .unset, .unset, .unset, .unset, .unset, .unset, .unset, .unset, .unset, .unset, .unset, .unset, .unset, .unset, .unset, .unset, .unset, .unset, .unset, .unset, .unset]
abbrev fL3 (y0 : Int64) (y1 : Int64) (y2 : Int64) (y3 : Int32) (y4 : Int64) (y5 : Int32) (y6 : Int64) : Array Slot := #[.val (.long y0), .second, .val (.long y1), .second, .val (.long y2), .second, .val (.int y3), .val (.long y4), .second, .val (.int y5), .val (.long y6), .second, .unset, .unset, .unset, .unset, .unset, .unset, .unset, .unset, .unset, .unset, .unset, .unset, .unset, .unset, .unset, .unset, .unset, .unset, .unset, .unset, .unset, .unset, .unset]
abbrev fL4 (y0 : Int64) (y1 : Int64) (y2 : Int64) (y3 : Int32) (y4 : Int64) (y5 : Int32) (y6 : Int64) (y7 : Int64) : Array Slot := #[.val (.long y0), .second, .val (.long y1), .second, .val (.long y2), .second, .val (.int y3), .val (.long y4), .second, .val (.int y5), .val (.long y6), .second, .val (.long y7), .second, .unset, .unset, .unset, .unset, .unset, .unset, .unset, .unset, .unset, .unset, .unset, .unset, .unset, .unset, .unset, .unset, .unset, .unset, .unset, .unset, .unset]
abbrev fL5 (y0 : Int64) (y1 : Int64) (y2 : Int64) (y3 : Int32) (y4 : Int64) (y5 : Int32) (y6 : Int64) (y7 : Int64) (y8 : Int64) : Array Slot := #[.val (.long y0), .second, .val (.long y1), .second, .val (.long y2), .second, .val (.int y3), .val (.long y4), .second, .val (.int y5), .val (.long y6), .second, .val (.long y7), .second, .val (.long y8), .second, .unset, .unset, .unset, .unset, .unset, .unset, .unset, .unset, .unset, .unset, .unset, .unset, .unset, .unset, .unset, .unset, .unset, .unset, .unset]
abbrev fL6 (y0 : Int64) (y1 : Int64) (y2 : Int64) (y3 : Int32) (y4 : Int64) (y5 : Int32) (y6 : Int64) (y7 : Int64) (y8 : Int64) (y9 : Int64) : Array Slot := #[.val (.long y0), .second, .val (.long y1), .second, .val (.long y2), .second, .val (.int y3), .val (.long y4), .second, .val (.int y5), .val (.long y6), .second, .val (.long y7), .second, .val (.long y8), .second, .val (.long y9), .second, .unset, .unset, .unset, .unset, .unset, .unset, .unset, .unset, .unset, .unset, .unset, .unset, .unset, .unset, .unset, .unset, .unset]
abbrev fL7 (y0 : Int64) (y1 : Int64) (y2 : Int64) (y3 : Int32) (y4 : Int64) (y5 : Int32) (y6 : Int64) (y7 : Int64) (y8 : Int64) (y9 : Int64) (y10 : Int32) : Array Slot := #[.val (.long y0), .second, .val (.long y1), .second, .val (.long y2), .second, .val (.int y3), .val (.long y4), .second, .val (.int y5), .val (.long y6), .second, .val (.long y7), .second, .val (.long y8), .second, .val (.long y9), .second, .val (.int y10), .unset, .unset, .unset, .unset, .unset, .unset, .unset, .unset, .unset, .unset, .unset, .unset, .unset, .unset, .unset, .unset]
abbrev fL8 (y0 : Int64) (y1 : Int64) (y2 : Int64) (y3 : Int32) (y4 : Int64) (y5 : Int32) (y6 : Int64) (y7 : Int64) (y8 : Int64) (y9 : Int64) (y10 : Int32) (y11 : Int32) : Array Slot := #[.val (.long y0), .second, .val (.long y1), .second, .val (.long y2), .second, .val (.int y3), .val (.long y4), .second, .val (.int y5), .val (.long y6), .second, .val (.long y7), .second, .val (.long y8), .second, .val (.long y9), .second, .val (.int y10), .val (.int y11), .unset, .unset, .unset, .unset, .unset, .unset, .unset, .unset, .unset, .unset, .unset, .unset, .unset, .unset, .unset]
abbrev fL9 (y0 : Int64) (y1 : Int64) (y2 : Int64) (y3 : Int32) (y4 : Int64) (y5 : Int32) (y6 : Int64) (y7 : Int64) (y8 : Int64) (y9 : Int64) (y10 : Int32) (y11 : Int32) (y12 : Int32) : Array Slot := #[.val (.long y0), .second, .val (.long y1), .second, .val (.long y2), .second, .val (.int y3), .val (.long y4), .second, .val (.int y5), .val (.long y6), .second, .val (.long y7), .second, .val (.long y8), .second, .val (.long y9), .second, .val (.int y10), .val (.int y11), .val (.int y12), .unset, .unset, .unset, .unset, .unset, .unset, .unset, .unset, .unset, .unset, .unset, .unset, .unset, .unset]
abbrev fL10 (y0 : Int64) (y1 : Int64) (y2 : Int64) (y3 : Int32) (y4 : Int64) (y5 : Int32) (y6 : Int64) (y7 : Int64) (y8 : Int64) (y9 : Int64) (y10 : Int32) (y11 : Int32) (y12 : Int32) (y13 : Int64) : Array Slot := #[.val (.long y0), .second, .val (.long y1), .second, .val (.long y2), .second, .val (.int y3), .val (.long y4), .second, .val (.int y5), .val (.long y6), .second, .val (.long y7), .second, .val (.long y8), .second, .val (.long y9), .second, .val (.int y10), .val (.int y11), .val (.int y12), .val (.long y13), .second, .unset, .unset, .unset, .unset, .unset, .unset, .unset, .unset, .unset, .unset, .unset, .unset]
abbrev fL11 (y0 : Int64) (y1 : Int64) (y2 : Int64) (y3 : Int32) (y4 : Int64) (y5 : Int32) (y6 : Int64) (y7 : Int64) (y8 : Int64) (y9 : Int64) (y10 : Int32) (y11 : Int32) (y12 : Int32) (y13 : Int64) (y14 : Int32) : Array Slot := #[.val (.long y0), .second, .val (.long y1), .second, .val (.long y2), .second, .val (.int y3), .val (.long y4), .second, .val (.int y5), .val (.long y6), .second, .val (.long y7), .second, .val (.long y8), .second, .val (.long y9), .second, .val (.int y10), .val (.int y11), .val (.int y12), .val (.long y13), .second, .val (.int y14), .unset, .unset, .unset, .unset, .unset, .unset, .unset, .unset, .unset, .unset, .unset]
abbrev fL12 (y0 : Int64) (y1 : Int64) (y2 : Int64) (y3 : Int32) (y4 : Int64) (y5 : Int32) (y6 : Int64) (y7 : Int64) (y8 : Int64) (y9 : Int64) (y10 : Int32) (y11 : Int32) (y12 : Int32) (y13 : Int64) (y14 : Int32) (y15 : Int32) : Array Slot := #[.val (.long y0), .second, .val (.long y1), .second, .val (.long y2), .second, .val (.int y3), .val (.long y4), .second, .val (.int y5), .val (.long y6), .second, .val (.long y7), .second, .val (.long y8), .second, .val (.long y9), .second, .val (.int y10), .val (.int y11), .val (.int y12), .val (.long y13), .second, .val (.int y14), .val (.int y15), .unset, .unset, .unset, .unset, .unset, .unset, .unset, .unset, .unset, .unset]
abbrev fL13 (y0 : Int64) (y1 : Int64) (y2 : Int64) (y3 : Int32) (y4 : Int64) (y5 : Int32) (y6 : Int64) (y7 : Int64) (y8 : Int64) (y9 : Int64) (y10 : Int32) (y11 : Int32) (y12 : Int32) (y13 : Int64) (y14 : Int32) (y15 : Int32) (y16 : Int64) : Array Slot := #[.val (.long y0), .second, .val (.long y1), .second, .val (.long y2), .second, .val (.int y3), .val (.long y4), .second, .val (.int y5), .val (.long y6), .second, .val (.long y7), .second, .val (.long y8), .second, .val (.long y9), .second, .val (.int y10), .val (.int y11), .val (.int y12), .val (.long y13), .second, .val (.int y14), .val (.int y15), .val (.long y16), .second, .unset, .unset, .unset, .unset, .unset, .unset, .unset, .unset]
abbrev fL14 (y0 : Int64) (y1 : Int64) (y2 : Int64) (y3 : Int32) (y4 : Int64) (y5 : Int32) (y6 : Int64) (y7 : Int64) (y8 : Int64) (y9 : Int64) (y10 : Int32) (y11 : Int32) (y12 : Int32) (y13 : Int64) (y14 : Int32) (y15 : Int32) (y16 : Int64) (y17 : Int32) : Array Slot := #[.val (.long y0), .second, .val (.long y1), .second, .val (.long y2), .second, .val (.int y3), .val (.long y4), .second, .val (.int y5), .val (.long y6), .second, .val (.long y7), .second, .val (.long y8), .second, .val (.long y9), .second, .val (.int y10), .val (.int y11), .val (.int y12), .val (.long y13), .second, .val (.int y14), .val (.int y15), .val (.long y16), .second, .val (.int y17), .unset, .unset, .unset, .unset, .unset, .unset, .unset]
abbrev fL15 (y0 : Int64) (y1 : Int64) (y2 : Int64) (y3 : Int32) (y4 : Int64) (y5 : Int32) (y6 : Int64) (y7 : Int64) (y8 : Int64) (y9 : Int64) (y10 : Int32) (y11 : Int32) (y12 : Int32) (y13 : Int64) (y14 : Int32) (y15 : Int32) (y16 : Int64) (y17 : Int32) (y18 : Addr) : Array Slot := #[.val (.long y0), .second, .val (.long y1), .second, .val (.long y2), .second, .val (.int y3), .val (.long y4), .second, .val (.int y5), .val (.long y6), .second, .val (.long y7), .second, .val (.long y8), .second, .val (.long y9), .second, .val (.int y10), .val (.int y11), .val (.int y12), .val (.long y13), .second, .val (.int y14), .val (.int y15), .val (.long y16), .second, .val (.int y17), .val (.ref y18), .unset, .unset, .unset, .unset, .unset, .unset]
abbrev fL16 (y0 : Int64) (y1 : Int64) (y2 : Int64) (y3 : Int32) (y4 : Int64) (y5 : Int32) (y6 : Int64) (y7 : Int64) (y8 : Int64) (y9 : Int64) (y10 : Int32) (y11 : Int32) (y12 : Int32) (y13 : Int64) (y14 : Int32) (y15 : Int32) (y16 : Int64) (y17 : Int32) (y18 : Addr) (y19 : Addr) : Array Slot := #[.val (.long y0), .second, .val (.long y1), .second, .val (.long y2), .second, .val (.int y3), .val (.long y4), .second, .val (.int y5), .val (.long y6), .second, .val (.long y7), .second, .val (.long y8), .second, .val (.long y9), .second, .val (.int y10), .val (.int y11), .val (.int y12), .val (.long y13), .second, .val (.int y14), .val (.int y15), .val (.long y16), .second, .val (.int y17), .val (.ref y18), .val (.ref y19), .unset, .unset, .unset, .unset, .unset]
abbrev fL17 (y0 : Int64) (y1 : Int64) (y2 : Int64) (y3 : Int32) (y4 : Int64) (y5 : Int32) (y6 : Int64) (y7 : Int64) (y8 : Int64) (y9 : Int64) (y10 : Int32) (y11 : Int32) (y12 : Int32) (y13 : Int64) (y14 : Int32) (y15 : Int32) (y16 : Int64) (y17 : Int32) (y18 : Addr) (y19 : Addr) (y20 : Int32) : Array Slot := #[.val (.long y0), .second, .val (.long y1), .second, .val (.long y2), .second, .val (.int y3), .val (.long y4), .second, .val (.int y5), .val (.long y6), .second, .val (.long y7), .second, .val (.long y8), .second, .val (.long y9), .second, .val (.int y10), .val (.int y11), .val (.int y12), .val (.long y13), .second, .val (.int y14), .val (.int y15), .val (.long y16), .second, .val (.int y17), .val (.ref y18), .val (.ref y19), .val (.int y20), .unset, .unset, .unset, .unset]
abbrev fL18 (y0 : Int64) (y1 : Int64) (y2 : Int64) (y3 : Int32) (y4 : Int64) (y5 : Int32) (y6 : Int64) (y7 : Int64) (y8 : Int64) (y9 : Int64) (y10 : Int32) (y11 : Int32) (y12 : Int32) (y13 : Int64) (y14 : Int32) (y15 : Int32) (y16 : Int64) (y17 : Int32) (y18 : Addr) (y19 : Addr) (y20 : Int32) : Array Slot := #[.val (.long y0), .second, .val (.long y1), .second, .val (.long y2), .second, .val (.int y3), .val (.long y4), .second, .val (.int y5), .val (.long y6), .second, .val (.long y7), .second, .val (.long y8), .second, .val (.long y9), .second, .val (.int y10), .val (.int y11), .val (.int y12), .val (.long y13), .second, .val (.int y14), .val (.int y15), .val (.long y16), .second, .val (.int y17), .val (.ref y18), .val (.ref y19), .val (.int y20), .val .null, .unset, .unset, .unset]
abbrev fL19 (y0 : Int64) (y1 : Int64) (y2 : Int64) (y3 : Int32) (y4 : Int64) (y5 : Int32) (y6 : Int64) (y7 : Int64) (y8 : Int64) (y9 : Int64) (y10 : Int32) (y11 : Int32) (y12 : Int32) (y13 : Int64) (y14 : Int32) (y15 : Int32) (y16 : Int64) (y17 : Int32) (y18 : Addr) (y19 : Addr) (y20 : Int32) (y21 : Int32) : Array Slot := #[.val (.long y0), .second, .val (.long y1), .second, .val (.long y2), .second, .val (.int y3), .val (.long y4), .second, .val (.int y5), .val (.long y6), .second, .val (.long y7), .second, .val (.long y8), .second, .val (.long y9), .second, .val (.int y10), .val (.int y11), .val (.int y12), .val (.long y13), .second, .val (.int y14), .val (.int y15), .val (.long y16), .second, .val (.int y17), .val (.ref y18), .val (.ref y19), .val (.int y20), .val .null, .val (.int y21), .unset, .unset]
abbrev fL20 (y0 : Int64) (y1 : Int64) (y2 : Int64) (y3 : Int32) (y4 : Int64) (y5 : Int32) (y6 : Int64) (y7 : Int64) (y8 : Int64) (y9 : Int64) (y10 : Int32) (y11 : Int32) (y12 : Int32) (y13 : Int64) (y14 : Int32) (y15 : Int32) (y16 : Int64) (y17 : Int32) (y18 : Addr) (y19 : Addr) (y20 : Int32) (y21 : Int32) (y22 : Int32) : Array Slot := #[.val (.long y0), .second, .val (.long y1), .second, .val (.long y2), .second, .val (.int y3), .val (.long y4), .second, .val (.int y5), .val (.long y6), .second, .val (.long y7), .second, .val (.long y8), .second, .val (.long y9), .second, .val (.int y10), .val (.int y11), .val (.int y12), .val (.long y13), .second, .val (.int y14), .val (.int y15), .val (.long y16), .second, .val (.int y17), .val (.ref y18), .val (.ref y19), .val (.int y20), .val .null, .val (.int y21), .val (.int y22), .unset]
abbrev fL21 (y0 : Int64) (y1 : Int64) (y2 : Int64) (y3 : Int32) (y4 : Int64) (y5 : Int32) (y6 : Int64) (y7 : Int64) (y8 : Int64) (y9 : Int64) (y10 : Int32) (y11 : Int32) (y12 : Int32) (y13 : Int64) (y14 : Int32) (y15 : Int32) (y16 : Int64) (y17 : Int32) (y18 : Addr) (y19 : Addr) (y20 : Int32) (y21 : Int32) (y22 : Int32) (y23 : Int32) : Array Slot := #[.val (.long y0), .second, .val (.long y1), .second, .val (.long y2), .second, .val (.int y3), .val (.long y4), .second, .val (.int y5), .val (.long y6), .second, .val (.long y7), .second, .val (.long y8), .second, .val (.long y9), .second, .val (.int y10), .val (.int y11), .val (.int y12), .val (.long y13), .second, .val (.int y14), .val (.int y15), .val (.long y16), .second, .val (.int y17), .val (.ref y18), .val (.ref y19), .val (.int y20), .val .null, .val (.int y21), .val (.int y22), .val (.int y23)]
abbrev fL22 (y0 : Int64) (y1 : Int64) (y2 : Int64) (y3 : Int32) (y4 : Int64) (y5 : Int32) (y6 : Int64) (y7 : Int64) (y8 : Int64) (y9 : Int64) (y10 : Int32) (y11 : Int32) (y12 : Int32) (y13 : Int64) (y14 : Int32) (y15 : Int32) (y16 : Int64) (y17 : Int32) (y18 : Addr) (y19 : Addr) (y20 : Int32) (y21 : Addr) : Array Slot := #[.val (.long y0), .second, .val (.long y1), .second, .val (.long y2), .second, .val (.int y3), .val (.long y4), .second, .val (.int y5), .val (.long y6), .second, .val (.long y7), .second, .val (.long y8), .second, .val (.long y9), .second, .val (.int y10), .val (.int y11), .val (.int y12), .val (.long y13), .second, .val (.int y14), .val (.int y15), .val (.long y16), .second, .val (.int y17), .val (.ref y18), .val (.ref y19), .val (.int y20), .val (.ref y21), .unset, .unset, .unset]
abbrev fL23 (y0 : Int64) (y1 : Int64) (y2 : Int64) (y3 : Int32) (y4 : Int64) (y5 : Int32) (y6 : Int64) (y7 : Int64) (y8 : Int64) (y9 : Int64) (y10 : Int32) (y11 : Int32) (y12 : Int32) (y13 : Int64) (y14 : Int32) (y15 : Int32) (y16 : Int64) (y17 : Int32) (y18 : Addr) (y19 : Addr) (y20 : Int32) (y21 : Addr) (y22 : Int32) : Array Slot := #[.val (.long y0), .second, .val (.long y1), .second, .val (.long y2), .second, .val (.int y3), .val (.long y4), .second, .val (.int y5), .val (.long y6), .second, .val (.long y7), .second, .val (.long y8), .second, .val (.long y9), .second, .val (.int y10), .val (.int y11), .val (.int y12), .val (.long y13), .second, .val (.int y14), .val (.int y15), .val (.long y16), .second, .val (.int y17), .val (.ref y18), .val (.ref y19), .val (.int y20), .val (.ref y21), .val (.int y22), .unset, .unset]
abbrev fL24 (y0 : Int64) (y1 : Int64) (y2 : Int64) (y3 : Int32) (y4 : Int64) (y5 : Int32) (y6 : Int64) (y7 : Int64) (y8 : Int64) (y9 : Int64) (y10 : Int32) (y11 : Int32) (y12 : Int32) (y13 : Int64) (y14 : Int32) (y15 : Int32) (y16 : Int64) (y17 : Int32) (y18 : Addr) (y19 : Addr) (y20 : Int32) (y21 : Addr) (y22 : Int32) (y23 : Int32) : Array Slot := #[.val (.long y0), .second, .val (.long y1), .second, .val (.long y2), .second, .val (.int y3), .val (.long y4), .second, .val (.int y5), .val (.long y6), .second, .val (.long y7), .second, .val (.long y8), .second, .val (.long y9), .second, .val (.int y10), .val (.int y11), .val (.int y12), .val (.long y13), .second, .val (.int y14), .val (.int y15), .val (.long y16), .second, .val (.int y17), .val (.ref y18), .val (.ref y19), .val (.int y20), .val (.ref y21), .val (.int y22), .val (.int y23), .unset]
abbrev fL25 (y0 : Int64) (y1 : Int64) (y2 : Int64) (y3 : Int32) (y4 : Int64) (y5 : Int32) (y6 : Int64) (y7 : Int64) (y8 : Int64) (y9 : Int64) (y10 : Int32) (y11 : Int32) (y12 : Int32) (y13 : Int64) (y14 : Int32) (y15 : Int32) (y16 : Int64) (y17 : Int32) (y18 : Addr) (y19 : Addr) (y20 : Int32) (y21 : Addr) (y22 : Int32) (y23 : Int32) (y24 : Int32) : Array Slot := #[.val (.long y0), .second, .val (.long y1), .second, .val (.long y2), .second, .val (.int y3), .val (.long y4), .second, .val (.int y5), .val (.long y6), .second, .val (.long y7), .second, .val (.long y8), .second, .val (.long y9), .second, .val (.int y10), .val (.int y11), .val (.int y12), .val (.long y13), .second, .val (.int y14), .val (.int y15), .val (.long y16), .second, .val (.int y17), .val (.ref y18), .val (.ref y19), .val (.int y20), .val (.ref y21), .val (.int y22), .val (.int y23), .val (.int y24)]
theorem d_prog_7_method_1_code_0 : decode prog_7_method_1_code 0 = .ok (.aload_n 0, 1) := by decide +kernel
theorem d_prog_7_method_1_code_1 : decode prog_7_method_1_code 1 = .ok (.invokespecial 1, 3) := by decide +kernel
theorem d_prog_7_method_1_code_4 : decode prog_7_method_1_code 4 = .ok (.aload_n 0, 1) := by decide +kernel
theorem d_prog_7_method_1_code_5 : decode prog_7_method_1_code 5 = .ok (.lload_n 1, 1) := by decide +kernel
theorem d_prog_7_method_1_code_6 : decode prog_7_method_1_code 6 = .ok (.putfield 7, 3) := by decide +kernel
theorem d_prog_7_method_1_code_9 : decode prog_7_method_1_code 9 = .ok (.aload_n 0, 1) := by decide +kernel
theorem d_prog_7_method_1_code_10 : decode prog_7_method_1_code 10 = .ok (.lload_n 3, 1) := by decide +kernel
theorem d_prog_7_method_1_code_11 : decode prog_7_method_1_code 11 = .ok (.putfield 13, 3) := by decide +kernel
theorem d_prog_7_method_1_code_14 : decode prog_7_method_1_code 14 = .ok (.aload_n 0, 1) := by decide +kernel
theorem d_prog_7_method_1_code_15 : decode prog_7_method_1_code 15 = .ok (.lload 5, 2) := by decide +kernel
theorem d_prog_7_method_1_code_17 : decode prog_7_method_1_code 17 = .ok (.putfield 16, 3) := by decide +kernel
theorem d_prog_7_method_1_code_20 : decode prog_7_method_1_code 20 = .ok (.aload_n 0, 1) := by decide +kernel
theorem d_prog_7_method_1_code_21 : decode prog_7_method_1_code 21 = .ok (.lload 7, 2) := by decide +kernel
theorem d_prog_7_method_1_code_23 : decode prog_7_method_1_code 23 = .ok (.putfield 19, 3) := by decide +kernel
theorem d_prog_7_method_1_code_26 : decode prog_7_method_1_code 26 = .ok (.aload_n 0, 1) := by decide +kernel
theorem d_prog_7_method_1_code_27 : decode prog_7_method_1_code 27 = .ok (.iload 9, 2) := by decide +kernel
theorem d_prog_7_method_1_code_29 : decode prog_7_method_1_code 29 = .ok (.putfield 22, 3) := by decide +kernel
theorem d_prog_7_method_1_code_32 : decode prog_7_method_1_code 32 = .ok (.aload_n 0, 1) := by decide +kernel
theorem d_prog_7_method_1_code_33 : decode prog_7_method_1_code 33 = .ok (.iload 10, 2) := by decide +kernel
theorem d_prog_7_method_1_code_35 : decode prog_7_method_1_code 35 = .ok (.putfield 26, 3) := by decide +kernel
theorem d_prog_7_method_1_code_38 : decode prog_7_method_1_code 38 = .ok (.aload_n 0, 1) := by decide +kernel
theorem d_prog_7_method_1_code_39 : decode prog_7_method_1_code 39 = .ok (.iload 11, 2) := by decide +kernel
theorem d_prog_7_method_1_code_41 : decode prog_7_method_1_code 41 = .ok (.putfield 29, 3) := by decide +kernel
theorem d_prog_7_method_1_code_44 : decode prog_7_method_1_code 44 = .ok (.aload_n 0, 1) := by decide +kernel
theorem d_prog_7_method_1_code_45 : decode prog_7_method_1_code 45 = .ok (.lload 12, 2) := by decide +kernel
theorem d_prog_7_method_1_code_47 : decode prog_7_method_1_code 47 = .ok (.putfield 32, 3) := by decide +kernel
theorem d_prog_7_method_1_code_50 : decode prog_7_method_1_code 50 = .ok (.aload_n 0, 1) := by decide +kernel
theorem d_prog_7_method_1_code_51 : decode prog_7_method_1_code 51 = .ok (.iload 14, 2) := by decide +kernel
theorem d_prog_7_method_1_code_53 : decode prog_7_method_1_code 53 = .ok (.putfield 35, 3) := by decide +kernel
theorem d_prog_7_method_1_code_56 : decode prog_7_method_1_code 56 = .ok (.aload_n 0, 1) := by decide +kernel
theorem d_prog_7_method_1_code_57 : decode prog_7_method_1_code 57 = .ok (.iload 15, 2) := by decide +kernel
theorem d_prog_7_method_1_code_59 : decode prog_7_method_1_code 59 = .ok (.putfield 38, 3) := by decide +kernel
theorem d_prog_7_method_1_code_62 : decode prog_7_method_1_code 62 = .ok (.aload_n 0, 1) := by decide +kernel
theorem d_prog_7_method_1_code_63 : decode prog_7_method_1_code 63 = .ok (.lload 16, 2) := by decide +kernel
theorem d_prog_7_method_1_code_65 : decode prog_7_method_1_code 65 = .ok (.putfield 41, 3) := by decide +kernel
theorem d_prog_7_method_1_code_68 : decode prog_7_method_1_code 68 = .ok (.return_, 1) := by decide +kernel
theorem pn_com_example_bound_quorum_boundquorum_model_Stat : plainName "com/example/bound_quorum/boundquorum/model/Stat" = true := by first | (simp [plainName, overriddenIn]; done) | decide +kernel
theorem ef_rm_ini (m : MethodId) (y0 : Addr) (y1 : Int64) (y2 : Int64) (y3 : Int64) (y4 : Int64) (y5 : Int32) (y6 : Int32) (y7 : Int32) (y8 : Int64) (y9 : Int32) (y10 : Int32) (y11 : Int64) : entryFrame m #[(.ref y0), (.long y1), (.long y2), (.long y3), (.long y4), (.int y5), (.int y6), (.int y7), (.long y8), (.int y9), (.int y10), (.long y11)] 18 = mkF m 0 #[.val (.ref y0), .val (.long y1), .second, .val (.long y2), .second, .val (.long y3), .second, .val (.long y4), .second, .val (.int y5), .val (.int y6), .val (.int y7), .val (.long y8), .second, .val (.int y9), .val (.int y10), .val (.long y11), .second] [] := by first | (simp [entryFrame, mkF, argsToLocals, Value.category]; done) | rfl
def Q_rm_ini (Z : State) (a0' : Addr) (q1 : Int64) (q2 : Int64) (q3 : Int64) (q4 : Int64) (p5 : Int32) (p6 : Int32) (p7 : Int32) (q8 : Int64) (p9 : Int32) (p10 : Int32) (q11 : Int64) (h0 : Heap) (n0 : Nat) (v : Option Value) (h : Heap) (L : List Loc) : Prop := v = none ∧ Fr n0 L ∧ Keep h0 h [a0'] ∧ Exa Z h a0' "com/example/bound_quorum/boundquorum/model/Stat" ∧ Fld Z h a0' "com/example/bound_quorum/boundquorum/model/Stat" "czxid" "J" (.long q1) ∧ Fld Z h a0' "com/example/bound_quorum/boundquorum/model/Stat" "mzxid" "J" (.long q2) ∧ Fld Z h a0' "com/example/bound_quorum/boundquorum/model/Stat" "ctime" "J" (.long q3) ∧ Fld Z h a0' "com/example/bound_quorum/boundquorum/model/Stat" "mtime" "J" (.long q4) ∧ Fld Z h a0' "com/example/bound_quorum/boundquorum/model/Stat" "version" "I" (.int p5) ∧ Fld Z h a0' "com/example/bound_quorum/boundquorum/model/Stat" "cversion" "I" (.int p6) ∧ Fld Z h a0' "com/example/bound_quorum/boundquorum/model/Stat" "aversion" "I" (.int p7) ∧ Fld Z h a0' "com/example/bound_quorum/boundquorum/model/Stat" "ephemeralOwner" "J" (.long q8) ∧ Fld Z h a0' "com/example/bound_quorum/boundquorum/model/Stat" "dataLength" "I" (.int p9) ∧ Fld Z h a0' "com/example/bound_quorum/boundquorum/model/Stat" "numChildren" "I" (.int p10) ∧ Fld Z h a0' "com/example/bound_quorum/boundquorum/model/Stat" "pzxid" "J" (.long q11)
set_option maxRecDepth 65536 in
set_option maxHeartbeats 40000000 in
theorem rm_ini (l : Launch) (Z : State) (a0 : Array Value) (hw : ∀ d ∈ tables_1, d.before a0 Z = true) (ws : List Jvm.Cond) (a0' : Addr) (q1 : Int64) (q2 : Int64) (q3 : Int64) (q4 : Int64) (p5 : Int32) (p6 : Int32) (p7 : Int32) (q8 : Int64) (p9 : Int32) (p10 : Int32) (q11 : Int64) (h0 : Heap) (n0 : Nat) (ga : n0 ≤ a0') (EA : Exa Z h0 a0' "com/example/bound_quorum/boundquorum/model/Stat") (F_czxid : Fld Z h0 a0' "com/example/bound_quorum/boundquorum/model/Stat" "czxid" "J" (.long (0 : Int64))) (F_mzxid : Fld Z h0 a0' "com/example/bound_quorum/boundquorum/model/Stat" "mzxid" "J" (.long (0 : Int64))) (F_ctime : Fld Z h0 a0' "com/example/bound_quorum/boundquorum/model/Stat" "ctime" "J" (.long (0 : Int64))) (F_mtime : Fld Z h0 a0' "com/example/bound_quorum/boundquorum/model/Stat" "mtime" "J" (.long (0 : Int64))) (F_version : Fld Z h0 a0' "com/example/bound_quorum/boundquorum/model/Stat" "version" "I" (.int (0 : Int32))) (F_cversion : Fld Z h0 a0' "com/example/bound_quorum/boundquorum/model/Stat" "cversion" "I" (.int (0 : Int32))) (F_aversion : Fld Z h0 a0' "com/example/bound_quorum/boundquorum/model/Stat" "aversion" "I" (.int (0 : Int32))) (F_ephemeralOwner : Fld Z h0 a0' "com/example/bound_quorum/boundquorum/model/Stat" "ephemeralOwner" "J" (.long (0 : Int64))) (F_dataLength : Fld Z h0 a0' "com/example/bound_quorum/boundquorum/model/Stat" "dataLength" "I" (.int (0 : Int32))) (F_numChildren : Fld Z h0 a0' "com/example/bound_quorum/boundquorum/model/Stat" "numChildren" "I" (.int (0 : Int32))) (F_pzxid : Fld Z h0 a0' "com/example/bound_quorum/boundquorum/model/Stat" "pzxid" "J" (.long (0 : Int64))) :
    MetFree l (⟨"com/example/bound_quorum/boundquorum/model/Stat", "<init>", "(JJJJIIIJIIJ)V"⟩ : MethodName) (head1 (Jvm.Cond.code (⟨"com/example/bound_quorum/boundquorum/model/Stat", "<init>", "(JJJJIIIJIIJ)V"⟩ : MethodName) prog_7_method_1_code 18 none :: ws) ({ frames := 1, cells := 0, slots := 0, locals := 12 } : Room)) (fun a U => a = #[(.ref a0'), (.long q1), (.long q2), (.long q3), (.long q4), (.int p5), (.int p6), (.int p7), (.long q8), (.int p9), (.int p10), (.long q11)] ∧ Z.Warmed39 U.vm ∧ U.heap = h0) (fun _ _ _ _ _ => True) (fun _ U o U' => ∃ v L, o = .returned v ∧ Q_rm_ini Z a0' q1 q2 q3 q4 p5 p6 p7 q8 p9 p10 q11 h0 n0 v U'.heap L ∧ FrameEnd U o U' L 0 0) := by
  refine MetFree.of_bodySF (plainFor_of_name pn_com_example_bound_quorum_boundquorum_model_Stat) hisR ?_
  intro p e s m args below meth c s₁ Bd hml0 hP hK
  obtain ⟨rfl, hZ, hh⟩ := hP
  have hx := Bd.exec
  have hby := Bd.bytes
  have hlk := Bd.notSynchronized
  have hml : c.maxLocals = 18 := hml0
  have hown : s.vm.findClass "com/example/bound_quorum/boundquorum/model/Stat" = some m.cls := findClass_of_methodNamed Bd.named
  have hnm := (name_of_methodNamed Bd.named Bd.method).1
  have X0 : Stand p l e ({ frames := 1, cells := 0, slots := 0, locals := 12 } : Room) s m #[(.ref a0'), (.long q1), (.long q2), (.long q3), (.long q4), (.int p5), (.int p6), (.int p7), (.long q8), (.int p9), (.int p10), (.long q11)] below meth c s₁ [] 0 0 := Stand.of_body Bd
  have e0 : s₁.heap = h0 := by rw [← hh, Bd.state]; rfl
  have N0 := Fr.nil n0
  show OwnEnd p e below s (Q_rm_ini Z a0' q1 q2 q3 q4 p5 p6 p7 q8 p9 p10 q11 h0 n0) 0 0 (s₁.setTop (entryFrame m #[(.ref a0'), (.long q1), (.long q2), (.long q3), (.long q4), (.int p5), (.int p6), (.int p7), (.long q8), (.int p9), (.int p10), (.long q11)] 18))
  refine go (fun t k => castTop (ef_rm_ini m a0' q1 q2 q3 q4 p5 p6 p7 q8 p9 p10 q11) k) ?_
  have KK := Keep.refl h0 [a0']
  show OwnEnd _ _ _ _ _ _ _ (s₁.setTop (mkF m 0 (fL0 a0' q1 q2 q3 q4 p5 p6 p7 q8 p9 p10 q11) []))
  refine go (fun _ k => by refine XS.aloadN X0.here hx rfl (hb hby d_prog_7_method_1_code_0) rfl rfl ?_; exact k) ?_
  show OwnEnd _ _ _ _ _ _ _ (s₁.setTop (mkF m 1 (fL0 a0' q1 q2 q3 q4 p5 p6 p7 q8 p9 p10 q11) [(.ref a0')]))
  obtain ⟨T1, X1, e1, st1⟩ := initO X0 hx hZ hown (hw _ (List.mem_of_getElem? (i := 7) rfl)) (hw _ (List.mem_of_getElem? (i := 8) rfl)) (hw _ (List.mem_of_getElem? (i := 9) rfl)) e0 (g := (mkF m 1 (fL0 a0' q1 q2 q3 q4 p5 p6 p7 q8 p9 p10 q11) [(.ref a0')])) rfl (by rw [hml]; rfl) rfl (hb hby d_prog_7_method_1_code_1) (by decide) (W := 0) (by show 2 * 0 + _ ≤ _; exact Nat.le_of_eq rfl) (by decide)
  refine go st1 ?_
  refine go (fun _ k => by refine XS.aloadN X1.here hx rfl (hb hby d_prog_7_method_1_code_4) rfl rfl ?_; exact k) ?_
  refine go (fun _ k => by refine XS.lloadN X1.here hx rfl (hb hby d_prog_7_method_1_code_5) rfl ?_; exact k) ?_
  show OwnEnd _ _ _ _ _ _ _ (T1.setTop (mkF m 6 (fL0 a0' q1 q2 q3 q4 p5 p6 p7 q8 p9 p10 q11) [(.long q1), (.ref a0')]))
  obtain ⟨T2, h2, X2, e2, W2, st2⟩ := putF X1 hx hZ hown (host := "") (Or.inl (hw _ (List.mem_of_getElem? (i := 10) rfl))) Via.refl e1 F_czxid EA (Or.inr ⟨(hw _ (List.mem_of_getElem? (i := 11) rfl)), rfl, hnm⟩) (hw _ (List.mem_of_getElem? (i := 2) rfl)) (ty := .long) (by decide) rfl rfl (g := (mkF m 6 (fL0 a0' q1 q2 q3 q4 p5 p6 p7 q8 p9 p10 q11) [(.long q1), (.ref a0')])) rfl rfl (hb hby d_prog_7_method_1_code_6)
  have N2 := Fr.snoc X2 N0 ga
  have EA := EA.wr W2
  have KK := Keep.wr KK W2 (Or.inl (List.mem_of_getElem? (i := 0) rfl))
  have F_mzxid := F_mzxid.other W2 (Or.inr (slot_ne (Or.inr (hw _ (List.mem_of_getElem? (i := 13) rfl))) (Or.inr (hw _ (List.mem_of_getElem? (i := 11) rfl))) (by decide) (t := .long) (t' := .long) (by decide) (by decide)))
  have F_ctime := F_ctime.other W2 (Or.inr (slot_ne (Or.inr (hw _ (List.mem_of_getElem? (i := 15) rfl))) (Or.inr (hw _ (List.mem_of_getElem? (i := 11) rfl))) (by decide) (t := .long) (t' := .long) (by decide) (by decide)))
  have F_mtime := F_mtime.other W2 (Or.inr (slot_ne (Or.inr (hw _ (List.mem_of_getElem? (i := 17) rfl))) (Or.inr (hw _ (List.mem_of_getElem? (i := 11) rfl))) (by decide) (t := .long) (t' := .long) (by decide) (by decide)))
  have F_version := F_version.other W2 (Or.inr (slot_ne (Or.inr (hw _ (List.mem_of_getElem? (i := 19) rfl))) (Or.inr (hw _ (List.mem_of_getElem? (i := 11) rfl))) (by decide) (t := .int) (t' := .long) (by decide) (by decide)))
  have F_cversion := F_cversion.other W2 (Or.inr (slot_ne (Or.inr (hw _ (List.mem_of_getElem? (i := 21) rfl))) (Or.inr (hw _ (List.mem_of_getElem? (i := 11) rfl))) (by decide) (t := .int) (t' := .long) (by decide) (by decide)))
  have F_aversion := F_aversion.other W2 (Or.inr (slot_ne (Or.inr (hw _ (List.mem_of_getElem? (i := 23) rfl))) (Or.inr (hw _ (List.mem_of_getElem? (i := 11) rfl))) (by decide) (t := .int) (t' := .long) (by decide) (by decide)))
  have F_ephemeralOwner := F_ephemeralOwner.other W2 (Or.inr (slot_ne (Or.inr (hw _ (List.mem_of_getElem? (i := 25) rfl))) (Or.inr (hw _ (List.mem_of_getElem? (i := 11) rfl))) (by decide) (t := .long) (t' := .long) (by decide) (by decide)))
  have F_dataLength := F_dataLength.other W2 (Or.inr (slot_ne (Or.inr (hw _ (List.mem_of_getElem? (i := 27) rfl))) (Or.inr (hw _ (List.mem_of_getElem? (i := 11) rfl))) (by decide) (t := .int) (t' := .long) (by decide) (by decide)))
  have F_numChildren := F_numChildren.other W2 (Or.inr (slot_ne (Or.inr (hw _ (List.mem_of_getElem? (i := 29) rfl))) (Or.inr (hw _ (List.mem_of_getElem? (i := 11) rfl))) (by decide) (t := .int) (t' := .long) (by decide) (by decide)))
  have F_pzxid := F_pzxid.other W2 (Or.inr (slot_ne (Or.inr (hw _ (List.mem_of_getElem? (i := 31) rfl))) (Or.inr (hw _ (List.mem_of_getElem? (i := 11) rfl))) (by decide) (t := .long) (t' := .long) (by decide) (by decide)))
  have F_czxid := F_czxid.same W2
  refine go st2 ?_
  refine go (fun _ k => by refine XS.aloadN X2.here hx rfl (hb hby d_prog_7_method_1_code_9) rfl rfl ?_; exact k) ?_
  refine go (fun _ k => by refine XS.lloadN X2.here hx rfl (hb hby d_prog_7_method_1_code_10) rfl ?_; exact k) ?_
  show OwnEnd _ _ _ _ _ _ _ (T2.setTop (mkF m 11 (fL0 a0' q1 q2 q3 q4 p5 p6 p7 q8 p9 p10 q11) [(.long q2), (.ref a0')]))
  obtain ⟨T3, h3, X3, e3, W3, st3⟩ := putF X2 hx hZ hown (host := "") (Or.inl (hw _ (List.mem_of_getElem? (i := 12) rfl))) Via.refl e2 F_mzxid EA (Or.inr ⟨(hw _ (List.mem_of_getElem? (i := 13) rfl)), rfl, hnm⟩) (hw _ (List.mem_of_getElem? (i := 2) rfl)) (ty := .long) (by decide) rfl rfl (g := (mkF m 11 (fL0 a0' q1 q2 q3 q4 p5 p6 p7 q8 p9 p10 q11) [(.long q2), (.ref a0')])) rfl rfl (hb hby d_prog_7_method_1_code_11)
  have N3 := Fr.snoc X3 N2 ga
  have EA := EA.wr W3
  have KK := Keep.wr KK W3 (Or.inl (List.mem_of_getElem? (i := 0) rfl))
  have F_czxid := F_czxid.other W3 (Or.inr (slot_ne (Or.inr (hw _ (List.mem_of_getElem? (i := 11) rfl))) (Or.inr (hw _ (List.mem_of_getElem? (i := 13) rfl))) (by decide) (t := .long) (t' := .long) (by decide) (by decide)))
  have F_ctime := F_ctime.other W3 (Or.inr (slot_ne (Or.inr (hw _ (List.mem_of_getElem? (i := 15) rfl))) (Or.inr (hw _ (List.mem_of_getElem? (i := 13) rfl))) (by decide) (t := .long) (t' := .long) (by decide) (by decide)))
  have F_mtime := F_mtime.other W3 (Or.inr (slot_ne (Or.inr (hw _ (List.mem_of_getElem? (i := 17) rfl))) (Or.inr (hw _ (List.mem_of_getElem? (i := 13) rfl))) (by decide) (t := .long) (t' := .long) (by decide) (by decide)))
  have F_version := F_version.other W3 (Or.inr (slot_ne (Or.inr (hw _ (List.mem_of_getElem? (i := 19) rfl))) (Or.inr (hw _ (List.mem_of_getElem? (i := 13) rfl))) (by decide) (t := .int) (t' := .long) (by decide) (by decide)))
  have F_cversion := F_cversion.other W3 (Or.inr (slot_ne (Or.inr (hw _ (List.mem_of_getElem? (i := 21) rfl))) (Or.inr (hw _ (List.mem_of_getElem? (i := 13) rfl))) (by decide) (t := .int) (t' := .long) (by decide) (by decide)))
  have F_aversion := F_aversion.other W3 (Or.inr (slot_ne (Or.inr (hw _ (List.mem_of_getElem? (i := 23) rfl))) (Or.inr (hw _ (List.mem_of_getElem? (i := 13) rfl))) (by decide) (t := .int) (t' := .long) (by decide) (by decide)))
  have F_ephemeralOwner := F_ephemeralOwner.other W3 (Or.inr (slot_ne (Or.inr (hw _ (List.mem_of_getElem? (i := 25) rfl))) (Or.inr (hw _ (List.mem_of_getElem? (i := 13) rfl))) (by decide) (t := .long) (t' := .long) (by decide) (by decide)))
  have F_dataLength := F_dataLength.other W3 (Or.inr (slot_ne (Or.inr (hw _ (List.mem_of_getElem? (i := 27) rfl))) (Or.inr (hw _ (List.mem_of_getElem? (i := 13) rfl))) (by decide) (t := .int) (t' := .long) (by decide) (by decide)))
  have F_numChildren := F_numChildren.other W3 (Or.inr (slot_ne (Or.inr (hw _ (List.mem_of_getElem? (i := 29) rfl))) (Or.inr (hw _ (List.mem_of_getElem? (i := 13) rfl))) (by decide) (t := .int) (t' := .long) (by decide) (by decide)))
  have F_pzxid := F_pzxid.other W3 (Or.inr (slot_ne (Or.inr (hw _ (List.mem_of_getElem? (i := 31) rfl))) (Or.inr (hw _ (List.mem_of_getElem? (i := 13) rfl))) (by decide) (t := .long) (t' := .long) (by decide) (by decide)))
  have F_mzxid := F_mzxid.same W3
  refine go st3 ?_
  refine go (fun _ k => by refine XS.aloadN X3.here hx rfl (hb hby d_prog_7_method_1_code_14) rfl rfl ?_; exact k) ?_
  refine go (fun _ k => by refine XS.lload X3.here hx rfl (hb hby d_prog_7_method_1_code_15) rfl ?_; exact k) ?_
  show OwnEnd _ _ _ _ _ _ _ (T3.setTop (mkF m 17 (fL0 a0' q1 q2 q3 q4 p5 p6 p7 q8 p9 p10 q11) [(.long q3), (.ref a0')]))
  obtain ⟨T4, h4, X4, e4, W4, st4⟩ := putF X3 hx hZ hown (host := "") (Or.inl (hw _ (List.mem_of_getElem? (i := 14) rfl))) Via.refl e3 F_ctime EA (Or.inr ⟨(hw _ (List.mem_of_getElem? (i := 15) rfl)), rfl, hnm⟩) (hw _ (List.mem_of_getElem? (i := 2) rfl)) (ty := .long) (by decide) rfl rfl (g := (mkF m 17 (fL0 a0' q1 q2 q3 q4 p5 p6 p7 q8 p9 p10 q11) [(.long q3), (.ref a0')])) rfl rfl (hb hby d_prog_7_method_1_code_17)
  have N4 := Fr.snoc X4 N3 ga
  have EA := EA.wr W4
  have KK := Keep.wr KK W4 (Or.inl (List.mem_of_getElem? (i := 0) rfl))
  have F_czxid := F_czxid.other W4 (Or.inr (slot_ne (Or.inr (hw _ (List.mem_of_getElem? (i := 11) rfl))) (Or.inr (hw _ (List.mem_of_getElem? (i := 15) rfl))) (by decide) (t := .long) (t' := .long) (by decide) (by decide)))
  have F_mzxid := F_mzxid.other W4 (Or.inr (slot_ne (Or.inr (hw _ (List.mem_of_getElem? (i := 13) rfl))) (Or.inr (hw _ (List.mem_of_getElem? (i := 15) rfl))) (by decide) (t := .long) (t' := .long) (by decide) (by decide)))
  have F_mtime := F_mtime.other W4 (Or.inr (slot_ne (Or.inr (hw _ (List.mem_of_getElem? (i := 17) rfl))) (Or.inr (hw _ (List.mem_of_getElem? (i := 15) rfl))) (by decide) (t := .long) (t' := .long) (by decide) (by decide)))
  have F_version := F_version.other W4 (Or.inr (slot_ne (Or.inr (hw _ (List.mem_of_getElem? (i := 19) rfl))) (Or.inr (hw _ (List.mem_of_getElem? (i := 15) rfl))) (by decide) (t := .int) (t' := .long) (by decide) (by decide)))
  have F_cversion := F_cversion.other W4 (Or.inr (slot_ne (Or.inr (hw _ (List.mem_of_getElem? (i := 21) rfl))) (Or.inr (hw _ (List.mem_of_getElem? (i := 15) rfl))) (by decide) (t := .int) (t' := .long) (by decide) (by decide)))
  have F_aversion := F_aversion.other W4 (Or.inr (slot_ne (Or.inr (hw _ (List.mem_of_getElem? (i := 23) rfl))) (Or.inr (hw _ (List.mem_of_getElem? (i := 15) rfl))) (by decide) (t := .int) (t' := .long) (by decide) (by decide)))
  have F_ephemeralOwner := F_ephemeralOwner.other W4 (Or.inr (slot_ne (Or.inr (hw _ (List.mem_of_getElem? (i := 25) rfl))) (Or.inr (hw _ (List.mem_of_getElem? (i := 15) rfl))) (by decide) (t := .long) (t' := .long) (by decide) (by decide)))
  have F_dataLength := F_dataLength.other W4 (Or.inr (slot_ne (Or.inr (hw _ (List.mem_of_getElem? (i := 27) rfl))) (Or.inr (hw _ (List.mem_of_getElem? (i := 15) rfl))) (by decide) (t := .int) (t' := .long) (by decide) (by decide)))
  have F_numChildren := F_numChildren.other W4 (Or.inr (slot_ne (Or.inr (hw _ (List.mem_of_getElem? (i := 29) rfl))) (Or.inr (hw _ (List.mem_of_getElem? (i := 15) rfl))) (by decide) (t := .int) (t' := .long) (by decide) (by decide)))
  have F_pzxid := F_pzxid.other W4 (Or.inr (slot_ne (Or.inr (hw _ (List.mem_of_getElem? (i := 31) rfl))) (Or.inr (hw _ (List.mem_of_getElem? (i := 15) rfl))) (by decide) (t := .long) (t' := .long) (by decide) (by decide)))
  have F_ctime := F_ctime.same W4
  refine go st4 ?_
  refine go (fun _ k => by refine XS.aloadN X4.here hx rfl (hb hby d_prog_7_method_1_code_20) rfl rfl ?_; exact k) ?_
  refine go (fun _ k => by refine XS.lload X4.here hx rfl (hb hby d_prog_7_method_1_code_21) rfl ?_; exact k) ?_
  show OwnEnd _ _ _ _ _ _ _ (T4.setTop (mkF m 23 (fL0 a0' q1 q2 q3 q4 p5 p6 p7 q8 p9 p10 q11) [(.long q4), (.ref a0')]))
  obtain ⟨T5, h5, X5, e5, W5, st5⟩ := putF X4 hx hZ hown (host := "") (Or.inl (hw _ (List.mem_of_getElem? (i := 16) rfl))) Via.refl e4 F_mtime EA (Or.inr ⟨(hw _ (List.mem_of_getElem? (i := 17) rfl)), rfl, hnm⟩) (hw _ (List.mem_of_getElem? (i := 2) rfl)) (ty := .long) (by decide) rfl rfl (g := (mkF m 23 (fL0 a0' q1 q2 q3 q4 p5 p6 p7 q8 p9 p10 q11) [(.long q4), (.ref a0')])) rfl rfl (hb hby d_prog_7_method_1_code_23)
  have N5 := Fr.snoc X5 N4 ga
  have EA := EA.wr W5
  have KK := Keep.wr KK W5 (Or.inl (List.mem_of_getElem? (i := 0) rfl))
  have F_czxid := F_czxid.other W5 (Or.inr (slot_ne (Or.inr (hw _ (List.mem_of_getElem? (i := 11) rfl))) (Or.inr (hw _ (List.mem_of_getElem? (i := 17) rfl))) (by decide) (t := .long) (t' := .long) (by decide) (by decide)))
  have F_mzxid := F_mzxid.other W5 (Or.inr (slot_ne (Or.inr (hw _ (List.mem_of_getElem? (i := 13) rfl))) (Or.inr (hw _ (List.mem_of_getElem? (i := 17) rfl))) (by decide) (t := .long) (t' := .long) (by decide) (by decide)))
  have F_ctime := F_ctime.other W5 (Or.inr (slot_ne (Or.inr (hw _ (List.mem_of_getElem? (i := 15) rfl))) (Or.inr (hw _ (List.mem_of_getElem? (i := 17) rfl))) (by decide) (t := .long) (t' := .long) (by decide) (by decide)))
  have F_version := F_version.other W5 (Or.inr (slot_ne (Or.inr (hw _ (List.mem_of_getElem? (i := 19) rfl))) (Or.inr (hw _ (List.mem_of_getElem? (i := 17) rfl))) (by decide) (t := .int) (t' := .long) (by decide) (by decide)))
  have F_cversion := F_cversion.other W5 (Or.inr (slot_ne (Or.inr (hw _ (List.mem_of_getElem? (i := 21) rfl))) (Or.inr (hw _ (List.mem_of_getElem? (i := 17) rfl))) (by decide) (t := .int) (t' := .long) (by decide) (by decide)))
  have F_aversion := F_aversion.other W5 (Or.inr (slot_ne (Or.inr (hw _ (List.mem_of_getElem? (i := 23) rfl))) (Or.inr (hw _ (List.mem_of_getElem? (i := 17) rfl))) (by decide) (t := .int) (t' := .long) (by decide) (by decide)))
  have F_ephemeralOwner := F_ephemeralOwner.other W5 (Or.inr (slot_ne (Or.inr (hw _ (List.mem_of_getElem? (i := 25) rfl))) (Or.inr (hw _ (List.mem_of_getElem? (i := 17) rfl))) (by decide) (t := .long) (t' := .long) (by decide) (by decide)))
  have F_dataLength := F_dataLength.other W5 (Or.inr (slot_ne (Or.inr (hw _ (List.mem_of_getElem? (i := 27) rfl))) (Or.inr (hw _ (List.mem_of_getElem? (i := 17) rfl))) (by decide) (t := .int) (t' := .long) (by decide) (by decide)))
  have F_numChildren := F_numChildren.other W5 (Or.inr (slot_ne (Or.inr (hw _ (List.mem_of_getElem? (i := 29) rfl))) (Or.inr (hw _ (List.mem_of_getElem? (i := 17) rfl))) (by decide) (t := .int) (t' := .long) (by decide) (by decide)))
  have F_pzxid := F_pzxid.other W5 (Or.inr (slot_ne (Or.inr (hw _ (List.mem_of_getElem? (i := 31) rfl))) (Or.inr (hw _ (List.mem_of_getElem? (i := 17) rfl))) (by decide) (t := .long) (t' := .long) (by decide) (by decide)))
  have F_mtime := F_mtime.same W5
  refine go st5 ?_
  refine go (fun _ k => by refine XS.aloadN X5.here hx rfl (hb hby d_prog_7_method_1_code_26) rfl rfl ?_; exact k) ?_
  refine go (fun _ k => by refine XS.iload X5.here hx rfl (hb hby d_prog_7_method_1_code_27) rfl ?_; exact k) ?_
  show OwnEnd _ _ _ _ _ _ _ (T5.setTop (mkF m 29 (fL0 a0' q1 q2 q3 q4 p5 p6 p7 q8 p9 p10 q11) [(.int p5), (.ref a0')]))
  obtain ⟨T6, h6, X6, e6, W6, st6⟩ := putF X5 hx hZ hown (host := "") (Or.inl (hw _ (List.mem_of_getElem? (i := 18) rfl))) Via.refl e5 F_version EA (Or.inr ⟨(hw _ (List.mem_of_getElem? (i := 19) rfl)), rfl, hnm⟩) (hw _ (List.mem_of_getElem? (i := 2) rfl)) (ty := .int) (by decide) rfl rfl (g := (mkF m 29 (fL0 a0' q1 q2 q3 q4 p5 p6 p7 q8 p9 p10 q11) [(.int p5), (.ref a0')])) rfl rfl (hb hby d_prog_7_method_1_code_29)
  have N6 := Fr.snoc X6 N5 ga
  have EA := EA.wr W6
  have KK := Keep.wr KK W6 (Or.inl (List.mem_of_getElem? (i := 0) rfl))
  have F_czxid := F_czxid.other W6 (Or.inr (slot_ne (Or.inr (hw _ (List.mem_of_getElem? (i := 11) rfl))) (Or.inr (hw _ (List.mem_of_getElem? (i := 19) rfl))) (by decide) (t := .long) (t' := .int) (by decide) (by decide)))
  have F_mzxid := F_mzxid.other W6 (Or.inr (slot_ne (Or.inr (hw _ (List.mem_of_getElem? (i := 13) rfl))) (Or.inr (hw _ (List.mem_of_getElem? (i := 19) rfl))) (by decide) (t := .long) (t' := .int) (by decide) (by decide)))
  have F_ctime := F_ctime.other W6 (Or.inr (slot_ne (Or.inr (hw _ (List.mem_of_getElem? (i := 15) rfl))) (Or.inr (hw _ (List.mem_of_getElem? (i := 19) rfl))) (by decide) (t := .long) (t' := .int) (by decide) (by decide)))
  have F_mtime := F_mtime.other W6 (Or.inr (slot_ne (Or.inr (hw _ (List.mem_of_getElem? (i := 17) rfl))) (Or.inr (hw _ (List.mem_of_getElem? (i := 19) rfl))) (by decide) (t := .long) (t' := .int) (by decide) (by decide)))
  have F_cversion := F_cversion.other W6 (Or.inr (slot_ne (Or.inr (hw _ (List.mem_of_getElem? (i := 21) rfl))) (Or.inr (hw _ (List.mem_of_getElem? (i := 19) rfl))) (by decide) (t := .int) (t' := .int) (by decide) (by decide)))
  have F_aversion := F_aversion.other W6 (Or.inr (slot_ne (Or.inr (hw _ (List.mem_of_getElem? (i := 23) rfl))) (Or.inr (hw _ (List.mem_of_getElem? (i := 19) rfl))) (by decide) (t := .int) (t' := .int) (by decide) (by decide)))
  have F_ephemeralOwner := F_ephemeralOwner.other W6 (Or.inr (slot_ne (Or.inr (hw _ (List.mem_of_getElem? (i := 25) rfl))) (Or.inr (hw _ (List.mem_of_getElem? (i := 19) rfl))) (by decide) (t := .long) (t' := .int) (by decide) (by decide)))
  have F_dataLength := F_dataLength.other W6 (Or.inr (slot_ne (Or.inr (hw _ (List.mem_of_getElem? (i := 27) rfl))) (Or.inr (hw _ (List.mem_of_getElem? (i := 19) rfl))) (by decide) (t := .int) (t' := .int) (by decide) (by decide)))
  have F_numChildren := F_numChildren.other W6 (Or.inr (slot_ne (Or.inr (hw _ (List.mem_of_getElem? (i := 29) rfl))) (Or.inr (hw _ (List.mem_of_getElem? (i := 19) rfl))) (by decide) (t := .int) (t' := .int) (by decide) (by decide)))
  have F_pzxid := F_pzxid.other W6 (Or.inr (slot_ne (Or.inr (hw _ (List.mem_of_getElem? (i := 31) rfl))) (Or.inr (hw _ (List.mem_of_getElem? (i := 19) rfl))) (by decide) (t := .long) (t' := .int) (by decide) (by decide)))
  have F_version := F_version.same W6
  refine go st6 ?_
  refine go (fun _ k => by refine XS.aloadN X6.here hx rfl (hb hby d_prog_7_method_1_code_32) rfl rfl ?_; exact k) ?_
  refine go (fun _ k => by refine XS.iload X6.here hx rfl (hb hby d_prog_7_method_1_code_33) rfl ?_; exact k) ?_
  show OwnEnd _ _ _ _ _ _ _ (T6.setTop (mkF m 35 (fL0 a0' q1 q2 q3 q4 p5 p6 p7 q8 p9 p10 q11) [(.int p6), (.ref a0')]))
  obtain ⟨T7, h7, X7, e7, W7, st7⟩ := putF X6 hx hZ hown (host := "") (Or.inl (hw _ (List.mem_of_getElem? (i := 20) rfl))) Via.refl e6 F_cversion EA (Or.inr ⟨(hw _ (List.mem_of_getElem? (i := 21) rfl)), rfl, hnm⟩) (hw _ (List.mem_of_getElem? (i := 2) rfl)) (ty := .int) (by decide) rfl rfl (g := (mkF m 35 (fL0 a0' q1 q2 q3 q4 p5 p6 p7 q8 p9 p10 q11) [(.int p6), (.ref a0')])) rfl rfl (hb hby d_prog_7_method_1_code_35)
  have N7 := Fr.snoc X7 N6 ga
  have EA := EA.wr W7
  have KK := Keep.wr KK W7 (Or.inl (List.mem_of_getElem? (i := 0) rfl))
  have F_czxid := F_czxid.other W7 (Or.inr (slot_ne (Or.inr (hw _ (List.mem_of_getElem? (i := 11) rfl))) (Or.inr (hw _ (List.mem_of_getElem? (i := 21) rfl))) (by decide) (t := .long) (t' := .int) (by decide) (by decide)))
  have F_mzxid := F_mzxid.other W7 (Or.inr (slot_ne (Or.inr (hw _ (List.mem_of_getElem? (i := 13) rfl))) (Or.inr (hw _ (List.mem_of_getElem? (i := 21) rfl))) (by decide) (t := .long) (t' := .int) (by decide) (by decide)))
  have F_ctime := F_ctime.other W7 (Or.inr (slot_ne (Or.inr (hw _ (List.mem_of_getElem? (i := 15) rfl))) (Or.inr (hw _ (List.mem_of_getElem? (i := 21) rfl))) (by decide) (t := .long) (t' := .int) (by decide) (by decide)))
  have F_mtime := F_mtime.other W7 (Or.inr (slot_ne (Or.inr (hw _ (List.mem_of_getElem? (i := 17) rfl))) (Or.inr (hw _ (List.mem_of_getElem? (i := 21) rfl))) (by decide) (t := .long) (t' := .int) (by decide) (by decide)))
  have F_version := F_version.other W7 (Or.inr (slot_ne (Or.inr (hw _ (List.mem_of_getElem? (i := 19) rfl))) (Or.inr (hw _ (List.mem_of_getElem? (i := 21) rfl))) (by decide) (t := .int) (t' := .int) (by decide) (by decide)))
  have F_aversion := F_aversion.other W7 (Or.inr (slot_ne (Or.inr (hw _ (List.mem_of_getElem? (i := 23) rfl))) (Or.inr (hw _ (List.mem_of_getElem? (i := 21) rfl))) (by decide) (t := .int) (t' := .int) (by decide) (by decide)))
  have F_ephemeralOwner := F_ephemeralOwner.other W7 (Or.inr (slot_ne (Or.inr (hw _ (List.mem_of_getElem? (i := 25) rfl))) (Or.inr (hw _ (List.mem_of_getElem? (i := 21) rfl))) (by decide) (t := .long) (t' := .int) (by decide) (by decide)))
  have F_dataLength := F_dataLength.other W7 (Or.inr (slot_ne (Or.inr (hw _ (List.mem_of_getElem? (i := 27) rfl))) (Or.inr (hw _ (List.mem_of_getElem? (i := 21) rfl))) (by decide) (t := .int) (t' := .int) (by decide) (by decide)))
  have F_numChildren := F_numChildren.other W7 (Or.inr (slot_ne (Or.inr (hw _ (List.mem_of_getElem? (i := 29) rfl))) (Or.inr (hw _ (List.mem_of_getElem? (i := 21) rfl))) (by decide) (t := .int) (t' := .int) (by decide) (by decide)))
  have F_pzxid := F_pzxid.other W7 (Or.inr (slot_ne (Or.inr (hw _ (List.mem_of_getElem? (i := 31) rfl))) (Or.inr (hw _ (List.mem_of_getElem? (i := 21) rfl))) (by decide) (t := .long) (t' := .int) (by decide) (by decide)))
  have F_cversion := F_cversion.same W7
  refine go st7 ?_
  refine go (fun _ k => by refine XS.aloadN X7.here hx rfl (hb hby d_prog_7_method_1_code_38) rfl rfl ?_; exact k) ?_
  refine go (fun _ k => by refine XS.iload X7.here hx rfl (hb hby d_prog_7_method_1_code_39) rfl ?_; exact k) ?_
  show OwnEnd _ _ _ _ _ _ _ (T7.setTop (mkF m 41 (fL0 a0' q1 q2 q3 q4 p5 p6 p7 q8 p9 p10 q11) [(.int p7), (.ref a0')]))
  obtain ⟨T8, h8, X8, e8, W8, st8⟩ := putF X7 hx hZ hown (host := "") (Or.inl (hw _ (List.mem_of_getElem? (i := 22) rfl))) Via.refl e7 F_aversion EA (Or.inr ⟨(hw _ (List.mem_of_getElem? (i := 23) rfl)), rfl, hnm⟩) (hw _ (List.mem_of_getElem? (i := 2) rfl)) (ty := .int) (by decide) rfl rfl (g := (mkF m 41 (fL0 a0' q1 q2 q3 q4 p5 p6 p7 q8 p9 p10 q11) [(.int p7), (.ref a0')])) rfl rfl (hb hby d_prog_7_method_1_code_41)
  have N8 := Fr.snoc X8 N7 ga
  have EA := EA.wr W8
  have KK := Keep.wr KK W8 (Or.inl (List.mem_of_getElem? (i := 0) rfl))
  have F_czxid := F_czxid.other W8 (Or.inr (slot_ne (Or.inr (hw _ (List.mem_of_getElem? (i := 11) rfl))) (Or.inr (hw _ (List.mem_of_getElem? (i := 23) rfl))) (by decide) (t := .long) (t' := .int) (by decide) (by decide)))
  have F_mzxid := F_mzxid.other W8 (Or.inr (slot_ne (Or.inr (hw _ (List.mem_of_getElem? (i := 13) rfl))) (Or.inr (hw _ (List.mem_of_getElem? (i := 23) rfl))) (by decide) (t := .long) (t' := .int) (by decide) (by decide)))
  have F_ctime := F_ctime.other W8 (Or.inr (slot_ne (Or.inr (hw _ (List.mem_of_getElem? (i := 15) rfl))) (Or.inr (hw _ (List.mem_of_getElem? (i := 23) rfl))) (by decide) (t := .long) (t' := .int) (by decide) (by decide)))
  have F_mtime := F_mtime.other W8 (Or.inr (slot_ne (Or.inr (hw _ (List.mem_of_getElem? (i := 17) rfl))) (Or.inr (hw _ (List.mem_of_getElem? (i := 23) rfl))) (by decide) (t := .long) (t' := .int) (by decide) (by decide)))
  have F_version := F_version.other W8 (Or.inr (slot_ne (Or.inr (hw _ (List.mem_of_getElem? (i := 19) rfl))) (Or.inr (hw _ (List.mem_of_getElem? (i := 23) rfl))) (by decide) (t := .int) (t' := .int) (by decide) (by decide)))
  have F_cversion := F_cversion.other W8 (Or.inr (slot_ne (Or.inr (hw _ (List.mem_of_getElem? (i := 21) rfl))) (Or.inr (hw _ (List.mem_of_getElem? (i := 23) rfl))) (by decide) (t := .int) (t' := .int) (by decide) (by decide)))
  have F_ephemeralOwner := F_ephemeralOwner.other W8 (Or.inr (slot_ne (Or.inr (hw _ (List.mem_of_getElem? (i := 25) rfl))) (Or.inr (hw _ (List.mem_of_getElem? (i := 23) rfl))) (by decide) (t := .long) (t' := .int) (by decide) (by decide)))
  have F_dataLength := F_dataLength.other W8 (Or.inr (slot_ne (Or.inr (hw _ (List.mem_of_getElem? (i := 27) rfl))) (Or.inr (hw _ (List.mem_of_getElem? (i := 23) rfl))) (by decide) (t := .int) (t' := .int) (by decide) (by decide)))
  have F_numChildren := F_numChildren.other W8 (Or.inr (slot_ne (Or.inr (hw _ (List.mem_of_getElem? (i := 29) rfl))) (Or.inr (hw _ (List.mem_of_getElem? (i := 23) rfl))) (by decide) (t := .int) (t' := .int) (by decide) (by decide)))
  have F_pzxid := F_pzxid.other W8 (Or.inr (slot_ne (Or.inr (hw _ (List.mem_of_getElem? (i := 31) rfl))) (Or.inr (hw _ (List.mem_of_getElem? (i := 23) rfl))) (by decide) (t := .long) (t' := .int) (by decide) (by decide)))
  have F_aversion := F_aversion.same W8
  refine go st8 ?_
  refine go (fun _ k => by refine XS.aloadN X8.here hx rfl (hb hby d_prog_7_method_1_code_44) rfl rfl ?_; exact k) ?_
  refine go (fun _ k => by refine XS.lload X8.here hx rfl (hb hby d_prog_7_method_1_code_45) rfl ?_; exact k) ?_
  show OwnEnd _ _ _ _ _ _ _ (T8.setTop (mkF m 47 (fL0 a0' q1 q2 q3 q4 p5 p6 p7 q8 p9 p10 q11) [(.long q8), (.ref a0')]))
  obtain ⟨T9, h9, X9, e9, W9, st9⟩ := putF X8 hx hZ hown (host := "") (Or.inl (hw _ (List.mem_of_getElem? (i := 24) rfl))) Via.refl e8 F_ephemeralOwner EA (Or.inr ⟨(hw _ (List.mem_of_getElem? (i := 25) rfl)), rfl, hnm⟩) (hw _ (List.mem_of_getElem? (i := 2) rfl)) (ty := .long) (by decide) rfl rfl (g := (mkF m 47 (fL0 a0' q1 q2 q3 q4 p5 p6 p7 q8 p9 p10 q11) [(.long q8), (.ref a0')])) rfl rfl (hb hby d_prog_7_method_1_code_47)
  have N9 := Fr.snoc X9 N8 ga
  have EA := EA.wr W9
  have KK := Keep.wr KK W9 (Or.inl (List.mem_of_getElem? (i := 0) rfl))
  have F_czxid := F_czxid.other W9 (Or.inr (slot_ne (Or.inr (hw _ (List.mem_of_getElem? (i := 11) rfl))) (Or.inr (hw _ (List.mem_of_getElem? (i := 25) rfl))) (by decide) (t := .long) (t' := .long) (by decide) (by decide)))
  have F_mzxid := F_mzxid.other W9 (Or.inr (slot_ne (Or.inr (hw _ (List.mem_of_getElem? (i := 13) rfl))) (Or.inr (hw _ (List.mem_of_getElem? (i := 25) rfl))) (by decide) (t := .long) (t' := .long) (by decide) (by decide)))
  have F_ctime := F_ctime.other W9 (Or.inr (slot_ne (Or.inr (hw _ (List.mem_of_getElem? (i := 15) rfl))) (Or.inr (hw _ (List.mem_of_getElem? (i := 25) rfl))) (by decide) (t := .long) (t' := .long) (by decide) (by decide)))
  have F_mtime := F_mtime.other W9 (Or.inr (slot_ne (Or.inr (hw _ (List.mem_of_getElem? (i := 17) rfl))) (Or.inr (hw _ (List.mem_of_getElem? (i := 25) rfl))) (by decide) (t := .long) (t' := .long) (by decide) (by decide)))
  have F_version := F_version.other W9 (Or.inr (slot_ne (Or.inr (hw _ (List.mem_of_getElem? (i := 19) rfl))) (Or.inr (hw _ (List.mem_of_getElem? (i := 25) rfl))) (by decide) (t := .int) (t' := .long) (by decide) (by decide)))
  have F_cversion := F_cversion.other W9 (Or.inr (slot_ne (Or.inr (hw _ (List.mem_of_getElem? (i := 21) rfl))) (Or.inr (hw _ (List.mem_of_getElem? (i := 25) rfl))) (by decide) (t := .int) (t' := .long) (by decide) (by decide)))
  have F_aversion := F_aversion.other W9 (Or.inr (slot_ne (Or.inr (hw _ (List.mem_of_getElem? (i := 23) rfl))) (Or.inr (hw _ (List.mem_of_getElem? (i := 25) rfl))) (by decide) (t := .int) (t' := .long) (by decide) (by decide)))
  have F_dataLength := F_dataLength.other W9 (Or.inr (slot_ne (Or.inr (hw _ (List.mem_of_getElem? (i := 27) rfl))) (Or.inr (hw _ (List.mem_of_getElem? (i := 25) rfl))) (by decide) (t := .int) (t' := .long) (by decide) (by decide)))
  have F_numChildren := F_numChildren.other W9 (Or.inr (slot_ne (Or.inr (hw _ (List.mem_of_getElem? (i := 29) rfl))) (Or.inr (hw _ (List.mem_of_getElem? (i := 25) rfl))) (by decide) (t := .int) (t' := .long) (by decide) (by decide)))
  have F_pzxid := F_pzxid.other W9 (Or.inr (slot_ne (Or.inr (hw _ (List.mem_of_getElem? (i := 31) rfl))) (Or.inr (hw _ (List.mem_of_getElem? (i := 25) rfl))) (by decide) (t := .long) (t' := .long) (by decide) (by decide)))
  have F_ephemeralOwner := F_ephemeralOwner.same W9
  refine go st9 ?_
  refine go (fun _ k => by refine XS.aloadN X9.here hx rfl (hb hby d_prog_7_method_1_code_50) rfl rfl ?_; exact k) ?_
  refine go (fun _ k => by refine XS.iload X9.here hx rfl (hb hby d_prog_7_method_1_code_51) rfl ?_; exact k) ?_
  show OwnEnd _ _ _ _ _ _ _ (T9.setTop (mkF m 53 (fL0 a0' q1 q2 q3 q4 p5 p6 p7 q8 p9 p10 q11) [(.int p9), (.ref a0')]))
  obtain ⟨T10, h10, X10, e10, W10, st10⟩ := putF X9 hx hZ hown (host := "") (Or.inl (hw _ (List.mem_of_getElem? (i := 26) rfl))) Via.refl e9 F_dataLength EA (Or.inr ⟨(hw _ (List.mem_of_getElem? (i := 27) rfl)), rfl, hnm⟩) (hw _ (List.mem_of_getElem? (i := 2) rfl)) (ty := .int) (by decide) rfl rfl (g := (mkF m 53 (fL0 a0' q1 q2 q3 q4 p5 p6 p7 q8 p9 p10 q11) [(.int p9), (.ref a0')])) rfl rfl (hb hby d_prog_7_method_1_code_53)
  have N10 := Fr.snoc X10 N9 ga
  have EA := EA.wr W10
  have KK := Keep.wr KK W10 (Or.inl (List.mem_of_getElem? (i := 0) rfl))
  have F_czxid := F_czxid.other W10 (Or.inr (slot_ne (Or.inr (hw _ (List.mem_of_getElem? (i := 11) rfl))) (Or.inr (hw _ (List.mem_of_getElem? (i := 27) rfl))) (by decide) (t := .long) (t' := .int) (by decide) (by decide)))
  have F_mzxid := F_mzxid.other W10 (Or.inr (slot_ne (Or.inr (hw _ (List.mem_of_getElem? (i := 13) rfl))) (Or.inr (hw _ (List.mem_of_getElem? (i := 27) rfl))) (by decide) (t := .long) (t' := .int) (by decide) (by decide)))
  have F_ctime := F_ctime.other W10 (Or.inr (slot_ne (Or.inr (hw _ (List.mem_of_getElem? (i := 15) rfl))) (Or.inr (hw _ (List.mem_of_getElem? (i := 27) rfl))) (by decide) (t := .long) (t' := .int) (by decide) (by decide)))
  have F_mtime := F_mtime.other W10 (Or.inr (slot_ne (Or.inr (hw _ (List.mem_of_getElem? (i := 17) rfl))) (Or.inr (hw _ (List.mem_of_getElem? (i := 27) rfl))) (by decide) (t := .long) (t' := .int) (by decide) (by decide)))
  have F_version := F_version.other W10 (Or.inr (slot_ne (Or.inr (hw _ (List.mem_of_getElem? (i := 19) rfl))) (Or.inr (hw _ (List.mem_of_getElem? (i := 27) rfl))) (by decide) (t := .int) (t' := .int) (by decide) (by decide)))
  have F_cversion := F_cversion.other W10 (Or.inr (slot_ne (Or.inr (hw _ (List.mem_of_getElem? (i := 21) rfl))) (Or.inr (hw _ (List.mem_of_getElem? (i := 27) rfl))) (by decide) (t := .int) (t' := .int) (by decide) (by decide)))
  have F_aversion := F_aversion.other W10 (Or.inr (slot_ne (Or.inr (hw _ (List.mem_of_getElem? (i := 23) rfl))) (Or.inr (hw _ (List.mem_of_getElem? (i := 27) rfl))) (by decide) (t := .int) (t' := .int) (by decide) (by decide)))
  have F_ephemeralOwner := F_ephemeralOwner.other W10 (Or.inr (slot_ne (Or.inr (hw _ (List.mem_of_getElem? (i := 25) rfl))) (Or.inr (hw _ (List.mem_of_getElem? (i := 27) rfl))) (by decide) (t := .long) (t' := .int) (by decide) (by decide)))
  have F_numChildren := F_numChildren.other W10 (Or.inr (slot_ne (Or.inr (hw _ (List.mem_of_getElem? (i := 29) rfl))) (Or.inr (hw _ (List.mem_of_getElem? (i := 27) rfl))) (by decide) (t := .int) (t' := .int) (by decide) (by decide)))
  have F_pzxid := F_pzxid.other W10 (Or.inr (slot_ne (Or.inr (hw _ (List.mem_of_getElem? (i := 31) rfl))) (Or.inr (hw _ (List.mem_of_getElem? (i := 27) rfl))) (by decide) (t := .long) (t' := .int) (by decide) (by decide)))
  have F_dataLength := F_dataLength.same W10
  refine go st10 ?_
  refine go (fun _ k => by refine XS.aloadN X10.here hx rfl (hb hby d_prog_7_method_1_code_56) rfl rfl ?_; exact k) ?_
  refine go (fun _ k => by refine XS.iload X10.here hx rfl (hb hby d_prog_7_method_1_code_57) rfl ?_; exact k) ?_
  show OwnEnd _ _ _ _ _ _ _ (T10.setTop (mkF m 59 (fL0 a0' q1 q2 q3 q4 p5 p6 p7 q8 p9 p10 q11) [(.int p10), (.ref a0')]))
  obtain ⟨T11, h11, X11, e11, W11, st11⟩ := putF X10 hx hZ hown (host := "") (Or.inl (hw _ (List.mem_of_getElem? (i := 28) rfl))) Via.refl e10 F_numChildren EA (Or.inr ⟨(hw _ (List.mem_of_getElem? (i := 29) rfl)), rfl, hnm⟩) (hw _ (List.mem_of_getElem? (i := 2) rfl)) (ty := .int) (by decide) rfl rfl (g := (mkF m 59 (fL0 a0' q1 q2 q3 q4 p5 p6 p7 q8 p9 p10 q11) [(.int p10), (.ref a0')])) rfl rfl (hb hby d_prog_7_method_1_code_59)
  have N11 := Fr.snoc X11 N10 ga
  have EA := EA.wr W11
  have KK := Keep.wr KK W11 (Or.inl (List.mem_of_getElem? (i := 0) rfl))
  have F_czxid := F_czxid.other W11 (Or.inr (slot_ne (Or.inr (hw _ (List.mem_of_getElem? (i := 11) rfl))) (Or.inr (hw _ (List.mem_of_getElem? (i := 29) rfl))) (by decide) (t := .long) (t' := .int) (by decide) (by decide)))
  have F_mzxid := F_mzxid.other W11 (Or.inr (slot_ne (Or.inr (hw _ (List.mem_of_getElem? (i := 13) rfl))) (Or.inr (hw _ (List.mem_of_getElem? (i := 29) rfl))) (by decide) (t := .long) (t' := .int) (by decide) (by decide)))
  have F_ctime := F_ctime.other W11 (Or.inr (slot_ne (Or.inr (hw _ (List.mem_of_getElem? (i := 15) rfl))) (Or.inr (hw _ (List.mem_of_getElem? (i := 29) rfl))) (by decide) (t := .long) (t' := .int) (by decide) (by decide)))
  have F_mtime := F_mtime.other W11 (Or.inr (slot_ne (Or.inr (hw _ (List.mem_of_getElem? (i := 17) rfl))) (Or.inr (hw _ (List.mem_of_getElem? (i := 29) rfl))) (by decide) (t := .long) (t' := .int) (by decide) (by decide)))
  have F_version := F_version.other W11 (Or.inr (slot_ne (Or.inr (hw _ (List.mem_of_getElem? (i := 19) rfl))) (Or.inr (hw _ (List.mem_of_getElem? (i := 29) rfl))) (by decide) (t := .int) (t' := .int) (by decide) (by decide)))
  have F_cversion := F_cversion.other W11 (Or.inr (slot_ne (Or.inr (hw _ (List.mem_of_getElem? (i := 21) rfl))) (Or.inr (hw _ (List.mem_of_getElem? (i := 29) rfl))) (by decide) (t := .int) (t' := .int) (by decide) (by decide)))
  have F_aversion := F_aversion.other W11 (Or.inr (slot_ne (Or.inr (hw _ (List.mem_of_getElem? (i := 23) rfl))) (Or.inr (hw _ (List.mem_of_getElem? (i := 29) rfl))) (by decide) (t := .int) (t' := .int) (by decide) (by decide)))
  have F_ephemeralOwner := F_ephemeralOwner.other W11 (Or.inr (slot_ne (Or.inr (hw _ (List.mem_of_getElem? (i := 25) rfl))) (Or.inr (hw _ (List.mem_of_getElem? (i := 29) rfl))) (by decide) (t := .long) (t' := .int) (by decide) (by decide)))
  have F_dataLength := F_dataLength.other W11 (Or.inr (slot_ne (Or.inr (hw _ (List.mem_of_getElem? (i := 27) rfl))) (Or.inr (hw _ (List.mem_of_getElem? (i := 29) rfl))) (by decide) (t := .int) (t' := .int) (by decide) (by decide)))
  have F_pzxid := F_pzxid.other W11 (Or.inr (slot_ne (Or.inr (hw _ (List.mem_of_getElem? (i := 31) rfl))) (Or.inr (hw _ (List.mem_of_getElem? (i := 29) rfl))) (by decide) (t := .long) (t' := .int) (by decide) (by decide)))
  have F_numChildren := F_numChildren.same W11
  refine go st11 ?_
  refine go (fun _ k => by refine XS.aloadN X11.here hx rfl (hb hby d_prog_7_method_1_code_62) rfl rfl ?_; exact k) ?_
  refine go (fun _ k => by refine XS.lload X11.here hx rfl (hb hby d_prog_7_method_1_code_63) rfl ?_; exact k) ?_
  show OwnEnd _ _ _ _ _ _ _ (T11.setTop (mkF m 65 (fL0 a0' q1 q2 q3 q4 p5 p6 p7 q8 p9 p10 q11) [(.long q11), (.ref a0')]))
  obtain ⟨T12, h12, X12, e12, W12, st12⟩ := putF X11 hx hZ hown (host := "") (Or.inl (hw _ (List.mem_of_getElem? (i := 30) rfl))) Via.refl e11 F_pzxid EA (Or.inr ⟨(hw _ (List.mem_of_getElem? (i := 31) rfl)), rfl, hnm⟩) (hw _ (List.mem_of_getElem? (i := 2) rfl)) (ty := .long) (by decide) rfl rfl (g := (mkF m 65 (fL0 a0' q1 q2 q3 q4 p5 p6 p7 q8 p9 p10 q11) [(.long q11), (.ref a0')])) rfl rfl (hb hby d_prog_7_method_1_code_65)
  have N12 := Fr.snoc X12 N11 ga
  have EA := EA.wr W12
  have KK := Keep.wr KK W12 (Or.inl (List.mem_of_getElem? (i := 0) rfl))
  have F_czxid := F_czxid.other W12 (Or.inr (slot_ne (Or.inr (hw _ (List.mem_of_getElem? (i := 11) rfl))) (Or.inr (hw _ (List.mem_of_getElem? (i := 31) rfl))) (by decide) (t := .long) (t' := .long) (by decide) (by decide)))
  have F_mzxid := F_mzxid.other W12 (Or.inr (slot_ne (Or.inr (hw _ (List.mem_of_getElem? (i := 13) rfl))) (Or.inr (hw _ (List.mem_of_getElem? (i := 31) rfl))) (by decide) (t := .long) (t' := .long) (by decide) (by decide)))
  have F_ctime := F_ctime.other W12 (Or.inr (slot_ne (Or.inr (hw _ (List.mem_of_getElem? (i := 15) rfl))) (Or.inr (hw _ (List.mem_of_getElem? (i := 31) rfl))) (by decide) (t := .long) (t' := .long) (by decide) (by decide)))
  have F_mtime := F_mtime.other W12 (Or.inr (slot_ne (Or.inr (hw _ (List.mem_of_getElem? (i := 17) rfl))) (Or.inr (hw _ (List.mem_of_getElem? (i := 31) rfl))) (by decide) (t := .long) (t' := .long) (by decide) (by decide)))
  have F_version := F_version.other W12 (Or.inr (slot_ne (Or.inr (hw _ (List.mem_of_getElem? (i := 19) rfl))) (Or.inr (hw _ (List.mem_of_getElem? (i := 31) rfl))) (by decide) (t := .int) (t' := .long) (by decide) (by decide)))
  have F_cversion := F_cversion.other W12 (Or.inr (slot_ne (Or.inr (hw _ (List.mem_of_getElem? (i := 21) rfl))) (Or.inr (hw _ (List.mem_of_getElem? (i := 31) rfl))) (by decide) (t := .int) (t' := .long) (by decide) (by decide)))
  have F_aversion := F_aversion.other W12 (Or.inr (slot_ne (Or.inr (hw _ (List.mem_of_getElem? (i := 23) rfl))) (Or.inr (hw _ (List.mem_of_getElem? (i := 31) rfl))) (by decide) (t := .int) (t' := .long) (by decide) (by decide)))
  have F_ephemeralOwner := F_ephemeralOwner.other W12 (Or.inr (slot_ne (Or.inr (hw _ (List.mem_of_getElem? (i := 25) rfl))) (Or.inr (hw _ (List.mem_of_getElem? (i := 31) rfl))) (by decide) (t := .long) (t' := .long) (by decide) (by decide)))
  have F_dataLength := F_dataLength.other W12 (Or.inr (slot_ne (Or.inr (hw _ (List.mem_of_getElem? (i := 27) rfl))) (Or.inr (hw _ (List.mem_of_getElem? (i := 31) rfl))) (by decide) (t := .int) (t' := .long) (by decide) (by decide)))
  have F_numChildren := F_numChildren.other W12 (Or.inr (slot_ne (Or.inr (hw _ (List.mem_of_getElem? (i := 29) rfl))) (Or.inr (hw _ (List.mem_of_getElem? (i := 31) rfl))) (by decide) (t := .int) (t' := .long) (by decide) (by decide)))
  have F_pzxid := F_pzxid.same W12
  refine go st12 ?_
  show OwnEnd _ _ _ _ _ _ _ (T12.setTop (mkF m 68 (fL0 a0' q1 q2 q3 q4 p5 p6 p7 q8 p9 p10 q11) []))
  refine endV X12 hx hlk Bd.returns (hb hby d_prog_7_method_1_code_68) e12 (by decide) (by decide) ?_
  exact ⟨rfl, N12, KK, EA, F_czxid, F_mzxid, F_ctime, F_mtime, F_version, F_cversion, F_aversion, F_ephemeralOwner, F_dataLength, F_numChildren, F_pzxid⟩
theorem d_jdk_18_method_1_code_0 : decode jdk_18_method_1_code 0 = .ok (.aload_n 0, 1) := by decide +kernel
theorem d_jdk_18_method_1_code_1 : decode jdk_18_method_1_code 1 = .ok (.invokespecial 1, 3) := by decide +kernel
theorem d_jdk_18_method_1_code_4 : decode jdk_18_method_1_code 4 = .ok (.return_, 1) := by decide +kernel
theorem pn_java_lang_Number : plainName "java/lang/Number" = true := by first | (simp [plainName, overriddenIn]; done) | decide +kernel
theorem ef_rm_num_J (m : MethodId) (y0 : Addr) : entryFrame m #[(.ref y0)] 1 = mkF m 0 #[.val (.ref y0)] [] := by first | (simp [entryFrame, mkF, argsToLocals, Value.category]; done) | rfl
def Q_rm_num_J (Z : State) (a0' : Addr) (h0 : Heap) (n0 : Nat) (v : Option Value) (h : Heap) (L : List Loc) : Prop := v = none ∧ Fr n0 L ∧ h = h0
set_option maxRecDepth 65536 in
set_option maxHeartbeats 40000000 in
theorem rm_num_J (l : Launch) (Z : State) (a0 : Array Value) (hw : ∀ d ∈ tables_1, d.before a0 Z = true) (ws : List Jvm.Cond) (a0' : Addr) (h0 : Heap) (n0 : Nat) :
    MetFree l (⟨"java/lang/Number", "<init>", "()V"⟩ : MethodName) (head1 (Jvm.Cond.code (⟨"java/lang/Number", "<init>", "()V"⟩ : MethodName) jdk_18_method_1_code 1 none :: ws) ({ frames := 1, cells := 0, slots := 0, locals := 12 } : Room)) (fun a U => a = #[(.ref a0')] ∧ Z.Warmed39 U.vm ∧ U.heap = h0) (fun _ _ _ _ _ => True) (fun _ U o U' => ∃ v L, o = .returned v ∧ Q_rm_num_J Z a0' h0 n0 v U'.heap L ∧ FrameEnd U o U' L 0 0) := by
  refine MetFree.of_bodySF (plainFor_of_name pn_java_lang_Number) hisR ?_
  intro p e s m args below meth c s₁ Bd hml0 hP hK
  obtain ⟨rfl, hZ, hh⟩ := hP
  have hx := Bd.exec
  have hby := Bd.bytes
  have hlk := Bd.notSynchronized
  have hml : c.maxLocals = 1 := hml0
  have hown : s.vm.findClass "java/lang/Number" = some m.cls := findClass_of_methodNamed Bd.named
  have hnm := (name_of_methodNamed Bd.named Bd.method).1
  have X0 : Stand p l e ({ frames := 1, cells := 0, slots := 0, locals := 12 } : Room) s m #[(.ref a0')] below meth c s₁ [] 0 0 := Stand.of_body Bd
  have e0 : s₁.heap = h0 := by rw [← hh, Bd.state]; rfl
  have N0 := Fr.nil n0
  show OwnEnd p e below s (Q_rm_num_J Z a0' h0 n0) 0 0 (s₁.setTop (entryFrame m #[(.ref a0')] 1))
  refine go (fun t k => castTop (ef_rm_num_J m a0') k) ?_
  show OwnEnd _ _ _ _ _ _ _ (s₁.setTop (mkF m 0 #[.val (.ref a0')] []))
  refine go (fun _ k => by refine XS.aloadN X0.here hx rfl (hb hby d_jdk_18_method_1_code_0) rfl rfl ?_; exact k) ?_
  show OwnEnd _ _ _ _ _ _ _ (s₁.setTop (mkF m 1 #[.val (.ref a0')] [(.ref a0')]))
  obtain ⟨T1, X1, e1, st1⟩ := initO X0 hx hZ hown (hw _ (List.mem_of_getElem? (i := 57) rfl)) (hw _ (List.mem_of_getElem? (i := 8) rfl)) (hw _ (List.mem_of_getElem? (i := 9) rfl)) e0 (g := (mkF m 1 #[.val (.ref a0')] [(.ref a0')])) rfl (by rw [hml]; rfl) rfl (hb hby d_jdk_18_method_1_code_1) (by decide) (W := 0) (by show 2 * 0 + _ ≤ _; exact Nat.le_of_eq rfl) (by decide)
  refine go st1 ?_
  show OwnEnd _ _ _ _ _ _ _ (T1.setTop (mkF m 4 #[.val (.ref a0')] []))
  refine endV X1 hx hlk Bd.returns (hb hby d_jdk_18_method_1_code_4) e1 (by decide) (by decide) ?_
  exact ⟨rfl, N0, rfl⟩
theorem d_jdk_35_method_26_code_0 : decode jdk_35_method_26_code 0 = .ok (.aload_n 0, 1) := by decide +kernel
theorem d_jdk_35_method_26_code_1 : decode jdk_35_method_26_code 1 = .ok (.invokespecial 270, 3) := by decide +kernel
theorem pd___V : parseMethodDescriptor "()V" = some ⟨[], none⟩ := by decide +kernel
theorem d_jdk_35_method_26_code_4 : decode jdk_35_method_26_code 4 = .ok (.aload_n 0, 1) := by decide +kernel
theorem d_jdk_35_method_26_code_5 : decode jdk_35_method_26_code 5 = .ok (.lload_n 1, 1) := by decide +kernel
theorem d_jdk_35_method_26_code_6 : decode jdk_35_method_26_code 6 = .ok (.putfield 273, 3) := by decide +kernel
theorem d_jdk_35_method_26_code_9 : decode jdk_35_method_26_code 9 = .ok (.return_, 1) := by decide +kernel
theorem pn_java_lang_Long : plainName "java/lang/Long" = true := by first | (simp [plainName, overriddenIn]; done) | decide +kernel
theorem ef_rm_box_ini (m : MethodId) (y0 : Addr) (y1 : Int64) : entryFrame m #[(.ref y0), (.long y1)] 3 = mkF m 0 #[.val (.ref y0), .val (.long y1), .second] [] := by first | (simp [entryFrame, mkF, argsToLocals, Value.category]; done) | rfl
def Q_rm_box_ini (Z : State) (a0' : Addr) (q1 : Int64) (h0 : Heap) (n0 : Nat) (v : Option Value) (h : Heap) (L : List Loc) : Prop := v = none ∧ Fr n0 L ∧ Keep h0 h [a0'] ∧ Exa Z h a0' "java/lang/Long" ∧ Fld Z h a0' "java/lang/Long" "value" "J" (.long q1)
set_option maxRecDepth 65536 in
set_option maxHeartbeats 40000000 in
theorem rm_box_ini (l : Launch) (Z : State) (a0 : Array Value) (hw : ∀ d ∈ tables_1, d.before a0 Z = true) (ws : List Jvm.Cond) (a0' : Addr) (q1 : Int64) (h0 : Heap) (n0 : Nat) (ga : n0 ≤ a0') (EA : Exa Z h0 a0' "java/lang/Long") (F_value : Fld Z h0 a0' "java/lang/Long" "value" "J" (.long (0 : Int64))) :
    MetFree l (⟨"java/lang/Long", "<init>", "(J)V"⟩ : MethodName) (head1 (Jvm.Cond.code (⟨"java/lang/Long", "<init>", "(J)V"⟩ : MethodName) jdk_35_method_26_code 3 none :: ws) ({ frames := 2, cells := 0, slots := 0, locals := 24 } : Room)) (fun a U => a = #[(.ref a0'), (.long q1)] ∧ Z.Warmed39 U.vm ∧ U.heap = h0) (fun _ _ _ _ _ => True) (fun _ U o U' => ∃ v L, o = .returned v ∧ Q_rm_box_ini Z a0' q1 h0 n0 v U'.heap L ∧ FrameEnd U o U' L 0 0) := by
  refine MetFree.of_bodySF (plainFor_of_name pn_java_lang_Long) hisR ?_
  intro p e s m args below meth c s₁ Bd hml0 hP hK
  obtain ⟨rfl, hZ, hh⟩ := hP
  have hx := Bd.exec
  have hby := Bd.bytes
  have hlk := Bd.notSynchronized
  have hml : c.maxLocals = 3 := hml0
  have hown : s.vm.findClass "java/lang/Long" = some m.cls := findClass_of_methodNamed Bd.named
  have hnm := (name_of_methodNamed Bd.named Bd.method).1
  have X0 : Stand p l e ({ frames := 2, cells := 0, slots := 0, locals := 24 } : Room) s m #[(.ref a0'), (.long q1)] below meth c s₁ [] 0 0 := Stand.of_body Bd
  have e0 : s₁.heap = h0 := by rw [← hh, Bd.state]; rfl
  have N0 := Fr.nil n0
  show OwnEnd p e below s (Q_rm_box_ini Z a0' q1 h0 n0) 0 0 (s₁.setTop (entryFrame m #[(.ref a0'), (.long q1)] 3))
  refine go (fun t k => castTop (ef_rm_box_ini m a0' q1) k) ?_
  have KK := Keep.refl h0 [a0']
  show OwnEnd _ _ _ _ _ _ _ (s₁.setTop (mkF m 0 #[.val (.ref a0'), .val (.long q1), .second] []))
  refine go (fun _ k => by refine XS.aloadN X0.here hx rfl (hb hby d_jdk_35_method_26_code_0) rfl rfl ?_; exact k) ?_
  show OwnEnd _ _ _ _ _ _ _ (s₁.setTop (mkF m 1 #[.val (.ref a0'), .val (.long q1), .second] [(.ref a0')]))
  obtain ⟨_, T1, L1, X1, hQ1, st1⟩ := callInit X0 hx hZ hown rfl (hw _ (List.mem_of_getElem? (i := 51) rfl)) (hw _ (List.mem_of_getElem? (i := 52) rfl)) (hw _ (List.mem_of_getElem? (i := 55) rfl)) (hw _ (List.mem_of_getElem? (i := 56) rfl)) (by decide) (rm_num_J l Z a0 hw [] a0' h0 n0 ) (W := 0) (by decide) (by decide) e0 (g := (mkF m 1 #[.val (.ref a0'), .val (.long q1), .second] [(.ref a0')])) rfl (by rw [hml]; rfl) (argsL := []) (rest := []) rfl (lenOf pd___V rfl) rfl (by show 2 * 0 + _ ≤ _; exact Nat.le_of_eq rfl) (hb hby d_jdk_35_method_26_code_1) (by decide) (by decide)
  obtain ⟨rfl, Nq1, eq1⟩ := hQ1
  have N1 := Fr.app N0 Nq1
  refine go st1 ?_
  refine go (fun _ k => by refine XS.aloadN X1.here hx rfl (hb hby d_jdk_35_method_26_code_4) rfl rfl ?_; exact k) ?_
  refine go (fun _ k => by refine XS.lloadN X1.here hx rfl (hb hby d_jdk_35_method_26_code_5) rfl ?_; exact k) ?_
  show OwnEnd _ _ _ _ _ _ _ (T1.setTop (mkF m 6 #[.val (.ref a0'), .val (.long q1), .second] [(.long q1), (.ref a0')]))
  obtain ⟨T2, h2, X2, e2, W2, st2⟩ := putF X1 hx hZ hown (host := "") (Or.inl (hw _ (List.mem_of_getElem? (i := 58) rfl))) Via.refl eq1 F_value EA (Or.inr ⟨(hw _ (List.mem_of_getElem? (i := 59) rfl)), rfl, hnm⟩) (hw _ (List.mem_of_getElem? (i := 46) rfl)) (ty := .long) (by decide) rfl rfl (g := (mkF m 6 #[.val (.ref a0'), .val (.long q1), .second] [(.long q1), (.ref a0')])) rfl rfl (hb hby d_jdk_35_method_26_code_6)
  have N2 := Fr.snoc X2 N1 ga
  have EA := EA.wr W2
  have KK := Keep.wr KK W2 (Or.inl (List.mem_of_getElem? (i := 0) rfl))
  have F_value := F_value.same W2
  refine go st2 ?_
  show OwnEnd _ _ _ _ _ _ _ (T2.setTop (mkF m 9 #[.val (.ref a0'), .val (.long q1), .second] []))
  refine endV X2 hx hlk Bd.returns (hb hby d_jdk_35_method_26_code_9) e2 (by decide) (by decide) ?_
  exact ⟨rfl, N2, KK, EA, F_value⟩
theorem d_jdk_35_method_24_code_0 : decode jdk_35_method_24_code 0 = .ok (.sipush 128, 3) := by decide +kernel
theorem d_jdk_35_method_24_code_3 : decode jdk_35_method_24_code 3 = .ok (.istore_n 2, 1) := by decide +kernel
theorem d_jdk_35_method_24_code_4 : decode jdk_35_method_24_code 4 = .ok (.lload_n 0, 1) := by decide +kernel
theorem d_jdk_35_method_24_code_5 : decode jdk_35_method_24_code 5 = .ok (.ldc2_w 230, 3) := by decide +kernel
theorem d_jdk_35_method_24_code_8 : decode jdk_35_method_24_code 8 = .ok (.lcmp, 1) := by decide +kernel
theorem d_jdk_35_method_24_code_9 : decode jdk_35_method_24_code 9 = .ok (.ifCond .lt 22, 3) := by decide +kernel
theorem d_jdk_35_method_24_code_31 : decode jdk_35_method_24_code 31 = .ok (.new 1, 3) := by decide +kernel
theorem d_jdk_35_method_24_code_34 : decode jdk_35_method_24_code 34 = .ok (.dup, 1) := by decide +kernel
theorem d_jdk_35_method_24_code_35 : decode jdk_35_method_24_code 35 = .ok (.lload_n 0, 1) := by decide +kernel
theorem d_jdk_35_method_24_code_36 : decode jdk_35_method_24_code 36 = .ok (.invokespecial 240, 3) := by decide +kernel
theorem pd__J_V : parseMethodDescriptor "(J)V" = some ⟨[.long], none⟩ := by decide +kernel
theorem d_jdk_35_method_24_code_39 : decode jdk_35_method_24_code 39 = .ok (.areturn, 1) := by decide +kernel
theorem d_jdk_35_method_24_code_12 : decode jdk_35_method_24_code 12 = .ok (.lload_n 0, 1) := by decide +kernel
theorem d_jdk_35_method_24_code_13 : decode jdk_35_method_24_code 13 = .ok (.ldc2_w 232, 3) := by decide +kernel
theorem d_jdk_35_method_24_code_16 : decode jdk_35_method_24_code 16 = .ok (.lcmp, 1) := by decide +kernel
theorem d_jdk_35_method_24_code_17 : decode jdk_35_method_24_code 17 = .ok (.ifCond .gt 14, 3) := by decide +kernel
theorem d_jdk_35_method_24_code_20 : decode jdk_35_method_24_code 20 = .ok (.getstatic 234, 3) := by decide +kernel
theorem d_jdk_35_method_24_code_23 : decode jdk_35_method_24_code 23 = .ok (.lload_n 0, 1) := by decide +kernel
theorem d_jdk_35_method_24_code_24 : decode jdk_35_method_24_code 24 = .ok (.l2i, 1) := by decide +kernel
theorem d_jdk_35_method_24_code_25 : decode jdk_35_method_24_code 25 = .ok (.sipush 128, 3) := by decide +kernel
theorem d_jdk_35_method_24_code_28 : decode jdk_35_method_24_code 28 = .ok (.iadd, 1) := by decide +kernel
theorem d_jdk_35_method_24_code_29 : decode jdk_35_method_24_code 29 = .ok (.aaload, 1) := by decide +kernel
theorem d_jdk_35_method_24_code_30 : decode jdk_35_method_24_code 30 = .ok (.areturn, 1) := by decide +kernel
theorem ef_rm_box (m : MethodId) (y0 : Int64) : entryFrame m #[(.long y0)] 3 = mkF m 0 #[.val (.long y0), .second, .unset] [] := by first | (simp [entryFrame, mkF, argsToLocals, Value.category]; done) | rfl
def Q_rm_box (Z : State) (q0 : Int64) (ca : Addr) (cc : Cell) (h0 : Heap) (n0 : Nat) (v : Option Value) (h : Heap) (L : List Loc) : Prop := ∃ b, v = some (.ref b) ∧ Fr n0 L ∧ Keep h0 h [] ∧ Exa Z h b "java/lang/Long"
set_option maxRecDepth 65536 in
set_option maxHeartbeats 40000000 in
theorem rm_box (l : Launch) (Z : State) (a0 : Array Value) (hw : ∀ d ∈ tables_1, d.before a0 Z = true) (ws : List Jvm.Cond) (q0 : Int64) (ca : Addr) (cc : Cell) (h0 : Heap) (n0 : Nat) (O : Old Z n0 h0) (SC : Sta Z Z.heap "java/lang/Long$LongCache" "cache" "[Ljava/lang/Long;" (.ref ca)) (AC : Arr Z Z.heap ca cc (.object "java/lang/Long")) (NC : cc.slots.size = 256) (EC : ∀ i, i < 256 → ∃ b, cc.slots[i]? = some (.ref b) ∧ Exa Z Z.heap b "java/lang/Long") :
    MetFree l (⟨"java/lang/Long", "valueOf", "(J)Ljava/lang/Long;"⟩ : MethodName) (head1 (Jvm.Cond.code (⟨"java/lang/Long", "valueOf", "(J)Ljava/lang/Long;"⟩ : MethodName) jdk_35_method_24_code 3 (some (.object "java/lang/Long")) :: ws) ({ frames := 3, cells := 1, slots := 1, locals := 39 } : Room)) (fun a U => a = #[(.long q0)] ∧ Z.Warmed39 U.vm ∧ U.heap = h0) (fun _ _ _ _ _ => True) (fun _ U o U' => ∃ v L, o = .returned v ∧ Q_rm_box Z q0 ca cc h0 n0 v U'.heap L ∧ FrameEnd U o U' L 1 1) := by
  refine MetFree.of_bodySF (plainFor_of_name pn_java_lang_Long) hisR ?_
  intro p e s m args below meth c s₁ Bd hml0 hP hK
  obtain ⟨rfl, hZ, hh⟩ := hP
  have hx := Bd.exec
  have hby := Bd.bytes
  have hlk := Bd.notSynchronized
  have hml : c.maxLocals = 3 := hml0
  have hown : s.vm.findClass "java/lang/Long" = some m.cls := findClass_of_methodNamed Bd.named
  have hnm := (name_of_methodNamed Bd.named Bd.method).1
  have X0 : Stand p l e ({ frames := 3, cells := 1, slots := 1, locals := 39 } : Room) s m #[(.long q0)] below meth c s₁ [] 0 0 := Stand.of_body Bd
  have e0 : s₁.heap = h0 := by rw [← hh, Bd.state]; rfl
  have N0 := Fr.nil n0
  show OwnEnd p e below s (Q_rm_box Z q0 ca cc h0 n0) 1 1 (s₁.setTop (entryFrame m #[(.long q0)] 3))
  refine go (fun t k => castTop (ef_rm_box m q0) k) ?_
  have S1 := SC.ext O.2
  have A1 := AC.ext O.2
  have Z0 : n0 ≤ h0.size := by rw [← O.1]; exact O.2.1
  have KK := Keep.refl h0 []
  show OwnEnd _ _ _ _ _ _ _ (s₁.setTop (mkF m 0 #[.val (.long q0), .second, .unset] []))
  refine go (fun _ k => by refine XS.sipush X0.here hx rfl (hb hby d_jdk_35_method_24_code_0) ?_; exact k) ?_
  refine go (fun _ k => by refine XS.istoreN X0.here hx rfl (hb hby d_jdk_35_method_24_code_3) rfl (l' := #[.val (.long q0), .second, .val (.int (128 : Int32))]) rfl ?_; exact k) ?_
  refine go (fun _ k => by refine XS.lloadN X0.here hx rfl (hb hby d_jdk_35_method_24_code_4) rfl ?_; exact k) ?_
  show OwnEnd _ _ _ _ _ _ _ (s₁.setTop (mkF m 5 #[.val (.long q0), .second, .val (.int (128 : Int32))] [(.long q0)]))
  refine go (X0.ldc2Long hx hown (mvT hZ (hw _ (List.mem_of_getElem? (i := 43) rfl))) (g := (mkF m 5 #[.val (.long q0), .second, .val (.int (128 : Int32))] [(.long q0)])) rfl (hb hby d_jdk_35_method_24_code_5)) ?_
  refine go (fun _ k => by refine XS.lcmp X0.here hx rfl (hb hby d_jdk_35_method_24_code_8) rfl ?_; exact k) ?_
  show OwnEnd _ _ _ _ _ _ _ (s₁.setTop (mkF m 9 #[.val (.long q0), .second, .val (.int (128 : Int32))] [(.int (lcmpW q0 (-128 : Int64)))]))
  by_cases hc9_1 : q0 < (-128 : Int64)
  · refine go (fun _ k => by refine XS.ifYes X0.here hx rfl (pc0 := 9) (pc' := 31) rfl (hb hby d_jdk_35_method_24_code_9) rfl ((if0 _ _).trans (tlt ((lw_lt _ _).mpr hc9_1)).1) (by decide) (by decide) ?_; exact k) ?_
    show OwnEnd _ _ _ _ _ _ _ (s₁.setTop (mkF m 31 #[.val (.long q0), .second, .val (.int (128 : Int32))] []))
    obtain ⟨T2, h2, X2, e2, E2, A2, D2, -, st2⟩ := newO X0 hx hZ hown (hw _ (List.mem_of_getElem? (i := 45) rfl)) (hw _ (List.mem_of_getElem? (i := 46) rfl)) (hw _ (List.mem_of_getElem? (i := 41) rfl)) e0 (g := (mkF m 31 #[.val (.long q0), .second, .val (.int (128 : Int32))] [])) rfl (hb hby d_jdk_35_method_24_code_31) (by decide) (by decide)
    obtain ⟨b2, g2⟩ : ∃ z, z = h0.size := ⟨_, rfl⟩
    rw [← g2] at A2 D2 st2
    have g_b2 : n0 ≤ b2 := Nat.le_trans Z0 (Nat.le_of_eq g2.symm)
    have sz_b2 : h0.size ≤ b2 := Nat.le_trans KK.1 (Nat.le_of_eq g2.symm)
    have S1 := S1.ext E2
    have Z0 := Nat.le_trans Z0 E2.1
    have KK := Keep.ext KK E2
    have F_value_b2 : Fld Z h2 b2 "java/lang/Long" "value" "J" (.long (0 : Int64)) := D2 (Or.inr (hw _ (List.mem_of_getElem? (i := 59) rfl))) (ty := .long) (by decide)
    have E_b2 := A2
    refine go st2 ?_
    refine go (fun _ k => by refine XS.dup X2.here hx rfl (hb hby d_jdk_35_method_24_code_34) rfl rfl ?_; exact k) ?_
    refine go (fun _ k => by refine XS.lloadN X2.here hx rfl (hb hby d_jdk_35_method_24_code_35) rfl ?_; exact k) ?_
    show OwnEnd _ _ _ _ _ _ _ (T2.setTop (mkF m 36 #[.val (.long q0), .second, .val (.int (128 : Int32))] [(.long q0), (.ref b2), (.ref b2)]))
    obtain ⟨_, T3, L3, X3, hQ3, st3⟩ := callInit X2 hx hZ hown rfl (hw _ (List.mem_of_getElem? (i := 47) rfl)) (hw _ (List.mem_of_getElem? (i := 48) rfl)) (hw _ (List.mem_of_getElem? (i := 41) rfl)) (hw _ (List.mem_of_getElem? (i := 50) rfl)) (by decide) (rm_box_ini l Z a0 hw [] b2 q0 h2 n0 g_b2 E_b2 F_value_b2) (W := 1) (by decide) (by decide) e2 (g := (mkF m 36 #[.val (.long q0), .second, .val (.int (128 : Int32))] [(.long q0), (.ref b2), (.ref b2)])) rfl (by rw [hml]; rfl) (argsL := [(.long q0)]) (rest := [(.ref b2)]) rfl (lenOf pd__J_V rfl) rfl (by show 2 * 0 + _ ≤ _; exact Nat.le_of_eq rfl) (hb hby d_jdk_35_method_24_code_36) (by decide) (by decide)
    obtain ⟨rfl, Nq3, K3, E_b2, F_value_b2⟩ := hQ3
    have N3 := Fr.app N0 Nq3
    have Z0 := Nat.le_trans Z0 K3.1
    have KK := Keep.trans KK K3 (allS (Or.inr sz_b2) all0)
    refine go st3 ?_
    show OwnEnd _ _ _ _ _ _ _ (T3.setTop (mkF m 39 #[.val (.long q0), .second, .val (.int (128 : Int32))] [(.ref b2)]))
    refine endA X3 hx hlk Bd.returns rfl rfl (hb hby d_jdk_35_method_24_code_39) rfl (by decide) (by decide) ?_
    exact ⟨b2, rfl, N3, KK, E_b2⟩
  · refine go (fun _ k => by refine XS.ifNo X0.here hx rfl (hb hby d_jdk_35_method_24_code_9) rfl ((if0 _ _).trans (flt (fun q => hc9_1 ((lw_lt _ _).mp q))).1) ?_; exact k) ?_
    show OwnEnd _ _ _ _ _ _ _ (s₁.setTop (mkF m 12 #[.val (.long q0), .second, .val (.int (128 : Int32))] []))
    refine go (fun _ k => by refine XS.lloadN X0.here hx rfl (hb hby d_jdk_35_method_24_code_12) rfl ?_; exact k) ?_
    show OwnEnd _ _ _ _ _ _ _ (s₁.setTop (mkF m 13 #[.val (.long q0), .second, .val (.int (128 : Int32))] [(.long q0)]))
    refine go (X0.ldc2Long hx hown (mvT hZ (hw _ (List.mem_of_getElem? (i := 44) rfl))) (g := (mkF m 13 #[.val (.long q0), .second, .val (.int (128 : Int32))] [(.long q0)])) rfl (hb hby d_jdk_35_method_24_code_13)) ?_
    refine go (fun _ k => by refine XS.lcmp X0.here hx rfl (hb hby d_jdk_35_method_24_code_16) rfl ?_; exact k) ?_
    show OwnEnd _ _ _ _ _ _ _ (s₁.setTop (mkF m 17 #[.val (.long q0), .second, .val (.int (128 : Int32))] [(.int (lcmpW q0 (127 : Int64)))]))
    by_cases hc17_4 : (127 : Int64) < q0
    · refine go (fun _ k => by refine XS.ifYes X0.here hx rfl (pc0 := 17) (pc' := 31) rfl (hb hby d_jdk_35_method_24_code_17) rfl ((if0 _ _).trans (tlt ((lw_gt _ _).mpr hc17_4)).2.2.1) (by decide) (by decide) ?_; exact k) ?_
      show OwnEnd _ _ _ _ _ _ _ (s₁.setTop (mkF m 31 #[.val (.long q0), .second, .val (.int (128 : Int32))] []))
      obtain ⟨T5, h5, X5, e5, E5, A5, D5, -, st5⟩ := newO X0 hx hZ hown (hw _ (List.mem_of_getElem? (i := 45) rfl)) (hw _ (List.mem_of_getElem? (i := 46) rfl)) (hw _ (List.mem_of_getElem? (i := 41) rfl)) e0 (g := (mkF m 31 #[.val (.long q0), .second, .val (.int (128 : Int32))] [])) rfl (hb hby d_jdk_35_method_24_code_31) (by decide) (by decide)
      obtain ⟨b5, g5⟩ : ∃ z, z = h0.size := ⟨_, rfl⟩
      rw [← g5] at A5 D5 st5
      have g_b5 : n0 ≤ b5 := Nat.le_trans Z0 (Nat.le_of_eq g5.symm)
      have sz_b5 : h0.size ≤ b5 := Nat.le_trans KK.1 (Nat.le_of_eq g5.symm)
      have S1 := S1.ext E5
      have Z0 := Nat.le_trans Z0 E5.1
      have KK := Keep.ext KK E5
      have F_value_b5 : Fld Z h5 b5 "java/lang/Long" "value" "J" (.long (0 : Int64)) := D5 (Or.inr (hw _ (List.mem_of_getElem? (i := 59) rfl))) (ty := .long) (by decide)
      have E_b5 := A5
      refine go st5 ?_
      refine go (fun _ k => by refine XS.dup X5.here hx rfl (hb hby d_jdk_35_method_24_code_34) rfl rfl ?_; exact k) ?_
      refine go (fun _ k => by refine XS.lloadN X5.here hx rfl (hb hby d_jdk_35_method_24_code_35) rfl ?_; exact k) ?_
      show OwnEnd _ _ _ _ _ _ _ (T5.setTop (mkF m 36 #[.val (.long q0), .second, .val (.int (128 : Int32))] [(.long q0), (.ref b5), (.ref b5)]))
      obtain ⟨_, T6, L6, X6, hQ6, st6⟩ := callInit X5 hx hZ hown rfl (hw _ (List.mem_of_getElem? (i := 47) rfl)) (hw _ (List.mem_of_getElem? (i := 48) rfl)) (hw _ (List.mem_of_getElem? (i := 41) rfl)) (hw _ (List.mem_of_getElem? (i := 50) rfl)) (by decide) (rm_box_ini l Z a0 hw [] b5 q0 h5 n0 g_b5 E_b5 F_value_b5) (W := 1) (by decide) (by decide) e5 (g := (mkF m 36 #[.val (.long q0), .second, .val (.int (128 : Int32))] [(.long q0), (.ref b5), (.ref b5)])) rfl (by rw [hml]; rfl) (argsL := [(.long q0)]) (rest := [(.ref b5)]) rfl (lenOf pd__J_V rfl) rfl (by show 2 * 0 + _ ≤ _; exact Nat.le_of_eq rfl) (hb hby d_jdk_35_method_24_code_36) (by decide) (by decide)
      obtain ⟨rfl, Nq6, K6, E_b5, F_value_b5⟩ := hQ6
      have N6 := Fr.app N0 Nq6
      have Z0 := Nat.le_trans Z0 K6.1
      have KK := Keep.trans KK K6 (allS (Or.inr sz_b5) all0)
      refine go st6 ?_
      show OwnEnd _ _ _ _ _ _ _ (T6.setTop (mkF m 39 #[.val (.long q0), .second, .val (.int (128 : Int32))] [(.ref b5)]))
      refine endA X6 hx hlk Bd.returns rfl rfl (hb hby d_jdk_35_method_24_code_39) rfl (by decide) (by decide) ?_
      exact ⟨b5, rfl, N6, KK, E_b5⟩
    · refine go (fun _ k => by refine XS.ifNo X0.here hx rfl (hb hby d_jdk_35_method_24_code_17) rfl ((if0 _ _).trans (flt (fun q => hc17_4 ((lw_gt _ _).mp q))).2.2.1) ?_; exact k) ?_
      show OwnEnd _ _ _ _ _ _ _ (s₁.setTop (mkF m 20 #[.val (.long q0), .second, .val (.int (128 : Int32))] []))
      obtain ⟨T7, X7, e7, st7⟩ := getS2 X0 hx hZ hown (host := "") (Or.inl (hw _ (List.mem_of_getElem? (i := 63) rfl))) Via.refl e0 S1 (g := (mkF m 20 #[.val (.long q0), .second, .val (.int (128 : Int32))] [])) rfl (hb hby d_jdk_35_method_24_code_20)
      refine go st7 ?_
      refine go (fun _ k => by refine XS.lloadN X7.here hx rfl (hb hby d_jdk_35_method_24_code_23) rfl ?_; exact k) ?_
      refine go (fun _ k => by refine XS.l2i X7.here hx rfl (hb hby d_jdk_35_method_24_code_24) rfl ?_; exact k) ?_
      refine go (fun _ k => by refine XS.sipush X7.here hx rfl (hb hby d_jdk_35_method_24_code_25) ?_; exact k) ?_
      show OwnEnd _ _ _ _ _ _ _ (T7.setTop (mkF m 28 #[.val (.long q0), .second, .val (.int (128 : Int32))] [(.int (128 : Int32)), (.int (q0.toInt32)), (.ref ca)]))
      refine go (fun _ k => by refine XS.iadd X7.here hx rfl (hb hby d_jdk_35_method_24_code_28) rfl ?_; exact k) ?_
      show OwnEnd _ _ _ _ _ _ _ (T7.setTop (mkF m 29 #[.val (.long q0), .second, .val (.int (128 : Int32))] [(.int ((q0.toInt32) + (128 : Int32))), (.ref ca)]))
      obtain ⟨hj1, hj2⟩ := own_bxL q0 hc9_1 hc17_4
      obtain ⟨bb, hat, EB⟩ := EC _ hj2
      refine go (X7.aaload hx (j := ((q0.toInt32) + (128 : Int32))) (v := (.ref bb)) (by rw [e7]; exact A1.1) (State.isArrayOf_alike hZ.alike A1.2.1) rfl A1.2.2 (fun z => z.elim hj1 fun z => Nat.not_le_of_lt hj2 (NC ▸ z)) hat (g := (mkF m 29 #[.val (.long q0), .second, .val (.int (128 : Int32))] [(.int ((q0.toInt32) + (128 : Int32))), (.ref ca)])) rfl rfl (hb hby d_jdk_35_method_24_code_29)) ?_
      show OwnEnd _ _ _ _ _ _ _ (T7.setTop (mkF m 30 #[.val (.long q0), .second, .val (.int (128 : Int32))] [(.ref bb)]))
      refine endA X7 hx hlk Bd.returns rfl rfl (hb hby d_jdk_35_method_24_code_30) e7 (by decide) (by decide) ?_
      exact ⟨bb, rfl, N0, KK, EB.ext O.2⟩
theorem d_prog_7_method_13_code_0 : decode prog_7_method_13_code 0 = .ok (.aload_n 1, 1) := by decide +kernel
theorem d_prog_7_method_13_code_1 : decode prog_7_method_13_code 1 = .ok (.instanceof 8, 3) := by decide +kernel
theorem d_prog_7_method_13_code_4 : decode prog_7_method_13_code 4 = .ok (.ifCond .eq 139, 3) := by decide +kernel
theorem d_prog_7_method_13_code_7 : decode prog_7_method_13_code 7 = .ok (.aload_n 1, 1) := by decide +kernel
theorem d_prog_7_method_13_code_8 : decode prog_7_method_13_code 8 = .ok (.checkcast 8, 3) := by decide +kernel
theorem d_prog_7_method_13_code_11 : decode prog_7_method_13_code 11 = .ok (.astore_n 2, 1) := by decide +kernel
theorem d_prog_7_method_13_code_12 : decode prog_7_method_13_code 12 = .ok (.aload_n 0, 1) := by decide +kernel
theorem d_prog_7_method_13_code_13 : decode prog_7_method_13_code 13 = .ok (.getfield 7, 3) := by decide +kernel
theorem d_prog_7_method_13_code_16 : decode prog_7_method_13_code 16 = .ok (.aload_n 2, 1) := by decide +kernel
theorem d_prog_7_method_13_code_17 : decode prog_7_method_13_code 17 = .ok (.getfield 7, 3) := by decide +kernel
theorem d_prog_7_method_13_code_20 : decode prog_7_method_13_code 20 = .ok (.lcmp, 1) := by decide +kernel
theorem d_prog_7_method_13_code_21 : decode prog_7_method_13_code 21 = .ok (.ifCond .ne 122, 3) := by decide +kernel
theorem d_prog_7_method_13_code_24 : decode prog_7_method_13_code 24 = .ok (.aload_n 0, 1) := by decide +kernel
theorem d_prog_7_method_13_code_25 : decode prog_7_method_13_code 25 = .ok (.getfield 13, 3) := by decide +kernel
theorem d_prog_7_method_13_code_28 : decode prog_7_method_13_code 28 = .ok (.aload_n 2, 1) := by decide +kernel
theorem d_prog_7_method_13_code_29 : decode prog_7_method_13_code 29 = .ok (.getfield 13, 3) := by decide +kernel
theorem d_prog_7_method_13_code_32 : decode prog_7_method_13_code 32 = .ok (.lcmp, 1) := by decide +kernel
theorem d_prog_7_method_13_code_33 : decode prog_7_method_13_code 33 = .ok (.ifCond .ne 110, 3) := by decide +kernel
theorem d_prog_7_method_13_code_36 : decode prog_7_method_13_code 36 = .ok (.aload_n 0, 1) := by decide +kernel
theorem d_prog_7_method_13_code_37 : decode prog_7_method_13_code 37 = .ok (.getfield 16, 3) := by decide +kernel
theorem d_prog_7_method_13_code_40 : decode prog_7_method_13_code 40 = .ok (.aload_n 2, 1) := by decide +kernel
theorem d_prog_7_method_13_code_41 : decode prog_7_method_13_code 41 = .ok (.getfield 16, 3) := by decide +kernel
theorem d_prog_7_method_13_code_44 : decode prog_7_method_13_code 44 = .ok (.lcmp, 1) := by decide +kernel
theorem d_prog_7_method_13_code_45 : decode prog_7_method_13_code 45 = .ok (.ifCond .ne 98, 3) := by decide +kernel
theorem d_prog_7_method_13_code_48 : decode prog_7_method_13_code 48 = .ok (.aload_n 0, 1) := by decide +kernel
theorem d_prog_7_method_13_code_49 : decode prog_7_method_13_code 49 = .ok (.getfield 19, 3) := by decide +kernel
theorem d_prog_7_method_13_code_52 : decode prog_7_method_13_code 52 = .ok (.aload_n 2, 1) := by decide +kernel
theorem d_prog_7_method_13_code_53 : decode prog_7_method_13_code 53 = .ok (.getfield 19, 3) := by decide +kernel
theorem d_prog_7_method_13_code_56 : decode prog_7_method_13_code 56 = .ok (.lcmp, 1) := by decide +kernel
theorem d_prog_7_method_13_code_57 : decode prog_7_method_13_code 57 = .ok (.ifCond .ne 86, 3) := by decide +kernel
theorem d_prog_7_method_13_code_60 : decode prog_7_method_13_code 60 = .ok (.aload_n 0, 1) := by decide +kernel
theorem d_prog_7_method_13_code_61 : decode prog_7_method_13_code 61 = .ok (.getfield 22, 3) := by decide +kernel
theorem d_prog_7_method_13_code_64 : decode prog_7_method_13_code 64 = .ok (.aload_n 2, 1) := by decide +kernel
theorem d_prog_7_method_13_code_65 : decode prog_7_method_13_code 65 = .ok (.getfield 22, 3) := by decide +kernel
theorem d_prog_7_method_13_code_68 : decode prog_7_method_13_code 68 = .ok (.if_icmp .ne 75, 3) := by decide +kernel
theorem d_prog_7_method_13_code_71 : decode prog_7_method_13_code 71 = .ok (.aload_n 0, 1) := by decide +kernel
theorem d_prog_7_method_13_code_72 : decode prog_7_method_13_code 72 = .ok (.getfield 26, 3) := by decide +kernel
theorem d_prog_7_method_13_code_75 : decode prog_7_method_13_code 75 = .ok (.aload_n 2, 1) := by decide +kernel
theorem d_prog_7_method_13_code_76 : decode prog_7_method_13_code 76 = .ok (.getfield 26, 3) := by decide +kernel
theorem d_prog_7_method_13_code_79 : decode prog_7_method_13_code 79 = .ok (.if_icmp .ne 64, 3) := by decide +kernel
theorem d_prog_7_method_13_code_82 : decode prog_7_method_13_code 82 = .ok (.aload_n 0, 1) := by decide +kernel
theorem d_prog_7_method_13_code_83 : decode prog_7_method_13_code 83 = .ok (.getfield 29, 3) := by decide +kernel
theorem d_prog_7_method_13_code_86 : decode prog_7_method_13_code 86 = .ok (.aload_n 2, 1) := by decide +kernel
theorem d_prog_7_method_13_code_87 : decode prog_7_method_13_code 87 = .ok (.getfield 29, 3) := by decide +kernel
theorem d_prog_7_method_13_code_90 : decode prog_7_method_13_code 90 = .ok (.if_icmp .ne 53, 3) := by decide +kernel
theorem d_prog_7_method_13_code_93 : decode prog_7_method_13_code 93 = .ok (.aload_n 0, 1) := by decide +kernel
theorem d_prog_7_method_13_code_94 : decode prog_7_method_13_code 94 = .ok (.getfield 32, 3) := by decide +kernel
theorem d_prog_7_method_13_code_97 : decode prog_7_method_13_code 97 = .ok (.aload_n 2, 1) := by decide +kernel
theorem d_prog_7_method_13_code_98 : decode prog_7_method_13_code 98 = .ok (.getfield 32, 3) := by decide +kernel
theorem d_prog_7_method_13_code_101 : decode prog_7_method_13_code 101 = .ok (.lcmp, 1) := by decide +kernel
theorem d_prog_7_method_13_code_102 : decode prog_7_method_13_code 102 = .ok (.ifCond .ne 41, 3) := by decide +kernel
theorem d_prog_7_method_13_code_105 : decode prog_7_method_13_code 105 = .ok (.aload_n 0, 1) := by decide +kernel
theorem d_prog_7_method_13_code_106 : decode prog_7_method_13_code 106 = .ok (.getfield 35, 3) := by decide +kernel
theorem d_prog_7_method_13_code_109 : decode prog_7_method_13_code 109 = .ok (.aload_n 2, 1) := by decide +kernel
theorem d_prog_7_method_13_code_110 : decode prog_7_method_13_code 110 = .ok (.getfield 35, 3) := by decide +kernel
theorem d_prog_7_method_13_code_113 : decode prog_7_method_13_code 113 = .ok (.if_icmp .ne 30, 3) := by decide +kernel
theorem d_prog_7_method_13_code_116 : decode prog_7_method_13_code 116 = .ok (.aload_n 0, 1) := by decide +kernel
theorem d_prog_7_method_13_code_117 : decode prog_7_method_13_code 117 = .ok (.getfield 38, 3) := by decide +kernel
theorem d_prog_7_method_13_code_120 : decode prog_7_method_13_code 120 = .ok (.aload_n 2, 1) := by decide +kernel
theorem d_prog_7_method_13_code_121 : decode prog_7_method_13_code 121 = .ok (.getfield 38, 3) := by decide +kernel
theorem d_prog_7_method_13_code_124 : decode prog_7_method_13_code 124 = .ok (.if_icmp .ne 19, 3) := by decide +kernel
theorem d_prog_7_method_13_code_127 : decode prog_7_method_13_code 127 = .ok (.aload_n 0, 1) := by decide +kernel
theorem d_prog_7_method_13_code_128 : decode prog_7_method_13_code 128 = .ok (.getfield 41, 3) := by decide +kernel
theorem d_prog_7_method_13_code_131 : decode prog_7_method_13_code 131 = .ok (.aload_n 2, 1) := by decide +kernel
theorem d_prog_7_method_13_code_132 : decode prog_7_method_13_code 132 = .ok (.getfield 41, 3) := by decide +kernel
theorem d_prog_7_method_13_code_135 : decode prog_7_method_13_code 135 = .ok (.lcmp, 1) := by decide +kernel
theorem d_prog_7_method_13_code_136 : decode prog_7_method_13_code 136 = .ok (.ifCond .ne 7, 3) := by decide +kernel
theorem d_prog_7_method_13_code_139 : decode prog_7_method_13_code 139 = .ok (.iconst 1, 1) := by decide +kernel
theorem d_prog_7_method_13_code_140 : decode prog_7_method_13_code 140 = .ok (.goto 4, 3) := by decide +kernel
theorem d_prog_7_method_13_code_144 : decode prog_7_method_13_code 144 = .ok (.ireturn, 1) := by decide +kernel
theorem d_prog_7_method_13_code_143 : decode prog_7_method_13_code 143 = .ok (.iconst 0, 1) := by decide +kernel
theorem ef_rm_eqv (m : MethodId) (y0 : Addr) (y1 : Addr) : entryFrame m #[(.ref y0), (.ref y1)] 3 = mkF m 0 #[.val (.ref y0), .val (.ref y1), .unset] [] := by first | (simp [entryFrame, mkF, argsToLocals, Value.category]; done) | rfl
def Q_rm_eqv (Z : State) (a0' : Addr) (a1' : Addr) (fa0 : Int64) (fa1 : Int64) (fa2 : Int64) (fa3 : Int64) (fa4 : Int32) (fa5 : Int32) (fa6 : Int32) (fa7 : Int64) (fa8 : Int32) (fa9 : Int32) (fa10 : Int64) (fb0 : Int64) (fb1 : Int64) (fb2 : Int64) (fb3 : Int64) (fb4 : Int32) (fb5 : Int32) (fb6 : Int32) (fb7 : Int64) (fb8 : Int32) (fb9 : Int32) (fb10 : Int64) (h0 : Heap) (n0 : Nat) (v : Option Value) (h : Heap) (L : List Loc) : Prop := v = some (.int (if own_eq fa0 fa1 fa2 fa3 fa4 fa5 fa6 fa7 fa8 fa9 fa10 fb0 fb1 fb2 fb3 fb4 fb5 fb6 fb7 fb8 fb9 fb10 then (1 : Int32) else 0)) ∧ Fr n0 L ∧ h = h0
set_option maxRecDepth 65536 in
set_option maxHeartbeats 40000000 in
theorem rm_eqv (l : Launch) (Z : State) (a0 : Array Value) (hw : ∀ d ∈ tables_1, d.before a0 Z = true) (ws : List Jvm.Cond) (a0' : Addr) (a1' : Addr) (fa0 : Int64) (fa1 : Int64) (fa2 : Int64) (fa3 : Int64) (fa4 : Int32) (fa5 : Int32) (fa6 : Int32) (fa7 : Int64) (fa8 : Int32) (fa9 : Int32) (fa10 : Int64) (fb0 : Int64) (fb1 : Int64) (fb2 : Int64) (fb3 : Int64) (fb4 : Int32) (fb5 : Int32) (fb6 : Int32) (fb7 : Int64) (fb8 : Int32) (fb9 : Int32) (fb10 : Int64) (h0 : Heap) (n0 : Nat) (G0 : Fld Z h0 a0' "com/example/bound_quorum/boundquorum/model/Stat" "czxid" "J" (.long fa0)) (G1 : Fld Z h0 a0' "com/example/bound_quorum/boundquorum/model/Stat" "mzxid" "J" (.long fa1)) (G2 : Fld Z h0 a0' "com/example/bound_quorum/boundquorum/model/Stat" "ctime" "J" (.long fa2)) (G3 : Fld Z h0 a0' "com/example/bound_quorum/boundquorum/model/Stat" "mtime" "J" (.long fa3)) (G4 : Fld Z h0 a0' "com/example/bound_quorum/boundquorum/model/Stat" "version" "I" (.int fa4)) (G5 : Fld Z h0 a0' "com/example/bound_quorum/boundquorum/model/Stat" "cversion" "I" (.int fa5)) (G6 : Fld Z h0 a0' "com/example/bound_quorum/boundquorum/model/Stat" "aversion" "I" (.int fa6)) (G7 : Fld Z h0 a0' "com/example/bound_quorum/boundquorum/model/Stat" "ephemeralOwner" "J" (.long fa7)) (G8 : Fld Z h0 a0' "com/example/bound_quorum/boundquorum/model/Stat" "dataLength" "I" (.int fa8)) (G9 : Fld Z h0 a0' "com/example/bound_quorum/boundquorum/model/Stat" "numChildren" "I" (.int fa9)) (G10 : Fld Z h0 a0' "com/example/bound_quorum/boundquorum/model/Stat" "pzxid" "J" (.long fa10)) (G11 : Fld Z h0 a1' "com/example/bound_quorum/boundquorum/model/Stat" "czxid" "J" (.long fb0)) (G12 : Fld Z h0 a1' "com/example/bound_quorum/boundquorum/model/Stat" "mzxid" "J" (.long fb1)) (G13 : Fld Z h0 a1' "com/example/bound_quorum/boundquorum/model/Stat" "ctime" "J" (.long fb2)) (G14 : Fld Z h0 a1' "com/example/bound_quorum/boundquorum/model/Stat" "mtime" "J" (.long fb3)) (G15 : Fld Z h0 a1' "com/example/bound_quorum/boundquorum/model/Stat" "version" "I" (.int fb4)) (G16 : Fld Z h0 a1' "com/example/bound_quorum/boundquorum/model/Stat" "cversion" "I" (.int fb5)) (G17 : Fld Z h0 a1' "com/example/bound_quorum/boundquorum/model/Stat" "aversion" "I" (.int fb6)) (G18 : Fld Z h0 a1' "com/example/bound_quorum/boundquorum/model/Stat" "ephemeralOwner" "J" (.long fb7)) (G19 : Fld Z h0 a1' "com/example/bound_quorum/boundquorum/model/Stat" "dataLength" "I" (.int fb8)) (G20 : Fld Z h0 a1' "com/example/bound_quorum/boundquorum/model/Stat" "numChildren" "I" (.int fb9)) (G21 : Fld Z h0 a1' "com/example/bound_quorum/boundquorum/model/Stat" "pzxid" "J" (.long fb10)) (EB : Exa Z h0 a1' "com/example/bound_quorum/boundquorum/model/Stat") :
    MetFree l (⟨"com/example/bound_quorum/boundquorum/model/Stat", "equals", "(Ljava/lang/Object;)Z"⟩ : MethodName) (head1 (Jvm.Cond.code (⟨"com/example/bound_quorum/boundquorum/model/Stat", "equals", "(Ljava/lang/Object;)Z"⟩ : MethodName) prog_7_method_13_code 3 (some .boolean) :: ws) ({ frames := 0, cells := 0, slots := 0, locals := 0 } : Room)) (fun a U => a = #[(.ref a0'), (.ref a1')] ∧ Z.Warmed39 U.vm ∧ U.heap = h0) (fun _ _ _ _ _ => True) (fun _ U o U' => ∃ v L, o = .returned v ∧ Q_rm_eqv Z a0' a1' fa0 fa1 fa2 fa3 fa4 fa5 fa6 fa7 fa8 fa9 fa10 fb0 fb1 fb2 fb3 fb4 fb5 fb6 fb7 fb8 fb9 fb10 h0 n0 v U'.heap L ∧ FrameEnd U o U' L 0 0) := by
  refine MetFree.of_bodySF (plainFor_of_name pn_com_example_bound_quorum_boundquorum_model_Stat) hisR ?_
  intro p e s m args below meth c s₁ Bd hml0 hP hK
  obtain ⟨rfl, hZ, hh⟩ := hP
  have hx := Bd.exec
  have hby := Bd.bytes
  have hlk := Bd.notSynchronized
  have hml : c.maxLocals = 3 := hml0
  have hown : s.vm.findClass "com/example/bound_quorum/boundquorum/model/Stat" = some m.cls := findClass_of_methodNamed Bd.named
  have hnm := (name_of_methodNamed Bd.named Bd.method).1
  have X0 : Stand p l e ({ frames := 0, cells := 0, slots := 0, locals := 0 } : Room) s m #[(.ref a0'), (.ref a1')] below meth c s₁ [] 0 0 := Stand.of_body Bd
  have e0 : s₁.heap = h0 := by rw [← hh, Bd.state]; rfl
  have N0 := Fr.nil n0
  show OwnEnd p e below s (Q_rm_eqv Z a0' a1' fa0 fa1 fa2 fa3 fa4 fa5 fa6 fa7 fa8 fa9 fa10 fb0 fb1 fb2 fb3 fb4 fb5 fb6 fb7 fb8 fb9 fb10 h0 n0) 0 0 (s₁.setTop (entryFrame m #[(.ref a0'), (.ref a1')] 3))
  refine go (fun t k => castTop (ef_rm_eqv m a0' a1') k) ?_
  show OwnEnd _ _ _ _ _ _ _ (s₁.setTop (mkF m 0 #[.val (.ref a0'), .val (.ref a1'), .unset] []))
  refine go (fun _ k => by refine XS.aloadN X0.here hx rfl (hb hby d_prog_7_method_13_code_0) rfl rfl ?_; exact k) ?_
  show OwnEnd _ _ _ _ _ _ _ (s₁.setTop (mkF m 1 #[.val (.ref a0'), .val (.ref a1'), .unset] [(.ref a1')]))
  obtain ⟨T1, X1, e1, st1⟩ := instY X0 hx hZ hown (hw _ (List.mem_of_getElem? (i := 37) rfl)) e0 (Ins.self EB) (g := (mkF m 1 #[.val (.ref a0'), .val (.ref a1'), .unset] [(.ref a1')])) rfl rfl (hb hby d_prog_7_method_13_code_1)
  refine go st1 ?_
  show OwnEnd _ _ _ _ _ _ _ (T1.setTop (mkF m 4 #[.val (.ref a0'), .val (.ref a1'), .unset] [(.int (1 : Int32))]))
  refine go (fun _ k => by refine XS.ifNo X1.here hx rfl (hb hby d_prog_7_method_13_code_4) rfl ((if0 _ _).trans (feq (by decide)).1) ?_; exact k) ?_
  refine go (fun _ k => by refine XS.aloadN X1.here hx rfl (hb hby d_prog_7_method_13_code_7) rfl rfl ?_; exact k) ?_
  show OwnEnd _ _ _ _ _ _ _ (T1.setTop (mkF m 8 #[.val (.ref a0'), .val (.ref a1'), .unset] [(.ref a1')]))
  obtain ⟨T2, X2, e2, st2⟩ := castY X1 hx hZ hown (hw _ (List.mem_of_getElem? (i := 37) rfl)) e1 (Ins.self EB) (g := (mkF m 8 #[.val (.ref a0'), .val (.ref a1'), .unset] [(.ref a1')])) rfl rfl (hb hby d_prog_7_method_13_code_8)
  refine go st2 ?_
  refine go (fun _ k => by refine XS.astoreN X2.here hx rfl (hb hby d_prog_7_method_13_code_11) rfl rfl (l' := #[.val (.ref a0'), .val (.ref a1'), .val (.ref a1')]) rfl ?_; exact k) ?_
  refine go (fun _ k => by refine XS.aloadN X2.here hx rfl (hb hby d_prog_7_method_13_code_12) rfl rfl ?_; exact k) ?_
  show OwnEnd _ _ _ _ _ _ _ (T2.setTop (mkF m 13 #[.val (.ref a0'), .val (.ref a1'), .val (.ref a1')] [(.ref a0')]))
  obtain ⟨T3, X3, e3, st3⟩ := getF X2 hx hZ hown (host := "") (Or.inl (hw _ (List.mem_of_getElem? (i := 10) rfl))) Via.refl e2 G0 (g := (mkF m 13 #[.val (.ref a0'), .val (.ref a1'), .val (.ref a1')] [(.ref a0')])) rfl rfl (hb hby d_prog_7_method_13_code_13)
  refine go st3 ?_
  refine go (fun _ k => by refine XS.aloadN X3.here hx rfl (hb hby d_prog_7_method_13_code_16) rfl rfl ?_; exact k) ?_
  show OwnEnd _ _ _ _ _ _ _ (T3.setTop (mkF m 17 #[.val (.ref a0'), .val (.ref a1'), .val (.ref a1')] [(.ref a1'), (.long fa0)]))
  obtain ⟨T4, X4, e4, st4⟩ := getF X3 hx hZ hown (host := "") (Or.inl (hw _ (List.mem_of_getElem? (i := 10) rfl))) Via.refl e3 G11 (g := (mkF m 17 #[.val (.ref a0'), .val (.ref a1'), .val (.ref a1')] [(.ref a1'), (.long fa0)])) rfl rfl (hb hby d_prog_7_method_13_code_17)
  refine go st4 ?_
  refine go (fun _ k => by refine XS.lcmp X4.here hx rfl (hb hby d_prog_7_method_13_code_20) rfl ?_; exact k) ?_
  show OwnEnd _ _ _ _ _ _ _ (T4.setTop (mkF m 21 #[.val (.ref a0'), .val (.ref a1'), .val (.ref a1')] [(.int (lcmpW fa0 fb0))]))
  by_cases hc21_5 : fa0 = fb0
  · refine go (fun _ k => by refine XS.ifNo X4.here hx rfl (hb hby d_prog_7_method_13_code_21) rfl ((if0 _ _).trans (teq ((lw_eq _ _).mpr hc21_5)).2) ?_; exact k) ?_
    show OwnEnd _ _ _ _ _ _ _ (T4.setTop (mkF m 24 #[.val (.ref a0'), .val (.ref a1'), .val (.ref a1')] []))
    refine go (fun _ k => by refine XS.aloadN X4.here hx rfl (hb hby d_prog_7_method_13_code_24) rfl rfl ?_; exact k) ?_
    show OwnEnd _ _ _ _ _ _ _ (T4.setTop (mkF m 25 #[.val (.ref a0'), .val (.ref a1'), .val (.ref a1')] [(.ref a0')]))
    obtain ⟨T6, X6, e6, st6⟩ := getF X4 hx hZ hown (host := "") (Or.inl (hw _ (List.mem_of_getElem? (i := 12) rfl))) Via.refl e4 G1 (g := (mkF m 25 #[.val (.ref a0'), .val (.ref a1'), .val (.ref a1')] [(.ref a0')])) rfl rfl (hb hby d_prog_7_method_13_code_25)
    refine go st6 ?_
    refine go (fun _ k => by refine XS.aloadN X6.here hx rfl (hb hby d_prog_7_method_13_code_28) rfl rfl ?_; exact k) ?_
    show OwnEnd _ _ _ _ _ _ _ (T6.setTop (mkF m 29 #[.val (.ref a0'), .val (.ref a1'), .val (.ref a1')] [(.ref a1'), (.long fa1)]))
    obtain ⟨T7, X7, e7, st7⟩ := getF X6 hx hZ hown (host := "") (Or.inl (hw _ (List.mem_of_getElem? (i := 12) rfl))) Via.refl e6 G12 (g := (mkF m 29 #[.val (.ref a0'), .val (.ref a1'), .val (.ref a1')] [(.ref a1'), (.long fa1)])) rfl rfl (hb hby d_prog_7_method_13_code_29)
    refine go st7 ?_
    refine go (fun _ k => by refine XS.lcmp X7.here hx rfl (hb hby d_prog_7_method_13_code_32) rfl ?_; exact k) ?_
    show OwnEnd _ _ _ _ _ _ _ (T7.setTop (mkF m 33 #[.val (.ref a0'), .val (.ref a1'), .val (.ref a1')] [(.int (lcmpW fa1 fb1))]))
    by_cases hc33_8 : fa1 = fb1
    · refine go (fun _ k => by refine XS.ifNo X7.here hx rfl (hb hby d_prog_7_method_13_code_33) rfl ((if0 _ _).trans (teq ((lw_eq _ _).mpr hc33_8)).2) ?_; exact k) ?_
      show OwnEnd _ _ _ _ _ _ _ (T7.setTop (mkF m 36 #[.val (.ref a0'), .val (.ref a1'), .val (.ref a1')] []))
      refine go (fun _ k => by refine XS.aloadN X7.here hx rfl (hb hby d_prog_7_method_13_code_36) rfl rfl ?_; exact k) ?_
      show OwnEnd _ _ _ _ _ _ _ (T7.setTop (mkF m 37 #[.val (.ref a0'), .val (.ref a1'), .val (.ref a1')] [(.ref a0')]))
      obtain ⟨T9, X9, e9, st9⟩ := getF X7 hx hZ hown (host := "") (Or.inl (hw _ (List.mem_of_getElem? (i := 14) rfl))) Via.refl e7 G2 (g := (mkF m 37 #[.val (.ref a0'), .val (.ref a1'), .val (.ref a1')] [(.ref a0')])) rfl rfl (hb hby d_prog_7_method_13_code_37)
      refine go st9 ?_
      refine go (fun _ k => by refine XS.aloadN X9.here hx rfl (hb hby d_prog_7_method_13_code_40) rfl rfl ?_; exact k) ?_
      show OwnEnd _ _ _ _ _ _ _ (T9.setTop (mkF m 41 #[.val (.ref a0'), .val (.ref a1'), .val (.ref a1')] [(.ref a1'), (.long fa2)]))
      obtain ⟨T10, X10, e10, st10⟩ := getF X9 hx hZ hown (host := "") (Or.inl (hw _ (List.mem_of_getElem? (i := 14) rfl))) Via.refl e9 G13 (g := (mkF m 41 #[.val (.ref a0'), .val (.ref a1'), .val (.ref a1')] [(.ref a1'), (.long fa2)])) rfl rfl (hb hby d_prog_7_method_13_code_41)
      refine go st10 ?_
      refine go (fun _ k => by refine XS.lcmp X10.here hx rfl (hb hby d_prog_7_method_13_code_44) rfl ?_; exact k) ?_
      show OwnEnd _ _ _ _ _ _ _ (T10.setTop (mkF m 45 #[.val (.ref a0'), .val (.ref a1'), .val (.ref a1')] [(.int (lcmpW fa2 fb2))]))
      by_cases hc45_11 : fa2 = fb2
      · refine go (fun _ k => by refine XS.ifNo X10.here hx rfl (hb hby d_prog_7_method_13_code_45) rfl ((if0 _ _).trans (teq ((lw_eq _ _).mpr hc45_11)).2) ?_; exact k) ?_
        show OwnEnd _ _ _ _ _ _ _ (T10.setTop (mkF m 48 #[.val (.ref a0'), .val (.ref a1'), .val (.ref a1')] []))
        refine go (fun _ k => by refine XS.aloadN X10.here hx rfl (hb hby d_prog_7_method_13_code_48) rfl rfl ?_; exact k) ?_
        show OwnEnd _ _ _ _ _ _ _ (T10.setTop (mkF m 49 #[.val (.ref a0'), .val (.ref a1'), .val (.ref a1')] [(.ref a0')]))
        obtain ⟨T12, X12, e12, st12⟩ := getF X10 hx hZ hown (host := "") (Or.inl (hw _ (List.mem_of_getElem? (i := 16) rfl))) Via.refl e10 G3 (g := (mkF m 49 #[.val (.ref a0'), .val (.ref a1'), .val (.ref a1')] [(.ref a0')])) rfl rfl (hb hby d_prog_7_method_13_code_49)
        refine go st12 ?_
        refine go (fun _ k => by refine XS.aloadN X12.here hx rfl (hb hby d_prog_7_method_13_code_52) rfl rfl ?_; exact k) ?_
        show OwnEnd _ _ _ _ _ _ _ (T12.setTop (mkF m 53 #[.val (.ref a0'), .val (.ref a1'), .val (.ref a1')] [(.ref a1'), (.long fa3)]))
        obtain ⟨T13, X13, e13, st13⟩ := getF X12 hx hZ hown (host := "") (Or.inl (hw _ (List.mem_of_getElem? (i := 16) rfl))) Via.refl e12 G14 (g := (mkF m 53 #[.val (.ref a0'), .val (.ref a1'), .val (.ref a1')] [(.ref a1'), (.long fa3)])) rfl rfl (hb hby d_prog_7_method_13_code_53)
        refine go st13 ?_
        refine go (fun _ k => by refine XS.lcmp X13.here hx rfl (hb hby d_prog_7_method_13_code_56) rfl ?_; exact k) ?_
        show OwnEnd _ _ _ _ _ _ _ (T13.setTop (mkF m 57 #[.val (.ref a0'), .val (.ref a1'), .val (.ref a1')] [(.int (lcmpW fa3 fb3))]))
        by_cases hc57_14 : fa3 = fb3
        · refine go (fun _ k => by refine XS.ifNo X13.here hx rfl (hb hby d_prog_7_method_13_code_57) rfl ((if0 _ _).trans (teq ((lw_eq _ _).mpr hc57_14)).2) ?_; exact k) ?_
          show OwnEnd _ _ _ _ _ _ _ (T13.setTop (mkF m 60 #[.val (.ref a0'), .val (.ref a1'), .val (.ref a1')] []))
          refine go (fun _ k => by refine XS.aloadN X13.here hx rfl (hb hby d_prog_7_method_13_code_60) rfl rfl ?_; exact k) ?_
          show OwnEnd _ _ _ _ _ _ _ (T13.setTop (mkF m 61 #[.val (.ref a0'), .val (.ref a1'), .val (.ref a1')] [(.ref a0')]))
          obtain ⟨T15, X15, e15, st15⟩ := getF X13 hx hZ hown (host := "") (Or.inl (hw _ (List.mem_of_getElem? (i := 18) rfl))) Via.refl e13 G4 (g := (mkF m 61 #[.val (.ref a0'), .val (.ref a1'), .val (.ref a1')] [(.ref a0')])) rfl rfl (hb hby d_prog_7_method_13_code_61)
          refine go st15 ?_
          refine go (fun _ k => by refine XS.aloadN X15.here hx rfl (hb hby d_prog_7_method_13_code_64) rfl rfl ?_; exact k) ?_
          show OwnEnd _ _ _ _ _ _ _ (T15.setTop (mkF m 65 #[.val (.ref a0'), .val (.ref a1'), .val (.ref a1')] [(.ref a1'), (.int fa4)]))
          obtain ⟨T16, X16, e16, st16⟩ := getF X15 hx hZ hown (host := "") (Or.inl (hw _ (List.mem_of_getElem? (i := 18) rfl))) Via.refl e15 G15 (g := (mkF m 65 #[.val (.ref a0'), .val (.ref a1'), .val (.ref a1')] [(.ref a1'), (.int fa4)])) rfl rfl (hb hby d_prog_7_method_13_code_65)
          refine go st16 ?_
          show OwnEnd _ _ _ _ _ _ _ (T16.setTop (mkF m 68 #[.val (.ref a0'), .val (.ref a1'), .val (.ref a1')] [(.int fb4), (.int fa4)]))
          by_cases hc68_17 : fa4 = fb4
          · refine go (fun _ k => by refine XS.icmpNo X16.here hx rfl (hb hby d_prog_7_method_13_code_68) rfl (teq hc68_17).2 ?_; exact k) ?_
            show OwnEnd _ _ _ _ _ _ _ (T16.setTop (mkF m 71 #[.val (.ref a0'), .val (.ref a1'), .val (.ref a1')] []))
            refine go (fun _ k => by refine XS.aloadN X16.here hx rfl (hb hby d_prog_7_method_13_code_71) rfl rfl ?_; exact k) ?_
            show OwnEnd _ _ _ _ _ _ _ (T16.setTop (mkF m 72 #[.val (.ref a0'), .val (.ref a1'), .val (.ref a1')] [(.ref a0')]))
            obtain ⟨T18, X18, e18, st18⟩ := getF X16 hx hZ hown (host := "") (Or.inl (hw _ (List.mem_of_getElem? (i := 20) rfl))) Via.refl e16 G5 (g := (mkF m 72 #[.val (.ref a0'), .val (.ref a1'), .val (.ref a1')] [(.ref a0')])) rfl rfl (hb hby d_prog_7_method_13_code_72)
            refine go st18 ?_
            refine go (fun _ k => by refine XS.aloadN X18.here hx rfl (hb hby d_prog_7_method_13_code_75) rfl rfl ?_; exact k) ?_
            show OwnEnd _ _ _ _ _ _ _ (T18.setTop (mkF m 76 #[.val (.ref a0'), .val (.ref a1'), .val (.ref a1')] [(.ref a1'), (.int fa5)]))
            obtain ⟨T19, X19, e19, st19⟩ := getF X18 hx hZ hown (host := "") (Or.inl (hw _ (List.mem_of_getElem? (i := 20) rfl))) Via.refl e18 G16 (g := (mkF m 76 #[.val (.ref a0'), .val (.ref a1'), .val (.ref a1')] [(.ref a1'), (.int fa5)])) rfl rfl (hb hby d_prog_7_method_13_code_76)
            refine go st19 ?_
            show OwnEnd _ _ _ _ _ _ _ (T19.setTop (mkF m 79 #[.val (.ref a0'), .val (.ref a1'), .val (.ref a1')] [(.int fb5), (.int fa5)]))
            by_cases hc79_20 : fa5 = fb5
            · refine go (fun _ k => by refine XS.icmpNo X19.here hx rfl (hb hby d_prog_7_method_13_code_79) rfl (teq hc79_20).2 ?_; exact k) ?_
              show OwnEnd _ _ _ _ _ _ _ (T19.setTop (mkF m 82 #[.val (.ref a0'), .val (.ref a1'), .val (.ref a1')] []))
              refine go (fun _ k => by refine XS.aloadN X19.here hx rfl (hb hby d_prog_7_method_13_code_82) rfl rfl ?_; exact k) ?_
              show OwnEnd _ _ _ _ _ _ _ (T19.setTop (mkF m 83 #[.val (.ref a0'), .val (.ref a1'), .val (.ref a1')] [(.ref a0')]))
              obtain ⟨T21, X21, e21, st21⟩ := getF X19 hx hZ hown (host := "") (Or.inl (hw _ (List.mem_of_getElem? (i := 22) rfl))) Via.refl e19 G6 (g := (mkF m 83 #[.val (.ref a0'), .val (.ref a1'), .val (.ref a1')] [(.ref a0')])) rfl rfl (hb hby d_prog_7_method_13_code_83)
              refine go st21 ?_
              refine go (fun _ k => by refine XS.aloadN X21.here hx rfl (hb hby d_prog_7_method_13_code_86) rfl rfl ?_; exact k) ?_
              show OwnEnd _ _ _ _ _ _ _ (T21.setTop (mkF m 87 #[.val (.ref a0'), .val (.ref a1'), .val (.ref a1')] [(.ref a1'), (.int fa6)]))
              obtain ⟨T22, X22, e22, st22⟩ := getF X21 hx hZ hown (host := "") (Or.inl (hw _ (List.mem_of_getElem? (i := 22) rfl))) Via.refl e21 G17 (g := (mkF m 87 #[.val (.ref a0'), .val (.ref a1'), .val (.ref a1')] [(.ref a1'), (.int fa6)])) rfl rfl (hb hby d_prog_7_method_13_code_87)
              refine go st22 ?_
              show OwnEnd _ _ _ _ _ _ _ (T22.setTop (mkF m 90 #[.val (.ref a0'), .val (.ref a1'), .val (.ref a1')] [(.int fb6), (.int fa6)]))
              by_cases hc90_23 : fa6 = fb6
              · refine go (fun _ k => by refine XS.icmpNo X22.here hx rfl (hb hby d_prog_7_method_13_code_90) rfl (teq hc90_23).2 ?_; exact k) ?_
                show OwnEnd _ _ _ _ _ _ _ (T22.setTop (mkF m 93 #[.val (.ref a0'), .val (.ref a1'), .val (.ref a1')] []))
                refine go (fun _ k => by refine XS.aloadN X22.here hx rfl (hb hby d_prog_7_method_13_code_93) rfl rfl ?_; exact k) ?_
                show OwnEnd _ _ _ _ _ _ _ (T22.setTop (mkF m 94 #[.val (.ref a0'), .val (.ref a1'), .val (.ref a1')] [(.ref a0')]))
                obtain ⟨T24, X24, e24, st24⟩ := getF X22 hx hZ hown (host := "") (Or.inl (hw _ (List.mem_of_getElem? (i := 24) rfl))) Via.refl e22 G7 (g := (mkF m 94 #[.val (.ref a0'), .val (.ref a1'), .val (.ref a1')] [(.ref a0')])) rfl rfl (hb hby d_prog_7_method_13_code_94)
                refine go st24 ?_
                refine go (fun _ k => by refine XS.aloadN X24.here hx rfl (hb hby d_prog_7_method_13_code_97) rfl rfl ?_; exact k) ?_
                show OwnEnd _ _ _ _ _ _ _ (T24.setTop (mkF m 98 #[.val (.ref a0'), .val (.ref a1'), .val (.ref a1')] [(.ref a1'), (.long fa7)]))
                obtain ⟨T25, X25, e25, st25⟩ := getF X24 hx hZ hown (host := "") (Or.inl (hw _ (List.mem_of_getElem? (i := 24) rfl))) Via.refl e24 G18 (g := (mkF m 98 #[.val (.ref a0'), .val (.ref a1'), .val (.ref a1')] [(.ref a1'), (.long fa7)])) rfl rfl (hb hby d_prog_7_method_13_code_98)
                refine go st25 ?_
                refine go (fun _ k => by refine XS.lcmp X25.here hx rfl (hb hby d_prog_7_method_13_code_101) rfl ?_; exact k) ?_
                show OwnEnd _ _ _ _ _ _ _ (T25.setTop (mkF m 102 #[.val (.ref a0'), .val (.ref a1'), .val (.ref a1')] [(.int (lcmpW fa7 fb7))]))
                by_cases hc102_26 : fa7 = fb7
                · refine go (fun _ k => by refine XS.ifNo X25.here hx rfl (hb hby d_prog_7_method_13_code_102) rfl ((if0 _ _).trans (teq ((lw_eq _ _).mpr hc102_26)).2) ?_; exact k) ?_
                  show OwnEnd _ _ _ _ _ _ _ (T25.setTop (mkF m 105 #[.val (.ref a0'), .val (.ref a1'), .val (.ref a1')] []))
                  refine go (fun _ k => by refine XS.aloadN X25.here hx rfl (hb hby d_prog_7_method_13_code_105) rfl rfl ?_; exact k) ?_
                  show OwnEnd _ _ _ _ _ _ _ (T25.setTop (mkF m 106 #[.val (.ref a0'), .val (.ref a1'), .val (.ref a1')] [(.ref a0')]))
                  obtain ⟨T27, X27, e27, st27⟩ := getF X25 hx hZ hown (host := "") (Or.inl (hw _ (List.mem_of_getElem? (i := 26) rfl))) Via.refl e25 G8 (g := (mkF m 106 #[.val (.ref a0'), .val (.ref a1'), .val (.ref a1')] [(.ref a0')])) rfl rfl (hb hby d_prog_7_method_13_code_106)
                  refine go st27 ?_
                  refine go (fun _ k => by refine XS.aloadN X27.here hx rfl (hb hby d_prog_7_method_13_code_109) rfl rfl ?_; exact k) ?_
                  show OwnEnd _ _ _ _ _ _ _ (T27.setTop (mkF m 110 #[.val (.ref a0'), .val (.ref a1'), .val (.ref a1')] [(.ref a1'), (.int fa8)]))
                  obtain ⟨T28, X28, e28, st28⟩ := getF X27 hx hZ hown (host := "") (Or.inl (hw _ (List.mem_of_getElem? (i := 26) rfl))) Via.refl e27 G19 (g := (mkF m 110 #[.val (.ref a0'), .val (.ref a1'), .val (.ref a1')] [(.ref a1'), (.int fa8)])) rfl rfl (hb hby d_prog_7_method_13_code_110)
                  refine go st28 ?_
                  show OwnEnd _ _ _ _ _ _ _ (T28.setTop (mkF m 113 #[.val (.ref a0'), .val (.ref a1'), .val (.ref a1')] [(.int fb8), (.int fa8)]))
                  by_cases hc113_29 : fa8 = fb8
                  · refine go (fun _ k => by refine XS.icmpNo X28.here hx rfl (hb hby d_prog_7_method_13_code_113) rfl (teq hc113_29).2 ?_; exact k) ?_
                    show OwnEnd _ _ _ _ _ _ _ (T28.setTop (mkF m 116 #[.val (.ref a0'), .val (.ref a1'), .val (.ref a1')] []))
                    refine go (fun _ k => by refine XS.aloadN X28.here hx rfl (hb hby d_prog_7_method_13_code_116) rfl rfl ?_; exact k) ?_
                    show OwnEnd _ _ _ _ _ _ _ (T28.setTop (mkF m 117 #[.val (.ref a0'), .val (.ref a1'), .val (.ref a1')] [(.ref a0')]))
                    obtain ⟨T30, X30, e30, st30⟩ := getF X28 hx hZ hown (host := "") (Or.inl (hw _ (List.mem_of_getElem? (i := 28) rfl))) Via.refl e28 G9 (g := (mkF m 117 #[.val (.ref a0'), .val (.ref a1'), .val (.ref a1')] [(.ref a0')])) rfl rfl (hb hby d_prog_7_method_13_code_117)
                    refine go st30 ?_
                    refine go (fun _ k => by refine XS.aloadN X30.here hx rfl (hb hby d_prog_7_method_13_code_120) rfl rfl ?_; exact k) ?_
                    show OwnEnd _ _ _ _ _ _ _ (T30.setTop (mkF m 121 #[.val (.ref a0'), .val (.ref a1'), .val (.ref a1')] [(.ref a1'), (.int fa9)]))
                    obtain ⟨T31, X31, e31, st31⟩ := getF X30 hx hZ hown (host := "") (Or.inl (hw _ (List.mem_of_getElem? (i := 28) rfl))) Via.refl e30 G20 (g := (mkF m 121 #[.val (.ref a0'), .val (.ref a1'), .val (.ref a1')] [(.ref a1'), (.int fa9)])) rfl rfl (hb hby d_prog_7_method_13_code_121)
                    refine go st31 ?_
                    show OwnEnd _ _ _ _ _ _ _ (T31.setTop (mkF m 124 #[.val (.ref a0'), .val (.ref a1'), .val (.ref a1')] [(.int fb9), (.int fa9)]))
                    by_cases hc124_32 : fa9 = fb9
                    · refine go (fun _ k => by refine XS.icmpNo X31.here hx rfl (hb hby d_prog_7_method_13_code_124) rfl (teq hc124_32).2 ?_; exact k) ?_
                      show OwnEnd _ _ _ _ _ _ _ (T31.setTop (mkF m 127 #[.val (.ref a0'), .val (.ref a1'), .val (.ref a1')] []))
                      refine go (fun _ k => by refine XS.aloadN X31.here hx rfl (hb hby d_prog_7_method_13_code_127) rfl rfl ?_; exact k) ?_
                      show OwnEnd _ _ _ _ _ _ _ (T31.setTop (mkF m 128 #[.val (.ref a0'), .val (.ref a1'), .val (.ref a1')] [(.ref a0')]))
                      obtain ⟨T33, X33, e33, st33⟩ := getF X31 hx hZ hown (host := "") (Or.inl (hw _ (List.mem_of_getElem? (i := 30) rfl))) Via.refl e31 G10 (g := (mkF m 128 #[.val (.ref a0'), .val (.ref a1'), .val (.ref a1')] [(.ref a0')])) rfl rfl (hb hby d_prog_7_method_13_code_128)
                      refine go st33 ?_
                      refine go (fun _ k => by refine XS.aloadN X33.here hx rfl (hb hby d_prog_7_method_13_code_131) rfl rfl ?_; exact k) ?_
                      show OwnEnd _ _ _ _ _ _ _ (T33.setTop (mkF m 132 #[.val (.ref a0'), .val (.ref a1'), .val (.ref a1')] [(.ref a1'), (.long fa10)]))
                      obtain ⟨T34, X34, e34, st34⟩ := getF X33 hx hZ hown (host := "") (Or.inl (hw _ (List.mem_of_getElem? (i := 30) rfl))) Via.refl e33 G21 (g := (mkF m 132 #[.val (.ref a0'), .val (.ref a1'), .val (.ref a1')] [(.ref a1'), (.long fa10)])) rfl rfl (hb hby d_prog_7_method_13_code_132)
                      refine go st34 ?_
                      refine go (fun _ k => by refine XS.lcmp X34.here hx rfl (hb hby d_prog_7_method_13_code_135) rfl ?_; exact k) ?_
                      show OwnEnd _ _ _ _ _ _ _ (T34.setTop (mkF m 136 #[.val (.ref a0'), .val (.ref a1'), .val (.ref a1')] [(.int (lcmpW fa10 fb10))]))
                      by_cases hc136_35 : fa10 = fb10
                      · refine go (fun _ k => by refine XS.ifNo X34.here hx rfl (hb hby d_prog_7_method_13_code_136) rfl ((if0 _ _).trans (teq ((lw_eq _ _).mpr hc136_35)).2) ?_; exact k) ?_
                        show OwnEnd _ _ _ _ _ _ _ (T34.setTop (mkF m 139 #[.val (.ref a0'), .val (.ref a1'), .val (.ref a1')] []))
                        refine go (fun _ k => by refine XS.iconst X34.here hx rfl (hb hby d_prog_7_method_13_code_139) ?_; exact k) ?_
                        refine go (fun _ k => by refine XS.goto X34.here hx rfl (pc0 := 140) (pc' := 144) rfl (hb hby d_prog_7_method_13_code_140) (by decide) (by decide) ?_; exact k) ?_
                        show OwnEnd _ _ _ _ _ _ _ (T34.setTop (mkF m 144 #[.val (.ref a0'), .val (.ref a1'), .val (.ref a1')] [(.int (1 : Int32))]))
                        refine endN X34 hx hlk (t := .boolean) (by simp) Bd.returns (hb hby d_prog_7_method_13_code_144) e34 (by decide) (by decide) ?_
                        exact ⟨by rw [if_pos (by simp_all [own_eq])]; rfl, N0, rfl⟩
                      · refine go (fun _ k => by refine XS.ifYes X34.here hx rfl (pc0 := 136) (pc' := 143) rfl (hb hby d_prog_7_method_13_code_136) rfl ((if0 _ _).trans (feq (fun q => hc136_35 ((lw_eq _ _).mp q))).2) (by decide) (by decide) ?_; exact k) ?_
                        show OwnEnd _ _ _ _ _ _ _ (T34.setTop (mkF m 143 #[.val (.ref a0'), .val (.ref a1'), .val (.ref a1')] []))
                        refine go (fun _ k => by refine XS.iconst X34.here hx rfl (hb hby d_prog_7_method_13_code_143) ?_; exact k) ?_
                        show OwnEnd _ _ _ _ _ _ _ (T34.setTop (mkF m 144 #[.val (.ref a0'), .val (.ref a1'), .val (.ref a1')] [(.int (0 : Int32))]))
                        refine endN X34 hx hlk (t := .boolean) (by simp) Bd.returns (hb hby d_prog_7_method_13_code_144) e34 (by decide) (by decide) ?_
                        exact ⟨by rw [if_neg (by simp_all [own_eq])]; rfl, N0, rfl⟩
                    · refine go (fun _ k => by refine XS.icmpYes X31.here hx rfl (pc0 := 124) (pc' := 143) rfl (hb hby d_prog_7_method_13_code_124) rfl (feq hc124_32).2 (by decide) (by decide) ?_; exact k) ?_
                      show OwnEnd _ _ _ _ _ _ _ (T31.setTop (mkF m 143 #[.val (.ref a0'), .val (.ref a1'), .val (.ref a1')] []))
                      refine go (fun _ k => by refine XS.iconst X31.here hx rfl (hb hby d_prog_7_method_13_code_143) ?_; exact k) ?_
                      show OwnEnd _ _ _ _ _ _ _ (T31.setTop (mkF m 144 #[.val (.ref a0'), .val (.ref a1'), .val (.ref a1')] [(.int (0 : Int32))]))
                      refine endN X31 hx hlk (t := .boolean) (by simp) Bd.returns (hb hby d_prog_7_method_13_code_144) e31 (by decide) (by decide) ?_
                      exact ⟨by rw [if_neg (by simp_all [own_eq])]; rfl, N0, rfl⟩
                  · refine go (fun _ k => by refine XS.icmpYes X28.here hx rfl (pc0 := 113) (pc' := 143) rfl (hb hby d_prog_7_method_13_code_113) rfl (feq hc113_29).2 (by decide) (by decide) ?_; exact k) ?_
                    show OwnEnd _ _ _ _ _ _ _ (T28.setTop (mkF m 143 #[.val (.ref a0'), .val (.ref a1'), .val (.ref a1')] []))
                    refine go (fun _ k => by refine XS.iconst X28.here hx rfl (hb hby d_prog_7_method_13_code_143) ?_; exact k) ?_
                    show OwnEnd _ _ _ _ _ _ _ (T28.setTop (mkF m 144 #[.val (.ref a0'), .val (.ref a1'), .val (.ref a1')] [(.int (0 : Int32))]))
                    refine endN X28 hx hlk (t := .boolean) (by simp) Bd.returns (hb hby d_prog_7_method_13_code_144) e28 (by decide) (by decide) ?_
                    exact ⟨by rw [if_neg (by simp_all [own_eq])]; rfl, N0, rfl⟩
                · refine go (fun _ k => by refine XS.ifYes X25.here hx rfl (pc0 := 102) (pc' := 143) rfl (hb hby d_prog_7_method_13_code_102) rfl ((if0 _ _).trans (feq (fun q => hc102_26 ((lw_eq _ _).mp q))).2) (by decide) (by decide) ?_; exact k) ?_
                  show OwnEnd _ _ _ _ _ _ _ (T25.setTop (mkF m 143 #[.val (.ref a0'), .val (.ref a1'), .val (.ref a1')] []))
                  refine go (fun _ k => by refine XS.iconst X25.here hx rfl (hb hby d_prog_7_method_13_code_143) ?_; exact k) ?_
                  show OwnEnd _ _ _ _ _ _ _ (T25.setTop (mkF m 144 #[.val (.ref a0'), .val (.ref a1'), .val (.ref a1')] [(.int (0 : Int32))]))
                  refine endN X25 hx hlk (t := .boolean) (by simp) Bd.returns (hb hby d_prog_7_method_13_code_144) e25 (by decide) (by decide) ?_
                  exact ⟨by rw [if_neg (by simp_all [own_eq])]; rfl, N0, rfl⟩
              · refine go (fun _ k => by refine XS.icmpYes X22.here hx rfl (pc0 := 90) (pc' := 143) rfl (hb hby d_prog_7_method_13_code_90) rfl (feq hc90_23).2 (by decide) (by decide) ?_; exact k) ?_
                show OwnEnd _ _ _ _ _ _ _ (T22.setTop (mkF m 143 #[.val (.ref a0'), .val (.ref a1'), .val (.ref a1')] []))
                refine go (fun _ k => by refine XS.iconst X22.here hx rfl (hb hby d_prog_7_method_13_code_143) ?_; exact k) ?_
                show OwnEnd _ _ _ _ _ _ _ (T22.setTop (mkF m 144 #[.val (.ref a0'), .val (.ref a1'), .val (.ref a1')] [(.int (0 : Int32))]))
                refine endN X22 hx hlk (t := .boolean) (by simp) Bd.returns (hb hby d_prog_7_method_13_code_144) e22 (by decide) (by decide) ?_
                exact ⟨by rw [if_neg (by simp_all [own_eq])]; rfl, N0, rfl⟩
            · refine go (fun _ k => by refine XS.icmpYes X19.here hx rfl (pc0 := 79) (pc' := 143) rfl (hb hby d_prog_7_method_13_code_79) rfl (feq hc79_20).2 (by decide) (by decide) ?_; exact k) ?_
              show OwnEnd _ _ _ _ _ _ _ (T19.setTop (mkF m 143 #[.val (.ref a0'), .val (.ref a1'), .val (.ref a1')] []))
              refine go (fun _ k => by refine XS.iconst X19.here hx rfl (hb hby d_prog_7_method_13_code_143) ?_; exact k) ?_
              show OwnEnd _ _ _ _ _ _ _ (T19.setTop (mkF m 144 #[.val (.ref a0'), .val (.ref a1'), .val (.ref a1')] [(.int (0 : Int32))]))
              refine endN X19 hx hlk (t := .boolean) (by simp) Bd.returns (hb hby d_prog_7_method_13_code_144) e19 (by decide) (by decide) ?_
              exact ⟨by rw [if_neg (by simp_all [own_eq])]; rfl, N0, rfl⟩
          · refine go (fun _ k => by refine XS.icmpYes X16.here hx rfl (pc0 := 68) (pc' := 143) rfl (hb hby d_prog_7_method_13_code_68) rfl (feq hc68_17).2 (by decide) (by decide) ?_; exact k) ?_
            show OwnEnd _ _ _ _ _ _ _ (T16.setTop (mkF m 143 #[.val (.ref a0'), .val (.ref a1'), .val (.ref a1')] []))
            refine go (fun _ k => by refine XS.iconst X16.here hx rfl (hb hby d_prog_7_method_13_code_143) ?_; exact k) ?_
            show OwnEnd _ _ _ _ _ _ _ (T16.setTop (mkF m 144 #[.val (.ref a0'), .val (.ref a1'), .val (.ref a1')] [(.int (0 : Int32))]))
            refine endN X16 hx hlk (t := .boolean) (by simp) Bd.returns (hb hby d_prog_7_method_13_code_144) e16 (by decide) (by decide) ?_
            exact ⟨by rw [if_neg (by simp_all [own_eq])]; rfl, N0, rfl⟩
        · refine go (fun _ k => by refine XS.ifYes X13.here hx rfl (pc0 := 57) (pc' := 143) rfl (hb hby d_prog_7_method_13_code_57) rfl ((if0 _ _).trans (feq (fun q => hc57_14 ((lw_eq _ _).mp q))).2) (by decide) (by decide) ?_; exact k) ?_
          show OwnEnd _ _ _ _ _ _ _ (T13.setTop (mkF m 143 #[.val (.ref a0'), .val (.ref a1'), .val (.ref a1')] []))
          refine go (fun _ k => by refine XS.iconst X13.here hx rfl (hb hby d_prog_7_method_13_code_143) ?_; exact k) ?_
          show OwnEnd _ _ _ _ _ _ _ (T13.setTop (mkF m 144 #[.val (.ref a0'), .val (.ref a1'), .val (.ref a1')] [(.int (0 : Int32))]))
          refine endN X13 hx hlk (t := .boolean) (by simp) Bd.returns (hb hby d_prog_7_method_13_code_144) e13 (by decide) (by decide) ?_
          exact ⟨by rw [if_neg (by simp_all [own_eq])]; rfl, N0, rfl⟩
      · refine go (fun _ k => by refine XS.ifYes X10.here hx rfl (pc0 := 45) (pc' := 143) rfl (hb hby d_prog_7_method_13_code_45) rfl ((if0 _ _).trans (feq (fun q => hc45_11 ((lw_eq _ _).mp q))).2) (by decide) (by decide) ?_; exact k) ?_
        show OwnEnd _ _ _ _ _ _ _ (T10.setTop (mkF m 143 #[.val (.ref a0'), .val (.ref a1'), .val (.ref a1')] []))
        refine go (fun _ k => by refine XS.iconst X10.here hx rfl (hb hby d_prog_7_method_13_code_143) ?_; exact k) ?_
        show OwnEnd _ _ _ _ _ _ _ (T10.setTop (mkF m 144 #[.val (.ref a0'), .val (.ref a1'), .val (.ref a1')] [(.int (0 : Int32))]))
        refine endN X10 hx hlk (t := .boolean) (by simp) Bd.returns (hb hby d_prog_7_method_13_code_144) e10 (by decide) (by decide) ?_
        exact ⟨by rw [if_neg (by simp_all [own_eq])]; rfl, N0, rfl⟩
    · refine go (fun _ k => by refine XS.ifYes X7.here hx rfl (pc0 := 33) (pc' := 143) rfl (hb hby d_prog_7_method_13_code_33) rfl ((if0 _ _).trans (feq (fun q => hc33_8 ((lw_eq _ _).mp q))).2) (by decide) (by decide) ?_; exact k) ?_
      show OwnEnd _ _ _ _ _ _ _ (T7.setTop (mkF m 143 #[.val (.ref a0'), .val (.ref a1'), .val (.ref a1')] []))
      refine go (fun _ k => by refine XS.iconst X7.here hx rfl (hb hby d_prog_7_method_13_code_143) ?_; exact k) ?_
      show OwnEnd _ _ _ _ _ _ _ (T7.setTop (mkF m 144 #[.val (.ref a0'), .val (.ref a1'), .val (.ref a1')] [(.int (0 : Int32))]))
      refine endN X7 hx hlk (t := .boolean) (by simp) Bd.returns (hb hby d_prog_7_method_13_code_144) e7 (by decide) (by decide) ?_
      exact ⟨by rw [if_neg (by simp_all [own_eq])]; rfl, N0, rfl⟩
  · refine go (fun _ k => by refine XS.ifYes X4.here hx rfl (pc0 := 21) (pc' := 143) rfl (hb hby d_prog_7_method_13_code_21) rfl ((if0 _ _).trans (feq (fun q => hc21_5 ((lw_eq _ _).mp q))).2) (by decide) (by decide) ?_; exact k) ?_
    show OwnEnd _ _ _ _ _ _ _ (T4.setTop (mkF m 143 #[.val (.ref a0'), .val (.ref a1'), .val (.ref a1')] []))
    refine go (fun _ k => by refine XS.iconst X4.here hx rfl (hb hby d_prog_7_method_13_code_143) ?_; exact k) ?_
    show OwnEnd _ _ _ _ _ _ _ (T4.setTop (mkF m 144 #[.val (.ref a0'), .val (.ref a1'), .val (.ref a1')] [(.int (0 : Int32))]))
    refine endN X4 hx hlk (t := .boolean) (by simp) Bd.returns (hb hby d_prog_7_method_13_code_144) e4 (by decide) (by decide) ?_
    exact ⟨by rw [if_neg (by simp_all [own_eq])]; rfl, N0, rfl⟩
theorem ef_rm_eqn (m : MethodId) (y0 : Addr) : entryFrame m #[(.ref y0), .null] 3 = mkF m 0 #[.val (.ref y0), .val .null, .unset] [] := by first | (simp [entryFrame, mkF, argsToLocals, Value.category]; done) | rfl
def Q_rm_eqn (Z : State) (a0' : Addr) (h0 : Heap) (n0 : Nat) (v : Option Value) (h : Heap) (L : List Loc) : Prop := v = some (.int 0) ∧ Fr n0 L ∧ h = h0
set_option maxRecDepth 65536 in
set_option maxHeartbeats 40000000 in
theorem rm_eqn (l : Launch) (Z : State) (a0 : Array Value) (hw : ∀ d ∈ tables_1, d.before a0 Z = true) (ws : List Jvm.Cond) (a0' : Addr) (h0 : Heap) (n0 : Nat) :
    MetFree l (⟨"com/example/bound_quorum/boundquorum/model/Stat", "equals", "(Ljava/lang/Object;)Z"⟩ : MethodName) (head1 (Jvm.Cond.code (⟨"com/example/bound_quorum/boundquorum/model/Stat", "equals", "(Ljava/lang/Object;)Z"⟩ : MethodName) prog_7_method_13_code 3 (some .boolean) :: ws) ({ frames := 0, cells := 0, slots := 0, locals := 0 } : Room)) (fun a U => a = #[(.ref a0'), .null] ∧ Z.Warmed39 U.vm ∧ U.heap = h0) (fun _ _ _ _ _ => True) (fun _ U o U' => ∃ v L, o = .returned v ∧ Q_rm_eqn Z a0' h0 n0 v U'.heap L ∧ FrameEnd U o U' L 0 0) := by
  refine MetFree.of_bodySF (plainFor_of_name pn_com_example_bound_quorum_boundquorum_model_Stat) hisR ?_
  intro p e s m args below meth c s₁ Bd hml0 hP hK
  obtain ⟨rfl, hZ, hh⟩ := hP
  have hx := Bd.exec
  have hby := Bd.bytes
  have hlk := Bd.notSynchronized
  have hml : c.maxLocals = 3 := hml0
  have hown : s.vm.findClass "com/example/bound_quorum/boundquorum/model/Stat" = some m.cls := findClass_of_methodNamed Bd.named
  have hnm := (name_of_methodNamed Bd.named Bd.method).1
  have X0 : Stand p l e ({ frames := 0, cells := 0, slots := 0, locals := 0 } : Room) s m #[(.ref a0'), .null] below meth c s₁ [] 0 0 := Stand.of_body Bd
  have e0 : s₁.heap = h0 := by rw [← hh, Bd.state]; rfl
  have N0 := Fr.nil n0
  show OwnEnd p e below s (Q_rm_eqn Z a0' h0 n0) 0 0 (s₁.setTop (entryFrame m #[(.ref a0'), .null] 3))
  refine go (fun t k => castTop (ef_rm_eqn m a0') k) ?_
  show OwnEnd _ _ _ _ _ _ _ (s₁.setTop (mkF m 0 #[.val (.ref a0'), .val .null, .unset] []))
  refine go (fun _ k => by refine XS.aloadN X0.here hx rfl (hb hby d_prog_7_method_13_code_0) rfl rfl ?_; exact k) ?_
  show OwnEnd _ _ _ _ _ _ _ (s₁.setTop (mkF m 1 #[.val (.ref a0'), .val .null, .unset] [.null]))
  refine go (X0.instanceofNull hx (g := (mkF m 1 #[.val (.ref a0'), .val .null, .unset] [.null])) rfl rfl (hb hby d_prog_7_method_13_code_1)) ?_
  show OwnEnd _ _ _ _ _ _ _ (s₁.setTop (mkF m 4 #[.val (.ref a0'), .val .null, .unset] [(.int (0 : Int32))]))
  refine go (fun _ k => by refine XS.ifYes X0.here hx rfl (pc0 := 4) (pc' := 143) rfl (hb hby d_prog_7_method_13_code_4) rfl ((if0 _ _).trans (teq (by decide)).1) (by decide) (by decide) ?_; exact k) ?_
  refine go (fun _ k => by refine XS.iconst X0.here hx rfl (hb hby d_prog_7_method_13_code_143) ?_; exact k) ?_
  show OwnEnd _ _ _ _ _ _ _ (s₁.setTop (mkF m 144 #[.val (.ref a0'), .val .null, .unset] [(.int (0 : Int32))]))
  refine endN X0 hx hlk (t := .boolean) (by simp) Bd.returns (hb hby d_prog_7_method_13_code_144) e0 (by decide) (by decide) ?_
  exact ⟨rfl, N0, rfl⟩
theorem ef_rm_eqb (m : MethodId) (y0 : Addr) (y1 : Addr) : entryFrame m #[(.ref y0), (.ref y1)] 3 = mkF m 0 #[.val (.ref y0), .val (.ref y1), .unset] [] := by first | (simp [entryFrame, mkF, argsToLocals, Value.category]; done) | rfl
def Q_rm_eqb (Z : State) (a0' : Addr) (a1' : Addr) (h0 : Heap) (n0 : Nat) (v : Option Value) (h : Heap) (L : List Loc) : Prop := v = some (.int 0) ∧ Fr n0 L ∧ h = h0
set_option maxRecDepth 65536 in
set_option maxHeartbeats 40000000 in
theorem rm_eqb (l : Launch) (Z : State) (a0 : Array Value) (hw : ∀ d ∈ tables_1, d.before a0 Z = true) (ws : List Jvm.Cond) (a0' : Addr) (a1' : Addr) (h0 : Heap) (n0 : Nat) (EB : Exa Z h0 a1' "java/lang/Long") :
    MetFree l (⟨"com/example/bound_quorum/boundquorum/model/Stat", "equals", "(Ljava/lang/Object;)Z"⟩ : MethodName) (head1 (Jvm.Cond.code (⟨"com/example/bound_quorum/boundquorum/model/Stat", "equals", "(Ljava/lang/Object;)Z"⟩ : MethodName) prog_7_method_13_code 3 (some .boolean) :: ws) ({ frames := 0, cells := 0, slots := 0, locals := 0 } : Room)) (fun a U => a = #[(.ref a0'), (.ref a1')] ∧ Z.Warmed39 U.vm ∧ U.heap = h0) (fun _ _ _ _ _ => True) (fun _ U o U' => ∃ v L, o = .returned v ∧ Q_rm_eqb Z a0' a1' h0 n0 v U'.heap L ∧ FrameEnd U o U' L 0 0) := by
  refine MetFree.of_bodySF (plainFor_of_name pn_com_example_bound_quorum_boundquorum_model_Stat) hisR ?_
  intro p e s m args below meth c s₁ Bd hml0 hP hK
  obtain ⟨rfl, hZ, hh⟩ := hP
  have hx := Bd.exec
  have hby := Bd.bytes
  have hlk := Bd.notSynchronized
  have hml : c.maxLocals = 3 := hml0
  have hown : s.vm.findClass "com/example/bound_quorum/boundquorum/model/Stat" = some m.cls := findClass_of_methodNamed Bd.named
  have hnm := (name_of_methodNamed Bd.named Bd.method).1
  have X0 : Stand p l e ({ frames := 0, cells := 0, slots := 0, locals := 0 } : Room) s m #[(.ref a0'), (.ref a1')] below meth c s₁ [] 0 0 := Stand.of_body Bd
  have e0 : s₁.heap = h0 := by rw [← hh, Bd.state]; rfl
  have N0 := Fr.nil n0
  show OwnEnd p e below s (Q_rm_eqb Z a0' a1' h0 n0) 0 0 (s₁.setTop (entryFrame m #[(.ref a0'), (.ref a1')] 3))
  refine go (fun t k => castTop (ef_rm_eqb m a0' a1') k) ?_
  show OwnEnd _ _ _ _ _ _ _ (s₁.setTop (mkF m 0 #[.val (.ref a0'), .val (.ref a1'), .unset] []))
  refine go (fun _ k => by refine XS.aloadN X0.here hx rfl (hb hby d_prog_7_method_13_code_0) rfl rfl ?_; exact k) ?_
  show OwnEnd _ _ _ _ _ _ _ (s₁.setTop (mkF m 1 #[.val (.ref a0'), .val (.ref a1'), .unset] [(.ref a1')]))
  obtain ⟨T1, X1, e1, st1⟩ := instNo X0 hx hZ hown (hw _ (List.mem_of_getElem? (i := 37) rfl)) e0 EB (NSno (hw _ (List.mem_of_getElem? (i := 60) rfl)) (hw _ (List.mem_of_getElem? (i := 2) rfl)) (NS.step (hw _ (List.mem_of_getElem? (i := 60) rfl)) (NS.step (hw _ (List.mem_of_getElem? (i := 61) rfl)) (NSroot (hw _ (List.mem_of_getElem? (i := 62) rfl)) (hw _ (List.mem_of_getElem? (i := 2) rfl)) (by decide)) (by decide)) (by decide)) (by decide)) (g := (mkF m 1 #[.val (.ref a0'), .val (.ref a1'), .unset] [(.ref a1')])) rfl rfl (hb hby d_prog_7_method_13_code_1)
  refine go st1 ?_
  show OwnEnd _ _ _ _ _ _ _ (T1.setTop (mkF m 4 #[.val (.ref a0'), .val (.ref a1'), .unset] [(.int (0 : Int32))]))
  refine go (fun _ k => by refine XS.ifYes X1.here hx rfl (pc0 := 4) (pc' := 143) rfl (hb hby d_prog_7_method_13_code_4) rfl ((if0 _ _).trans (teq (by decide)).1) (by decide) (by decide) ?_; exact k) ?_
  refine go (fun _ k => by refine XS.iconst X1.here hx rfl (hb hby d_prog_7_method_13_code_143) ?_; exact k) ?_
  show OwnEnd _ _ _ _ _ _ _ (T1.setTop (mkF m 144 #[.val (.ref a0'), .val (.ref a1'), .unset] [(.int (0 : Int32))]))
  refine endN X1 hx hlk (t := .boolean) (by simp) Bd.returns (hb hby d_prog_7_method_13_code_144) e1 (by decide) (by decide) ?_
  exact ⟨rfl, N0, rfl⟩
theorem pd__JJJJIIIJIIJ_V : parseMethodDescriptor "(JJJJIIIJIIJ)V" = some ⟨[.long, .long, .long, .long, .int, .int, .int, .long, .int, .int, .long], none⟩ := by decide +kernel
theorem pd__Ljava_lang_Object__Z : parseMethodDescriptor "(Ljava/lang/Object;)Z" = some ⟨[(.object "java/lang/Object")], some .boolean⟩ := by decide +kernel
theorem pd__J_Ljava_lang_Long_ : parseMethodDescriptor "(J)Ljava/lang/Long;" = some ⟨[.long], some (.object "java/lang/Long")⟩ := by decide +kernel
theorem pn_com_example_bound_quorum_boundquorum_model_StatEqualsPinLaw : plainName "com/example/bound_quorum/boundquorum/model/StatEqualsPinLaw" = true := by first | (simp [plainName, overriddenIn]; done) | decide +kernel
theorem ef_rm_law (m : MethodId) (y0 : Int64) (y1 : Int64) (y2 : Int64) (y3 : Int32) (y4 : Int64) : entryFrame m #[(.long y0), (.long y1), (.long y2), (.int y3), (.long y4)] maxLocals = mkF m 0 #[.val (.long y0), .second, .val (.long y1), .second, .val (.long y2), .second, .val (.int y3), .val (.long y4), .second, .unset, .unset, .unset, .unset, .unset, .unset, .unset, .unset, .unset, .unset, .unset, .unset, .unset, .unset, .unset, .unset, .unset, .unset, .unset, .unset, .unset, .unset, .unset, .unset, .unset, .unset] [] := by first | (simp [entryFrame, mkF, argsToLocals, Value.category, maxLocals]; done) | rfl
def Q_rm_law (Z : State) (q0 : Int64) (q1 : Int64) (q2 : Int64) (p3 : Int32) (q4 : Int64) (caJ : Addr) (ccJ : Cell) (h0 : Heap) (n0 : Nat) (v : Option Value) (h : Heap) (L : List Loc) : Prop := v = some (.int 1) ∧ Fr n0 L
set_option maxRecDepth 65536 in
set_option maxHeartbeats 40000000 in
theorem rm_law (l : Launch) (Z : State) (a0 : Array Value) (hw : ∀ d ∈ tables_1, d.before a0 Z = true) (ws : List Jvm.Cond) (q0 : Int64) (q1 : Int64) (q2 : Int64) (p3 : Int32) (q4 : Int64) (caJ : Addr) (ccJ : Cell) (h0 : Heap) (n0 : Nat) (Z0 : n0 ≤ h0.size) (O : Old Z n0 h0) (SCJ : Sta Z Z.heap "java/lang/Long$LongCache" "cache" "[Ljava/lang/Long;" (.ref caJ)) (ACJ : Arr Z Z.heap caJ ccJ (.object "java/lang/Long")) (NCJ : ccJ.slots.size = 256) (ECJ : ∀ i, i < 256 → ∃ b, ccJ.slots[i]? = some (.ref b) ∧ Exa Z Z.heap b "java/lang/Long") :
    MetFree l x (head1 (Jvm.Cond.code x code maxLocals ret :: ws) room_1) (fun a U => a = #[(.long q0), (.long q1), (.long q2), (.int p3), (.long q4)] ∧ Z.Warmed39 U.vm ∧ U.heap = h0) (fun _ _ _ _ _ => True) (fun _ U o U' => ∃ v L, o = .returned v ∧ Q_rm_law Z q0 q1 q2 p3 q4 caJ ccJ h0 n0 v U'.heap L ∧ FrameEnd U o U' L 16 128) := by
  refine MetFree.of_bodySF (plainFor_of_name pn_com_example_bound_quorum_boundquorum_model_StatEqualsPinLaw) hisR ?_
  intro p e s m args below meth c s₁ Bd hml0 hP hK
  obtain ⟨rfl, hZ, hh⟩ := hP
  have hx := Bd.exec
  have hby := Bd.bytes
  have hlk := Bd.notSynchronized
  have hml : c.maxLocals = 35 := hml0
  have hown : s.vm.findClass "com/example/bound_quorum/boundquorum/model/StatEqualsPinLaw" = some m.cls := findClass_of_methodNamed Bd.named
  have hnm := (name_of_methodNamed Bd.named Bd.method).1
  have X0 : Stand p l e room_1 s m #[(.long q0), (.long q1), (.long q2), (.int p3), (.long q4)] below meth c s₁ [] 0 0 := Stand.of_body Bd
  have e0 : s₁.heap = h0 := by rw [← hh, Bd.state]; rfl
  have N0 := Fr.nil n0
  show OwnEnd p e below s (Q_rm_law Z q0 q1 q2 p3 q4 caJ ccJ h0 n0) 16 128 (s₁.setTop (entryFrame m #[(.long q0), (.long q1), (.long q2), (.int p3), (.long q4)] maxLocals))
  refine go (fun t k => castTop (ef_rm_law m q0 q1 q2 p3 q4) k) ?_
  show OwnEnd _ _ _ _ _ _ _ (s₁.setTop (mkF m 0 (fL1 q0 q1 q2 p3 q4) []))
  refine go (fun _ k => by refine XS.iload X0.here hx rfl (hb hby at_0) rfl ?_; exact k) ?_
  show OwnEnd _ _ _ _ _ _ _ (s₁.setTop (mkF m 2 (fL1 q0 q1 q2 p3 q4) [(.int p3)]))
  refine go (X0.ldcInt hx hown (mvT hZ (hw _ (List.mem_of_getElem? (i := 0) rfl))) (g := (mkF m 2 (fL1 q0 q1 q2 p3 q4) [(.int p3)])) rfl (hb hby at_2)) ?_
  refine go (fun _ k => by refine XS.iand X0.here hx rfl (hb hby at_4) rfl ?_; exact k) ?_
  refine go (fun _ k => by refine XS.bipush X0.here hx rfl (hb hby at_5) ?_; exact k) ?_
  show OwnEnd _ _ _ _ _ _ _ (s₁.setTop (mkF m 7 (fL1 q0 q1 q2 p3 q4) [(.int (14 : Int32)), (.int (p3 &&& (2147483647 : Int32)))]))
  refine go (fun t k => iremM (g := (mkF m 7 (fL1 q0 q1 q2 p3 q4) [(.int (14 : Int32)), (.int (p3 &&& (2147483647 : Int32)))])) X0 hx rfl (hb hby at_7) rfl (by decide) k) ?_
  refine go (fun _ k => by refine XS.istore X0.here hx rfl (hb hby at_8) rfl (l' := (fL2 q0 q1 q2 p3 q4 ((p3 &&& (2147483647 : Int32)) % (14 : Int32)))) rfl ?_; exact k) ?_
  show OwnEnd _ _ _ _ _ _ _ (s₁.setTop (mkF m 10 (fL2 q0 q1 q2 p3 q4 ((p3 &&& (2147483647 : Int32)) % (14 : Int32))) []))
  generalize qx1 : ((p3 &&& (2147483647 : Int32)) % (14 : Int32)) = x1
  refine go (fun _ k => by refine XS.lloadN X0.here hx rfl (hb hby at_10) rfl ?_; exact k) ?_
  refine go (fun _ k => by refine XS.lstore X0.here hx rfl (hb hby at_11) rfl (l' := (fL3 q0 q1 q2 p3 q4 x1 q0)) rfl ?_; exact k) ?_
  show OwnEnd _ _ _ _ _ _ _ (s₁.setTop (mkF m 13 (fL3 q0 q1 q2 p3 q4 x1 q0) []))
  refine go (fun _ k => by refine XS.lloadN X0.here hx rfl (hb hby at_13) rfl ?_; exact k) ?_
  refine go (fun _ k => by refine XS.lstore X0.here hx rfl (hb hby at_14) rfl (l' := (fL4 q0 q1 q2 p3 q4 x1 q0 q1)) rfl ?_; exact k) ?_
  refine go (fun _ k => by refine XS.lload X0.here hx rfl (hb hby at_16) rfl ?_; exact k) ?_
  refine go (fun _ k => by refine XS.lstore X0.here hx rfl (hb hby at_18) rfl (l' := (fL5 q0 q1 q2 p3 q4 x1 q0 q1 q2)) rfl ?_; exact k) ?_
  show OwnEnd _ _ _ _ _ _ _ (s₁.setTop (mkF m 20 (fL5 q0 q1 q2 p3 q4 x1 q0 q1 q2) []))
  refine go (fun _ k => by refine XS.lloadN X0.here hx rfl (hb hby at_20) rfl ?_; exact k) ?_
  refine go (fun _ k => by refine XS.lloadN X0.here hx rfl (hb hby at_21) rfl ?_; exact k) ?_
  refine go (fun _ k => by refine XS.ladd X0.here hx rfl (hb hby at_22) rfl ?_; exact k) ?_
  refine go (fun _ k => by refine XS.lstore X0.here hx rfl (hb hby at_23) rfl (l' := (fL6 q0 q1 q2 p3 q4 x1 q0 q1 q2 (q0 + q1))) rfl ?_; exact k) ?_
  show OwnEnd _ _ _ _ _ _ _ (s₁.setTop (mkF m 25 (fL6 q0 q1 q2 p3 q4 x1 q0 q1 q2 (q0 + q1)) []))
  generalize qx2 : (q0 + q1) = x2
  show OwnEnd _ _ _ _ _ _ _ (s₁.setTop (mkF m 25 (fL6 q0 q1 q2 p3 q4 x1 q0 q1 q2 x2) []))
  refine go (fun _ k => by refine XS.lloadN X0.here hx rfl (hb hby at_25) rfl ?_; exact k) ?_
  refine go (fun _ k => by refine XS.l2i X0.here hx rfl (hb hby at_26) rfl ?_; exact k) ?_
  refine go (fun _ k => by refine XS.istore X0.here hx rfl (hb hby at_27) rfl (l' := (fL7 q0 q1 q2 p3 q4 x1 q0 q1 q2 x2 (q0.toInt32))) rfl ?_; exact k) ?_
  show OwnEnd _ _ _ _ _ _ _ (s₁.setTop (mkF m 29 (fL7 q0 q1 q2 p3 q4 x1 q0 q1 q2 x2 (q0.toInt32)) []))
  generalize qx3 : (q0.toInt32) = x3
  refine go (fun _ k => by refine XS.lloadN X0.here hx rfl (hb hby at_29) rfl ?_; exact k) ?_
  show OwnEnd _ _ _ _ _ _ _ (s₁.setTop (mkF m 30 (fL7 q0 q1 q2 p3 q4 x1 q0 q1 q2 x2 x3) [(.long q1)]))
  refine go (fun _ k => by refine XS.l2i X0.here hx rfl (hb hby at_30) rfl ?_; exact k) ?_
  refine go (fun _ k => by refine XS.istore X0.here hx rfl (hb hby at_31) rfl (l' := (fL8 q0 q1 q2 p3 q4 x1 q0 q1 q2 x2 x3 (q1.toInt32))) rfl ?_; exact k) ?_
  show OwnEnd _ _ _ _ _ _ _ (s₁.setTop (mkF m 33 (fL8 q0 q1 q2 p3 q4 x1 q0 q1 q2 x2 x3 (q1.toInt32)) []))
  generalize qx4 : (q1.toInt32) = x4
  refine go (fun _ k => by refine XS.lload X0.here hx rfl (hb hby at_33) rfl ?_; exact k) ?_
  refine go (fun _ k => by refine XS.l2i X0.here hx rfl (hb hby at_35) rfl ?_; exact k) ?_
  show OwnEnd _ _ _ _ _ _ _ (s₁.setTop (mkF m 36 (fL8 q0 q1 q2 p3 q4 x1 q0 q1 q2 x2 x3 x4) [(.int (q2.toInt32))]))
  refine go (fun _ k => by refine XS.istore X0.here hx rfl (hb hby at_36) rfl (l' := (fL9 q0 q1 q2 p3 q4 x1 q0 q1 q2 x2 x3 x4 (q2.toInt32))) rfl ?_; exact k) ?_
  show OwnEnd _ _ _ _ _ _ _ (s₁.setTop (mkF m 38 (fL9 q0 q1 q2 p3 q4 x1 q0 q1 q2 x2 x3 x4 (q2.toInt32)) []))
  generalize qx5 : (q2.toInt32) = x5
  refine go (fun _ k => by refine XS.lloadN X0.here hx rfl (hb hby at_38) rfl ?_; exact k) ?_
  refine go (fun _ k => by refine XS.lload X0.here hx rfl (hb hby at_39) rfl ?_; exact k) ?_
  refine go (fun _ k => by refine XS.lxor X0.here hx rfl (hb hby at_41) rfl ?_; exact k) ?_
  show OwnEnd _ _ _ _ _ _ _ (s₁.setTop (mkF m 42 (fL9 q0 q1 q2 p3 q4 x1 q0 q1 q2 x2 x3 x4 x5) [(.long (q0 ^^^ q2))]))
  refine go (fun _ k => by refine XS.lstore X0.here hx rfl (hb hby at_42) rfl (l' := (fL10 q0 q1 q2 p3 q4 x1 q0 q1 q2 x2 x3 x4 x5 (q0 ^^^ q2))) rfl ?_; exact k) ?_
  show OwnEnd _ _ _ _ _ _ _ (s₁.setTop (mkF m 44 (fL10 q0 q1 q2 p3 q4 x1 q0 q1 q2 x2 x3 x4 x5 (q0 ^^^ q2)) []))
  generalize qx6 : (q0 ^^^ q2) = x6
  refine go (fun _ k => by refine XS.lloadN X0.here hx rfl (hb hby at_44) rfl ?_; exact k) ?_
  refine go (fun _ k => by refine XS.bipush X0.here hx rfl (hb hby at_45) ?_; exact k) ?_
  refine go (fun _ k => by refine XS.lushr X0.here hx rfl (hb hby at_47) rfl ?_; exact k) ?_
  show OwnEnd _ _ _ _ _ _ _ (s₁.setTop (mkF m 48 (fL10 q0 q1 q2 p3 q4 x1 q0 q1 q2 x2 x3 x4 x5 x6) [(.long ((q0.toUInt64 >>> ((32 : Int32) &&& 0x3f).toInt64.toUInt64).toInt64))]))
  refine go (fun _ k => by refine XS.l2i X0.here hx rfl (hb hby at_48) rfl ?_; exact k) ?_
  refine go (fun _ k => by refine XS.istore X0.here hx rfl (hb hby at_49) rfl (l' := (fL11 q0 q1 q2 p3 q4 x1 q0 q1 q2 x2 x3 x4 x5 x6 (((q0.toUInt64 >>> ((32 : Int32) &&& 0x3f).toInt64.toUInt64).toInt64).toInt32))) rfl ?_; exact k) ?_
  show OwnEnd _ _ _ _ _ _ _ (s₁.setTop (mkF m 51 (fL11 q0 q1 q2 p3 q4 x1 q0 q1 q2 x2 x3 x4 x5 x6 (((q0.toUInt64 >>> ((32 : Int32) &&& 0x3f).toInt64.toUInt64).toInt64).toInt32)) []))
  generalize qx7 : (((q0.toUInt64 >>> ((32 : Int32) &&& 0x3f).toInt64.toUInt64).toInt64).toInt32) = x7
  refine go (fun _ k => by refine XS.lloadN X0.here hx rfl (hb hby at_51) rfl ?_; exact k) ?_
  refine go (fun _ k => by refine XS.bipush X0.here hx rfl (hb hby at_52) ?_; exact k) ?_
  show OwnEnd _ _ _ _ _ _ _ (s₁.setTop (mkF m 54 (fL11 q0 q1 q2 p3 q4 x1 q0 q1 q2 x2 x3 x4 x5 x6 x7) [(.int (32 : Int32)), (.long q1)]))
  refine go (fun _ k => by refine XS.lushr X0.here hx rfl (hb hby at_54) rfl ?_; exact k) ?_
  refine go (fun _ k => by refine XS.l2i X0.here hx rfl (hb hby at_55) rfl ?_; exact k) ?_
  refine go (fun _ k => by refine XS.istore X0.here hx rfl (hb hby at_56) rfl (l' := (fL12 q0 q1 q2 p3 q4 x1 q0 q1 q2 x2 x3 x4 x5 x6 x7 (((q1.toUInt64 >>> ((32 : Int32) &&& 0x3f).toInt64.toUInt64).toInt64).toInt32))) rfl ?_; exact k) ?_
  show OwnEnd _ _ _ _ _ _ _ (s₁.setTop (mkF m 58 (fL12 q0 q1 q2 p3 q4 x1 q0 q1 q2 x2 x3 x4 x5 x6 x7 (((q1.toUInt64 >>> ((32 : Int32) &&& 0x3f).toInt64.toUInt64).toInt64).toInt32)) []))
  generalize qx8 : (((q1.toUInt64 >>> ((32 : Int32) &&& 0x3f).toInt64.toUInt64).toInt64).toInt32) = x8
  refine go (fun _ k => by refine XS.lloadN X0.here hx rfl (hb hby at_58) rfl ?_; exact k) ?_
  show OwnEnd _ _ _ _ _ _ _ (s₁.setTop (mkF m 59 (fL12 q0 q1 q2 p3 q4 x1 q0 q1 q2 x2 x3 x4 x5 x6 x7 x8) [(.long q1)]))
  refine go (fun _ k => by refine XS.lload X0.here hx rfl (hb hby at_59) rfl ?_; exact k) ?_
  refine go (fun _ k => by refine XS.lxor X0.here hx rfl (hb hby at_61) rfl ?_; exact k) ?_
  refine go (fun _ k => by refine XS.lstore X0.here hx rfl (hb hby at_62) rfl (l' := (fL13 q0 q1 q2 p3 q4 x1 q0 q1 q2 x2 x3 x4 x5 x6 x7 x8 (q1 ^^^ q2))) rfl ?_; exact k) ?_
  show OwnEnd _ _ _ _ _ _ _ (s₁.setTop (mkF m 64 (fL13 q0 q1 q2 p3 q4 x1 q0 q1 q2 x2 x3 x4 x5 x6 x7 x8 (q1 ^^^ q2)) []))
  generalize qx9 : (q1 ^^^ q2) = x9
  refine go (fun _ k => by refine XS.lload X0.here hx rfl (hb hby at_64) rfl ?_; exact k) ?_
  show OwnEnd _ _ _ _ _ _ _ (s₁.setTop (mkF m 66 (fL13 q0 q1 q2 p3 q4 x1 q0 q1 q2 x2 x3 x4 x5 x6 x7 x8 x9) [(.long q4)]))
  refine go (fun _ k => by refine XS.l2i X0.here hx rfl (hb hby at_66) rfl ?_; exact k) ?_
  refine go (fun _ k => by refine XS.istore X0.here hx rfl (hb hby at_67) rfl (l' := (fL14 q0 q1 q2 p3 q4 x1 q0 q1 q2 x2 x3 x4 x5 x6 x7 x8 x9 (q4.toInt32))) rfl ?_; exact k) ?_
  show OwnEnd _ _ _ _ _ _ _ (s₁.setTop (mkF m 69 (fL14 q0 q1 q2 p3 q4 x1 q0 q1 q2 x2 x3 x4 x5 x6 x7 x8 x9 (q4.toInt32)) []))
  generalize qx10 : (q4.toInt32) = x10
  show OwnEnd _ _ _ _ _ _ _ (s₁.setTop (mkF m 69 (fL14 q0 q1 q2 p3 q4 x1 q0 q1 q2 x2 x3 x4 x5 x6 x7 x8 x9 x10) []))
  obtain ⟨T11, h11, X11, e11, E11, A11, D11, -, st11⟩ := newO X0 hx hZ hown (hw _ (List.mem_of_getElem? (i := 1) rfl)) (hw _ (List.mem_of_getElem? (i := 2) rfl)) (hw _ (List.mem_of_getElem? (i := 3) rfl)) e0 (g := (mkF m 69 (fL14 q0 q1 q2 p3 q4 x1 q0 q1 q2 x2 x3 x4 x5 x6 x7 x8 x9 x10) [])) rfl (hb hby at_69) (by decide) (by decide)
  obtain ⟨b11, g11⟩ : ∃ z, z = h0.size := ⟨_, rfl⟩
  rw [← g11] at A11 D11 st11
  have g_b11 : n0 ≤ b11 := Nat.le_trans Z0 (Nat.le_of_eq g11.symm)
  have Z0 := Nat.le_trans Z0 E11.1
  have O := O.ext E11
  have F_czxid_b11 : Fld Z h11 b11 "com/example/bound_quorum/boundquorum/model/Stat" "czxid" "J" (.long (0 : Int64)) := D11 (Or.inr (hw _ (List.mem_of_getElem? (i := 11) rfl))) (ty := .long) (by decide)
  have F_mzxid_b11 : Fld Z h11 b11 "com/example/bound_quorum/boundquorum/model/Stat" "mzxid" "J" (.long (0 : Int64)) := D11 (Or.inr (hw _ (List.mem_of_getElem? (i := 13) rfl))) (ty := .long) (by decide)
  have F_ctime_b11 : Fld Z h11 b11 "com/example/bound_quorum/boundquorum/model/Stat" "ctime" "J" (.long (0 : Int64)) := D11 (Or.inr (hw _ (List.mem_of_getElem? (i := 15) rfl))) (ty := .long) (by decide)
  have F_mtime_b11 : Fld Z h11 b11 "com/example/bound_quorum/boundquorum/model/Stat" "mtime" "J" (.long (0 : Int64)) := D11 (Or.inr (hw _ (List.mem_of_getElem? (i := 17) rfl))) (ty := .long) (by decide)
  have F_version_b11 : Fld Z h11 b11 "com/example/bound_quorum/boundquorum/model/Stat" "version" "I" (.int (0 : Int32)) := D11 (Or.inr (hw _ (List.mem_of_getElem? (i := 19) rfl))) (ty := .int) (by decide)
  have F_cversion_b11 : Fld Z h11 b11 "com/example/bound_quorum/boundquorum/model/Stat" "cversion" "I" (.int (0 : Int32)) := D11 (Or.inr (hw _ (List.mem_of_getElem? (i := 21) rfl))) (ty := .int) (by decide)
  have F_aversion_b11 : Fld Z h11 b11 "com/example/bound_quorum/boundquorum/model/Stat" "aversion" "I" (.int (0 : Int32)) := D11 (Or.inr (hw _ (List.mem_of_getElem? (i := 23) rfl))) (ty := .int) (by decide)
  have F_ephemeralOwner_b11 : Fld Z h11 b11 "com/example/bound_quorum/boundquorum/model/Stat" "ephemeralOwner" "J" (.long (0 : Int64)) := D11 (Or.inr (hw _ (List.mem_of_getElem? (i := 25) rfl))) (ty := .long) (by decide)
  have F_dataLength_b11 : Fld Z h11 b11 "com/example/bound_quorum/boundquorum/model/Stat" "dataLength" "I" (.int (0 : Int32)) := D11 (Or.inr (hw _ (List.mem_of_getElem? (i := 27) rfl))) (ty := .int) (by decide)
  have F_numChildren_b11 : Fld Z h11 b11 "com/example/bound_quorum/boundquorum/model/Stat" "numChildren" "I" (.int (0 : Int32)) := D11 (Or.inr (hw _ (List.mem_of_getElem? (i := 29) rfl))) (ty := .int) (by decide)
  have F_pzxid_b11 : Fld Z h11 b11 "com/example/bound_quorum/boundquorum/model/Stat" "pzxid" "J" (.long (0 : Int64)) := D11 (Or.inr (hw _ (List.mem_of_getElem? (i := 31) rfl))) (ty := .long) (by decide)
  have E_b11 := A11
  refine go st11 ?_
  refine go (fun _ k => by refine XS.dup X11.here hx rfl (hb hby at_72) rfl rfl ?_; exact k) ?_
  refine go (fun _ k => by refine XS.lload X11.here hx rfl (hb hby at_73) rfl ?_; exact k) ?_
  refine go (fun _ k => by refine XS.lload X11.here hx rfl (hb hby at_75) rfl ?_; exact k) ?_
  show OwnEnd _ _ _ _ _ _ _ (T11.setTop (mkF m 77 (fL14 q0 q1 q2 p3 q4 x1 q0 q1 q2 x2 x3 x4 x5 x6 x7 x8 x9 x10) [(.long q1), (.long q0), (.ref b11), (.ref b11)]))
  refine go (fun _ k => by refine XS.lload X11.here hx rfl (hb hby at_77) rfl ?_; exact k) ?_
  refine go (fun _ k => by refine XS.lload X11.here hx rfl (hb hby at_79) rfl ?_; exact k) ?_
  refine go (fun _ k => by refine XS.iload X11.here hx rfl (hb hby at_81) rfl ?_; exact k) ?_
  refine go (fun _ k => by refine XS.iload X11.here hx rfl (hb hby at_83) rfl ?_; exact k) ?_
  show OwnEnd _ _ _ _ _ _ _ (T11.setTop (mkF m 85 (fL14 q0 q1 q2 p3 q4 x1 q0 q1 q2 x2 x3 x4 x5 x6 x7 x8 x9 x10) [(.int x4), (.int x3), (.long x2), (.long q2), (.long q1), (.long q0), (.ref b11), (.ref b11)]))
  refine go (fun _ k => by refine XS.iload X11.here hx rfl (hb hby at_85) rfl ?_; exact k) ?_
  refine go (fun _ k => by refine XS.lload X11.here hx rfl (hb hby at_87) rfl ?_; exact k) ?_
  refine go (fun _ k => by refine XS.iload X11.here hx rfl (hb hby at_89) rfl ?_; exact k) ?_
  refine go (fun _ k => by refine XS.iload X11.here hx rfl (hb hby at_91) rfl ?_; exact k) ?_
  show OwnEnd _ _ _ _ _ _ _ (T11.setTop (mkF m 93 (fL14 q0 q1 q2 p3 q4 x1 q0 q1 q2 x2 x3 x4 x5 x6 x7 x8 x9 x10) [(.int x8), (.int x7), (.long x6), (.int x5), (.int x4), (.int x3), (.long x2), (.long q2), (.long q1), (.long q0), (.ref b11), (.ref b11)]))
  refine go (fun _ k => by refine XS.lload X11.here hx rfl (hb hby at_93) rfl ?_; exact k) ?_
  show OwnEnd _ _ _ _ _ _ _ (T11.setTop (mkF m 95 (fL14 q0 q1 q2 p3 q4 x1 q0 q1 q2 x2 x3 x4 x5 x6 x7 x8 x9 x10) [(.long x9), (.int x8), (.int x7), (.long x6), (.int x5), (.int x4), (.int x3), (.long x2), (.long q2), (.long q1), (.long q0), (.ref b11), (.ref b11)]))
  obtain ⟨_, T12, L12, X12, hQ12, st12⟩ := callInit X11 hx hZ hown rfl (hw _ (List.mem_of_getElem? (i := 4) rfl)) (hw _ (List.mem_of_getElem? (i := 5) rfl)) (hw _ (List.mem_of_getElem? (i := 3) rfl)) (hw _ (List.mem_of_getElem? (i := 6) rfl)) (by decide) (rm_ini l Z a0 hw [] b11 q0 q1 q2 x2 x3 x4 x5 x6 x7 x8 x9 h11 n0 g_b11 E_b11 F_czxid_b11 F_mzxid_b11 F_ctime_b11 F_mtime_b11 F_version_b11 F_cversion_b11 F_aversion_b11 F_ephemeralOwner_b11 F_dataLength_b11 F_numChildren_b11 F_pzxid_b11) (W := 1) (by decide) (by decide) e11 (g := (mkF m 95 (fL14 q0 q1 q2 p3 q4 x1 q0 q1 q2 x2 x3 x4 x5 x6 x7 x8 x9 x10) [(.long x9), (.int x8), (.int x7), (.long x6), (.int x5), (.int x4), (.int x3), (.long x2), (.long q2), (.long q1), (.long q0), (.ref b11), (.ref b11)])) rfl (by rw [hml]; rfl) (argsL := [(.long q0), (.long q1), (.long q2), (.long x2), (.int x3), (.int x4), (.int x5), (.long x6), (.int x7), (.int x8), (.long x9)]) (rest := [(.ref b11)]) rfl (lenOf pd__JJJJIIIJIIJ_V rfl) rfl (by show 2 * 0 + _ ≤ _; exact Nat.le_of_eq rfl) (hb hby at_95) (by decide) (by decide)
  obtain ⟨rfl, Nq12, K12, E_b11, F_czxid_b11, F_mzxid_b11, F_ctime_b11, F_mtime_b11, F_version_b11, F_cversion_b11, F_aversion_b11, F_ephemeralOwner_b11, F_dataLength_b11, F_numChildren_b11, F_pzxid_b11⟩ := hQ12
  have N12 := Fr.app N0 Nq12
  have Z0 := Nat.le_trans Z0 K12.1
  have O := O.keep K12 (allS g_b11 all0)
  refine go st12 ?_
  refine go (fun _ k => by refine XS.astore X12.here hx rfl (hb hby at_98) rfl rfl (l' := (fL15 q0 q1 q2 p3 q4 x1 q0 q1 q2 x2 x3 x4 x5 x6 x7 x8 x9 x10 b11)) rfl ?_; exact k) ?_
  show OwnEnd _ _ _ _ _ _ _ (T12.setTop (mkF m 100 (fL15 q0 q1 q2 p3 q4 x1 q0 q1 q2 x2 x3 x4 x5 x6 x7 x8 x9 x10 b11) []))
  obtain ⟨T13, h13, X13, e13, E13, A13, D13, -, st13⟩ := newO X12 hx hZ hown (hw _ (List.mem_of_getElem? (i := 1) rfl)) (hw _ (List.mem_of_getElem? (i := 2) rfl)) (hw _ (List.mem_of_getElem? (i := 3) rfl)) rfl (g := (mkF m 100 (fL15 q0 q1 q2 p3 q4 x1 q0 q1 q2 x2 x3 x4 x5 x6 x7 x8 x9 x10 b11) [])) rfl (hb hby at_100) (by decide) (by decide)
  obtain ⟨b13, g13⟩ : ∃ z, z = T12.heap.size := ⟨_, rfl⟩
  rw [← g13] at A13 D13 st13
  have ne_b11_b13 : b11 ≠ b13 := fun q => absurd E_b11.lt (by rw [q, g13]; exact Nat.lt_irrefl _)
  have g_b13 : n0 ≤ b13 := Nat.le_trans Z0 (Nat.le_of_eq g13.symm)
  have Z0 := Nat.le_trans Z0 E13.1
  have O := O.ext E13
  have E_b11 := E_b11.ext E13
  have F_czxid_b11 := F_czxid_b11.ext E13
  have F_mzxid_b11 := F_mzxid_b11.ext E13
  have F_ctime_b11 := F_ctime_b11.ext E13
  have F_mtime_b11 := F_mtime_b11.ext E13
  have F_version_b11 := F_version_b11.ext E13
  have F_cversion_b11 := F_cversion_b11.ext E13
  have F_aversion_b11 := F_aversion_b11.ext E13
  have F_ephemeralOwner_b11 := F_ephemeralOwner_b11.ext E13
  have F_dataLength_b11 := F_dataLength_b11.ext E13
  have F_numChildren_b11 := F_numChildren_b11.ext E13
  have F_pzxid_b11 := F_pzxid_b11.ext E13
  have F_czxid_b13 : Fld Z h13 b13 "com/example/bound_quorum/boundquorum/model/Stat" "czxid" "J" (.long (0 : Int64)) := D13 (Or.inr (hw _ (List.mem_of_getElem? (i := 11) rfl))) (ty := .long) (by decide)
  have F_mzxid_b13 : Fld Z h13 b13 "com/example/bound_quorum/boundquorum/model/Stat" "mzxid" "J" (.long (0 : Int64)) := D13 (Or.inr (hw _ (List.mem_of_getElem? (i := 13) rfl))) (ty := .long) (by decide)
  have F_ctime_b13 : Fld Z h13 b13 "com/example/bound_quorum/boundquorum/model/Stat" "ctime" "J" (.long (0 : Int64)) := D13 (Or.inr (hw _ (List.mem_of_getElem? (i := 15) rfl))) (ty := .long) (by decide)
  have F_mtime_b13 : Fld Z h13 b13 "com/example/bound_quorum/boundquorum/model/Stat" "mtime" "J" (.long (0 : Int64)) := D13 (Or.inr (hw _ (List.mem_of_getElem? (i := 17) rfl))) (ty := .long) (by decide)
  have F_version_b13 : Fld Z h13 b13 "com/example/bound_quorum/boundquorum/model/Stat" "version" "I" (.int (0 : Int32)) := D13 (Or.inr (hw _ (List.mem_of_getElem? (i := 19) rfl))) (ty := .int) (by decide)
  have F_cversion_b13 : Fld Z h13 b13 "com/example/bound_quorum/boundquorum/model/Stat" "cversion" "I" (.int (0 : Int32)) := D13 (Or.inr (hw _ (List.mem_of_getElem? (i := 21) rfl))) (ty := .int) (by decide)
  have F_aversion_b13 : Fld Z h13 b13 "com/example/bound_quorum/boundquorum/model/Stat" "aversion" "I" (.int (0 : Int32)) := D13 (Or.inr (hw _ (List.mem_of_getElem? (i := 23) rfl))) (ty := .int) (by decide)
  have F_ephemeralOwner_b13 : Fld Z h13 b13 "com/example/bound_quorum/boundquorum/model/Stat" "ephemeralOwner" "J" (.long (0 : Int64)) := D13 (Or.inr (hw _ (List.mem_of_getElem? (i := 25) rfl))) (ty := .long) (by decide)
  have F_dataLength_b13 : Fld Z h13 b13 "com/example/bound_quorum/boundquorum/model/Stat" "dataLength" "I" (.int (0 : Int32)) := D13 (Or.inr (hw _ (List.mem_of_getElem? (i := 27) rfl))) (ty := .int) (by decide)
  have F_numChildren_b13 : Fld Z h13 b13 "com/example/bound_quorum/boundquorum/model/Stat" "numChildren" "I" (.int (0 : Int32)) := D13 (Or.inr (hw _ (List.mem_of_getElem? (i := 29) rfl))) (ty := .int) (by decide)
  have F_pzxid_b13 : Fld Z h13 b13 "com/example/bound_quorum/boundquorum/model/Stat" "pzxid" "J" (.long (0 : Int64)) := D13 (Or.inr (hw _ (List.mem_of_getElem? (i := 31) rfl))) (ty := .long) (by decide)
  have E_b13 := A13
  refine go st13 ?_
  refine go (fun _ k => by refine XS.dup X13.here hx rfl (hb hby at_103) rfl rfl ?_; exact k) ?_
  refine go (fun _ k => by refine XS.iload X13.here hx rfl (hb hby at_104) rfl ?_; exact k) ?_
  show OwnEnd _ _ _ _ _ _ _ (T13.setTop (mkF m 106 (fL15 q0 q1 q2 p3 q4 x1 q0 q1 q2 x2 x3 x4 x5 x6 x7 x8 x9 x10 b11) [(.int x1), (.ref b13), (.ref b13)]))
  have J15 : ∀ (x15_s0 : Int64) (qx15_s0 : x15_s0 = (if x1 = (0 : Int32) then q4 else q0)), OwnEnd p e below s (Q_rm_law Z q0 q1 q2 p3 q4 caJ ccJ h0 n0) 16 128 (T13.setTop (mkF m 116 (fL15 q0 q1 q2 p3 q4 x1 q0 q1 q2 x2 x3 x4 x5 x6 x7 x8 x9 x10 b11) [(.long x15_s0), (.ref b13), (.ref b13)])) := by
    intro x15_s0 qx15_s0
    show OwnEnd _ _ _ _ _ _ _ (T13.setTop (mkF m 116 (fL15 q0 q1 q2 p3 q4 x1 q0 q1 q2 x2 x3 x4 x5 x6 x7 x8 x9 x10 b11) [(.long x15_s0), (.ref b13), (.ref b13)]))
    refine go (fun _ k => by refine XS.iload X13.here hx rfl (hb hby at_116) rfl ?_; exact k) ?_
    refine go (fun _ k => by refine XS.iconst X13.here hx rfl (hb hby at_118) ?_; exact k) ?_
    show OwnEnd _ _ _ _ _ _ _ (T13.setTop (mkF m 119 (fL15 q0 q1 q2 p3 q4 x1 q0 q1 q2 x2 x3 x4 x5 x6 x7 x8 x9 x10 b11) [(.int (1 : Int32)), (.int x1), (.long x15_s0), (.ref b13), (.ref b13)]))
    have J17 : ∀ (x17_s0 : Int64) (qx17_s0 : x17_s0 = (if x1 = (1 : Int32) then q4 else q1)), OwnEnd p e below s (Q_rm_law Z q0 q1 q2 p3 q4 caJ ccJ h0 n0) 16 128 (T13.setTop (mkF m 129 (fL15 q0 q1 q2 p3 q4 x1 q0 q1 q2 x2 x3 x4 x5 x6 x7 x8 x9 x10 b11) [(.long x17_s0), (.long x15_s0), (.ref b13), (.ref b13)])) := by
      intro x17_s0 qx17_s0
      show OwnEnd _ _ _ _ _ _ _ (T13.setTop (mkF m 129 (fL15 q0 q1 q2 p3 q4 x1 q0 q1 q2 x2 x3 x4 x5 x6 x7 x8 x9 x10 b11) [(.long x17_s0), (.long x15_s0), (.ref b13), (.ref b13)]))
      refine go (fun _ k => by refine XS.iload X13.here hx rfl (hb hby at_129) rfl ?_; exact k) ?_
      refine go (fun _ k => by refine XS.iconst X13.here hx rfl (hb hby at_131) ?_; exact k) ?_
      show OwnEnd _ _ _ _ _ _ _ (T13.setTop (mkF m 132 (fL15 q0 q1 q2 p3 q4 x1 q0 q1 q2 x2 x3 x4 x5 x6 x7 x8 x9 x10 b11) [(.int (2 : Int32)), (.int x1), (.long x17_s0), (.long x15_s0), (.ref b13), (.ref b13)]))
      have J19 : ∀ (x19_s0 : Int64) (qx19_s0 : x19_s0 = (if x1 = (2 : Int32) then q4 else q2)), OwnEnd p e below s (Q_rm_law Z q0 q1 q2 p3 q4 caJ ccJ h0 n0) 16 128 (T13.setTop (mkF m 142 (fL15 q0 q1 q2 p3 q4 x1 q0 q1 q2 x2 x3 x4 x5 x6 x7 x8 x9 x10 b11) [(.long x19_s0), (.long x17_s0), (.long x15_s0), (.ref b13), (.ref b13)])) := by
        intro x19_s0 qx19_s0
        show OwnEnd _ _ _ _ _ _ _ (T13.setTop (mkF m 142 (fL15 q0 q1 q2 p3 q4 x1 q0 q1 q2 x2 x3 x4 x5 x6 x7 x8 x9 x10 b11) [(.long x19_s0), (.long x17_s0), (.long x15_s0), (.ref b13), (.ref b13)]))
        refine go (fun _ k => by refine XS.iload X13.here hx rfl (hb hby at_142) rfl ?_; exact k) ?_
        refine go (fun _ k => by refine XS.iconst X13.here hx rfl (hb hby at_144) ?_; exact k) ?_
        show OwnEnd _ _ _ _ _ _ _ (T13.setTop (mkF m 145 (fL15 q0 q1 q2 p3 q4 x1 q0 q1 q2 x2 x3 x4 x5 x6 x7 x8 x9 x10 b11) [(.int (3 : Int32)), (.int x1), (.long x19_s0), (.long x17_s0), (.long x15_s0), (.ref b13), (.ref b13)]))
        have J21 : ∀ (x21_s0 : Int64) (qx21_s0 : x21_s0 = (if x1 = (3 : Int32) then q4 else x2)), OwnEnd p e below s (Q_rm_law Z q0 q1 q2 p3 q4 caJ ccJ h0 n0) 16 128 (T13.setTop (mkF m 155 (fL15 q0 q1 q2 p3 q4 x1 q0 q1 q2 x2 x3 x4 x5 x6 x7 x8 x9 x10 b11) [(.long x21_s0), (.long x19_s0), (.long x17_s0), (.long x15_s0), (.ref b13), (.ref b13)])) := by
          intro x21_s0 qx21_s0
          show OwnEnd _ _ _ _ _ _ _ (T13.setTop (mkF m 155 (fL15 q0 q1 q2 p3 q4 x1 q0 q1 q2 x2 x3 x4 x5 x6 x7 x8 x9 x10 b11) [(.long x21_s0), (.long x19_s0), (.long x17_s0), (.long x15_s0), (.ref b13), (.ref b13)]))
          refine go (fun _ k => by refine XS.iload X13.here hx rfl (hb hby at_155) rfl ?_; exact k) ?_
          refine go (fun _ k => by refine XS.iconst X13.here hx rfl (hb hby at_157) ?_; exact k) ?_
          show OwnEnd _ _ _ _ _ _ _ (T13.setTop (mkF m 158 (fL15 q0 q1 q2 p3 q4 x1 q0 q1 q2 x2 x3 x4 x5 x6 x7 x8 x9 x10 b11) [(.int (4 : Int32)), (.int x1), (.long x21_s0), (.long x19_s0), (.long x17_s0), (.long x15_s0), (.ref b13), (.ref b13)]))
          have J23 : ∀ (x23_s0 : Int32) (qx23_s0 : x23_s0 = (if x1 = (4 : Int32) then x10 else x3)), OwnEnd p e below s (Q_rm_law Z q0 q1 q2 p3 q4 caJ ccJ h0 n0) 16 128 (T13.setTop (mkF m 168 (fL15 q0 q1 q2 p3 q4 x1 q0 q1 q2 x2 x3 x4 x5 x6 x7 x8 x9 x10 b11) [(.int x23_s0), (.long x21_s0), (.long x19_s0), (.long x17_s0), (.long x15_s0), (.ref b13), (.ref b13)])) := by
            intro x23_s0 qx23_s0
            show OwnEnd _ _ _ _ _ _ _ (T13.setTop (mkF m 168 (fL15 q0 q1 q2 p3 q4 x1 q0 q1 q2 x2 x3 x4 x5 x6 x7 x8 x9 x10 b11) [(.int x23_s0), (.long x21_s0), (.long x19_s0), (.long x17_s0), (.long x15_s0), (.ref b13), (.ref b13)]))
            refine go (fun _ k => by refine XS.iload X13.here hx rfl (hb hby at_168) rfl ?_; exact k) ?_
            refine go (fun _ k => by refine XS.iconst X13.here hx rfl (hb hby at_170) ?_; exact k) ?_
            show OwnEnd _ _ _ _ _ _ _ (T13.setTop (mkF m 171 (fL15 q0 q1 q2 p3 q4 x1 q0 q1 q2 x2 x3 x4 x5 x6 x7 x8 x9 x10 b11) [(.int (5 : Int32)), (.int x1), (.int x23_s0), (.long x21_s0), (.long x19_s0), (.long x17_s0), (.long x15_s0), (.ref b13), (.ref b13)]))
            have J25 : ∀ (x25_s0 : Int32) (qx25_s0 : x25_s0 = (if x1 = (5 : Int32) then x10 else x4)), OwnEnd p e below s (Q_rm_law Z q0 q1 q2 p3 q4 caJ ccJ h0 n0) 16 128 (T13.setTop (mkF m 181 (fL15 q0 q1 q2 p3 q4 x1 q0 q1 q2 x2 x3 x4 x5 x6 x7 x8 x9 x10 b11) [(.int x25_s0), (.int x23_s0), (.long x21_s0), (.long x19_s0), (.long x17_s0), (.long x15_s0), (.ref b13), (.ref b13)])) := by
              intro x25_s0 qx25_s0
              show OwnEnd _ _ _ _ _ _ _ (T13.setTop (mkF m 181 (fL15 q0 q1 q2 p3 q4 x1 q0 q1 q2 x2 x3 x4 x5 x6 x7 x8 x9 x10 b11) [(.int x25_s0), (.int x23_s0), (.long x21_s0), (.long x19_s0), (.long x17_s0), (.long x15_s0), (.ref b13), (.ref b13)]))
              refine go (fun _ k => by refine XS.iload X13.here hx rfl (hb hby at_181) rfl ?_; exact k) ?_
              refine go (fun _ k => by refine XS.bipush X13.here hx rfl (hb hby at_183) ?_; exact k) ?_
              show OwnEnd _ _ _ _ _ _ _ (T13.setTop (mkF m 185 (fL15 q0 q1 q2 p3 q4 x1 q0 q1 q2 x2 x3 x4 x5 x6 x7 x8 x9 x10 b11) [(.int (6 : Int32)), (.int x1), (.int x25_s0), (.int x23_s0), (.long x21_s0), (.long x19_s0), (.long x17_s0), (.long x15_s0), (.ref b13), (.ref b13)]))
              have J27 : ∀ (x27_s0 : Int32) (qx27_s0 : x27_s0 = (if x1 = (6 : Int32) then x10 else x5)), OwnEnd p e below s (Q_rm_law Z q0 q1 q2 p3 q4 caJ ccJ h0 n0) 16 128 (T13.setTop (mkF m 195 (fL15 q0 q1 q2 p3 q4 x1 q0 q1 q2 x2 x3 x4 x5 x6 x7 x8 x9 x10 b11) [(.int x27_s0), (.int x25_s0), (.int x23_s0), (.long x21_s0), (.long x19_s0), (.long x17_s0), (.long x15_s0), (.ref b13), (.ref b13)])) := by
                intro x27_s0 qx27_s0
                show OwnEnd _ _ _ _ _ _ _ (T13.setTop (mkF m 195 (fL15 q0 q1 q2 p3 q4 x1 q0 q1 q2 x2 x3 x4 x5 x6 x7 x8 x9 x10 b11) [(.int x27_s0), (.int x25_s0), (.int x23_s0), (.long x21_s0), (.long x19_s0), (.long x17_s0), (.long x15_s0), (.ref b13), (.ref b13)]))
                refine go (fun _ k => by refine XS.iload X13.here hx rfl (hb hby at_195) rfl ?_; exact k) ?_
                refine go (fun _ k => by refine XS.bipush X13.here hx rfl (hb hby at_197) ?_; exact k) ?_
                show OwnEnd _ _ _ _ _ _ _ (T13.setTop (mkF m 199 (fL15 q0 q1 q2 p3 q4 x1 q0 q1 q2 x2 x3 x4 x5 x6 x7 x8 x9 x10 b11) [(.int (7 : Int32)), (.int x1), (.int x27_s0), (.int x25_s0), (.int x23_s0), (.long x21_s0), (.long x19_s0), (.long x17_s0), (.long x15_s0), (.ref b13), (.ref b13)]))
                have J29 : ∀ (x29_s0 : Int64) (qx29_s0 : x29_s0 = (if x1 = (7 : Int32) then q4 else x6)), OwnEnd p e below s (Q_rm_law Z q0 q1 q2 p3 q4 caJ ccJ h0 n0) 16 128 (T13.setTop (mkF m 209 (fL15 q0 q1 q2 p3 q4 x1 q0 q1 q2 x2 x3 x4 x5 x6 x7 x8 x9 x10 b11) [(.long x29_s0), (.int x27_s0), (.int x25_s0), (.int x23_s0), (.long x21_s0), (.long x19_s0), (.long x17_s0), (.long x15_s0), (.ref b13), (.ref b13)])) := by
                  intro x29_s0 qx29_s0
                  show OwnEnd _ _ _ _ _ _ _ (T13.setTop (mkF m 209 (fL15 q0 q1 q2 p3 q4 x1 q0 q1 q2 x2 x3 x4 x5 x6 x7 x8 x9 x10 b11) [(.long x29_s0), (.int x27_s0), (.int x25_s0), (.int x23_s0), (.long x21_s0), (.long x19_s0), (.long x17_s0), (.long x15_s0), (.ref b13), (.ref b13)]))
                  refine go (fun _ k => by refine XS.iload X13.here hx rfl (hb hby at_209) rfl ?_; exact k) ?_
                  refine go (fun _ k => by refine XS.bipush X13.here hx rfl (hb hby at_211) ?_; exact k) ?_
                  show OwnEnd _ _ _ _ _ _ _ (T13.setTop (mkF m 213 (fL15 q0 q1 q2 p3 q4 x1 q0 q1 q2 x2 x3 x4 x5 x6 x7 x8 x9 x10 b11) [(.int (8 : Int32)), (.int x1), (.long x29_s0), (.int x27_s0), (.int x25_s0), (.int x23_s0), (.long x21_s0), (.long x19_s0), (.long x17_s0), (.long x15_s0), (.ref b13), (.ref b13)]))
                  have J31 : ∀ (x31_s0 : Int32) (qx31_s0 : x31_s0 = (if x1 = (8 : Int32) then x10 else x7)), OwnEnd p e below s (Q_rm_law Z q0 q1 q2 p3 q4 caJ ccJ h0 n0) 16 128 (T13.setTop (mkF m 223 (fL15 q0 q1 q2 p3 q4 x1 q0 q1 q2 x2 x3 x4 x5 x6 x7 x8 x9 x10 b11) [(.int x31_s0), (.long x29_s0), (.int x27_s0), (.int x25_s0), (.int x23_s0), (.long x21_s0), (.long x19_s0), (.long x17_s0), (.long x15_s0), (.ref b13), (.ref b13)])) := by
                    intro x31_s0 qx31_s0
                    show OwnEnd _ _ _ _ _ _ _ (T13.setTop (mkF m 223 (fL15 q0 q1 q2 p3 q4 x1 q0 q1 q2 x2 x3 x4 x5 x6 x7 x8 x9 x10 b11) [(.int x31_s0), (.long x29_s0), (.int x27_s0), (.int x25_s0), (.int x23_s0), (.long x21_s0), (.long x19_s0), (.long x17_s0), (.long x15_s0), (.ref b13), (.ref b13)]))
                    refine go (fun _ k => by refine XS.iload X13.here hx rfl (hb hby at_223) rfl ?_; exact k) ?_
                    refine go (fun _ k => by refine XS.bipush X13.here hx rfl (hb hby at_225) ?_; exact k) ?_
                    show OwnEnd _ _ _ _ _ _ _ (T13.setTop (mkF m 227 (fL15 q0 q1 q2 p3 q4 x1 q0 q1 q2 x2 x3 x4 x5 x6 x7 x8 x9 x10 b11) [(.int (9 : Int32)), (.int x1), (.int x31_s0), (.long x29_s0), (.int x27_s0), (.int x25_s0), (.int x23_s0), (.long x21_s0), (.long x19_s0), (.long x17_s0), (.long x15_s0), (.ref b13), (.ref b13)]))
                    have J33 : ∀ (x33_s0 : Int32) (qx33_s0 : x33_s0 = (if x1 = (9 : Int32) then x10 else x8)), OwnEnd p e below s (Q_rm_law Z q0 q1 q2 p3 q4 caJ ccJ h0 n0) 16 128 (T13.setTop (mkF m 237 (fL15 q0 q1 q2 p3 q4 x1 q0 q1 q2 x2 x3 x4 x5 x6 x7 x8 x9 x10 b11) [(.int x33_s0), (.int x31_s0), (.long x29_s0), (.int x27_s0), (.int x25_s0), (.int x23_s0), (.long x21_s0), (.long x19_s0), (.long x17_s0), (.long x15_s0), (.ref b13), (.ref b13)])) := by
                      intro x33_s0 qx33_s0
                      show OwnEnd _ _ _ _ _ _ _ (T13.setTop (mkF m 237 (fL15 q0 q1 q2 p3 q4 x1 q0 q1 q2 x2 x3 x4 x5 x6 x7 x8 x9 x10 b11) [(.int x33_s0), (.int x31_s0), (.long x29_s0), (.int x27_s0), (.int x25_s0), (.int x23_s0), (.long x21_s0), (.long x19_s0), (.long x17_s0), (.long x15_s0), (.ref b13), (.ref b13)]))
                      refine go (fun _ k => by refine XS.iload X13.here hx rfl (hb hby at_237) rfl ?_; exact k) ?_
                      refine go (fun _ k => by refine XS.bipush X13.here hx rfl (hb hby at_239) ?_; exact k) ?_
                      show OwnEnd _ _ _ _ _ _ _ (T13.setTop (mkF m 241 (fL15 q0 q1 q2 p3 q4 x1 q0 q1 q2 x2 x3 x4 x5 x6 x7 x8 x9 x10 b11) [(.int (10 : Int32)), (.int x1), (.int x33_s0), (.int x31_s0), (.long x29_s0), (.int x27_s0), (.int x25_s0), (.int x23_s0), (.long x21_s0), (.long x19_s0), (.long x17_s0), (.long x15_s0), (.ref b13), (.ref b13)]))
                      have J35 : ∀ (x35_s0 : Int64) (qx35_s0 : x35_s0 = (if x1 = (10 : Int32) then q4 else x9)), OwnEnd p e below s (Q_rm_law Z q0 q1 q2 p3 q4 caJ ccJ h0 n0) 16 128 (T13.setTop (mkF m 251 (fL15 q0 q1 q2 p3 q4 x1 q0 q1 q2 x2 x3 x4 x5 x6 x7 x8 x9 x10 b11) [(.long x35_s0), (.int x33_s0), (.int x31_s0), (.long x29_s0), (.int x27_s0), (.int x25_s0), (.int x23_s0), (.long x21_s0), (.long x19_s0), (.long x17_s0), (.long x15_s0), (.ref b13), (.ref b13)])) := by
                        intro x35_s0 qx35_s0
                        show OwnEnd _ _ _ _ _ _ _ (T13.setTop (mkF m 251 (fL15 q0 q1 q2 p3 q4 x1 q0 q1 q2 x2 x3 x4 x5 x6 x7 x8 x9 x10 b11) [(.long x35_s0), (.int x33_s0), (.int x31_s0), (.long x29_s0), (.int x27_s0), (.int x25_s0), (.int x23_s0), (.long x21_s0), (.long x19_s0), (.long x17_s0), (.long x15_s0), (.ref b13), (.ref b13)]))
                        obtain ⟨_, T36, L36, X36, hQ36, st36⟩ := callInit X13 hx hZ hown rfl (hw _ (List.mem_of_getElem? (i := 4) rfl)) (hw _ (List.mem_of_getElem? (i := 5) rfl)) (hw _ (List.mem_of_getElem? (i := 3) rfl)) (hw _ (List.mem_of_getElem? (i := 6) rfl)) (by decide) (rm_ini l Z a0 hw [] b13 x15_s0 x17_s0 x19_s0 x21_s0 x23_s0 x25_s0 x27_s0 x29_s0 x31_s0 x33_s0 x35_s0 h13 n0 g_b13 E_b13 F_czxid_b13 F_mzxid_b13 F_ctime_b13 F_mtime_b13 F_version_b13 F_cversion_b13 F_aversion_b13 F_ephemeralOwner_b13 F_dataLength_b13 F_numChildren_b13 F_pzxid_b13) (W := 1) (by decide) (by decide) e13 (g := (mkF m 251 (fL15 q0 q1 q2 p3 q4 x1 q0 q1 q2 x2 x3 x4 x5 x6 x7 x8 x9 x10 b11) [(.long x35_s0), (.int x33_s0), (.int x31_s0), (.long x29_s0), (.int x27_s0), (.int x25_s0), (.int x23_s0), (.long x21_s0), (.long x19_s0), (.long x17_s0), (.long x15_s0), (.ref b13), (.ref b13)])) rfl (by rw [hml]; rfl) (argsL := [(.long x15_s0), (.long x17_s0), (.long x19_s0), (.long x21_s0), (.int x23_s0), (.int x25_s0), (.int x27_s0), (.long x29_s0), (.int x31_s0), (.int x33_s0), (.long x35_s0)]) (rest := [(.ref b13)]) rfl (lenOf pd__JJJJIIIJIIJ_V rfl) rfl (by show 2 * 0 + _ ≤ _; exact Nat.le_of_eq rfl) (hb hby at_251) (by decide) (by decide)
                        obtain ⟨rfl, Nq36, K36, E_b13, F_czxid_b13, F_mzxid_b13, F_ctime_b13, F_mtime_b13, F_version_b13, F_cversion_b13, F_aversion_b13, F_ephemeralOwner_b13, F_dataLength_b13, F_numChildren_b13, F_pzxid_b13⟩ := hQ36
                        have N36 := Fr.app N12 Nq36
                        have Z0 := Nat.le_trans Z0 K36.1
                        have O := O.keep K36 (allS g_b13 all0)
                        have E_b11 := E_b11.keep K36
                        have F_czxid_b11 := F_czxid_b11.keep K36 (ninS ne_b11_b13 nin0)
                        have F_mzxid_b11 := F_mzxid_b11.keep K36 (ninS ne_b11_b13 nin0)
                        have F_ctime_b11 := F_ctime_b11.keep K36 (ninS ne_b11_b13 nin0)
                        have F_mtime_b11 := F_mtime_b11.keep K36 (ninS ne_b11_b13 nin0)
                        have F_version_b11 := F_version_b11.keep K36 (ninS ne_b11_b13 nin0)
                        have F_cversion_b11 := F_cversion_b11.keep K36 (ninS ne_b11_b13 nin0)
                        have F_aversion_b11 := F_aversion_b11.keep K36 (ninS ne_b11_b13 nin0)
                        have F_ephemeralOwner_b11 := F_ephemeralOwner_b11.keep K36 (ninS ne_b11_b13 nin0)
                        have F_dataLength_b11 := F_dataLength_b11.keep K36 (ninS ne_b11_b13 nin0)
                        have F_numChildren_b11 := F_numChildren_b11.keep K36 (ninS ne_b11_b13 nin0)
                        have F_pzxid_b11 := F_pzxid_b11.keep K36 (ninS ne_b11_b13 nin0)
                        refine go st36 ?_
                        refine go (fun _ k => by refine XS.astore X36.here hx rfl (hb hby at_254) rfl rfl (l' := (fL16 q0 q1 q2 p3 q4 x1 q0 q1 q2 x2 x3 x4 x5 x6 x7 x8 x9 x10 b11 b13)) rfl ?_; exact k) ?_
                        refine go (fun _ k => by refine XS.iload X36.here hx rfl (hb hby at_256) rfl ?_; exact k) ?_
                        show OwnEnd _ _ _ _ _ _ _ (T36.setTop (mkF m 258 (fL16 q0 q1 q2 p3 q4 x1 q0 q1 q2 x2 x3 x4 x5 x6 x7 x8 x9 x10 b11 b13) [(.int x1)]))
                        have J71 : ∀ (x71_30 : Int32) (qx71_30 : x71_30 = (if x1 = (0 : Int32) then (if q0 = q4 then (1 : Int32) else (0 : Int32)) else (if x1 = (1 : Int32) then (if q1 = q4 then (1 : Int32) else (0 : Int32)) else (if x1 = (2 : Int32) then (if q2 = q4 then (1 : Int32) else (0 : Int32)) else (if x1 = (3 : Int32) then (if x2 = q4 then (1 : Int32) else (0 : Int32)) else (if x1 = (4 : Int32) then (if x3 = x10 then (1 : Int32) else (0 : Int32)) else (if x1 = (5 : Int32) then (if x4 = x10 then (1 : Int32) else (0 : Int32)) else (if x1 = (6 : Int32) then (if x5 = x10 then (1 : Int32) else (0 : Int32)) else (if x1 = (7 : Int32) then (if x6 = q4 then (1 : Int32) else (0 : Int32)) else (if x1 = (8 : Int32) then (if x7 = x10 then (1 : Int32) else (0 : Int32)) else (if x1 = (9 : Int32) then (if x8 = x10 then (1 : Int32) else (0 : Int32)) else (if x1 = (10 : Int32) then (if x9 = q4 then (1 : Int32) else (0 : Int32)) else (if x1 = (11 : Int32) then (1 : Int32) else (0 : Int32)))))))))))))), OwnEnd p e below s (Q_rm_law Z q0 q1 q2 p3 q4 caJ ccJ h0 n0) 16 128 (T36.setTop (mkF m 535 (fL17 q0 q1 q2 p3 q4 x1 q0 q1 q2 x2 x3 x4 x5 x6 x7 x8 x9 x10 b11 b13 x71_30) [])) := by
                          intro x71_30 qx71_30
                          show OwnEnd _ _ _ _ _ _ _ (T36.setTop (mkF m 535 (fL17 q0 q1 q2 p3 q4 x1 q0 q1 q2 x2 x3 x4 x5 x6 x7 x8 x9 x10 b11 b13 x71_30) []))
                          refine go (fun _ k => by refine XS.iload X36.here hx rfl (hb hby at_535) rfl ?_; exact k) ?_
                          refine go (fun _ k => by refine XS.bipush X36.here hx rfl (hb hby at_537) ?_; exact k) ?_
                          show OwnEnd _ _ _ _ _ _ _ (T36.setTop (mkF m 539 (fL17 q0 q1 q2 p3 q4 x1 q0 q1 q2 x2 x3 x4 x5 x6 x7 x8 x9 x10 b11 b13 x71_30) [(.int (12 : Int32)), (.int x1)]))
                          by_cases hc539_72 : x1 = (12 : Int32)
                          · refine go (fun _ k => by refine XS.icmpNo X36.here hx rfl (hb hby at_539) rfl (teq hc539_72).2 ?_; exact k) ?_
                            show OwnEnd _ _ _ _ _ _ _ (T36.setTop (mkF m 542 (fL17 q0 q1 q2 p3 q4 x1 q0 q1 q2 x2 x3 x4 x5 x6 x7 x8 x9 x10 b11 b13 x71_30) []))
                            refine go (fun _ k => by refine XS.aconstNull X36.here hx rfl (hb hby at_542) ?_; exact k) ?_
                            refine go (fun _ k => by refine XS.astore X36.here hx rfl (hb hby at_543) rfl rfl (l' := (fL18 q0 q1 q2 p3 q4 x1 q0 q1 q2 x2 x3 x4 x5 x6 x7 x8 x9 x10 b11 b13 x71_30)) rfl ?_; exact k) ?_
                            refine go (fun _ k => by refine XS.goto X36.here hx rfl (pc0 := 545) (pc' := 568) rfl (hb hby at_545) (by decide) (by decide) ?_; exact k) ?_
                            refine go (fun _ k => by refine XS.aload X36.here hx rfl (hb hby at_568) rfl rfl ?_; exact k) ?_
                            show OwnEnd _ _ _ _ _ _ _ (T36.setTop (mkF m 570 (fL18 q0 q1 q2 p3 q4 x1 q0 q1 q2 x2 x3 x4 x5 x6 x7 x8 x9 x10 b11 b13 x71_30) [(.ref b11)]))
                            refine go (fun _ k => by refine XS.aload X36.here hx rfl (hb hby at_570) rfl rfl ?_; exact k) ?_
                            show OwnEnd _ _ _ _ _ _ _ (T36.setTop (mkF m 572 (fL18 q0 q1 q2 p3 q4 x1 q0 q1 q2 x2 x3 x4 x5 x6 x7 x8 x9 x10 b11 b13 x71_30) [.null, (.ref b11)]))
                            obtain ⟨_, T73, L73, X73, hQ73, st73⟩ := callVirt X36 hx hZ hown (hw _ (List.mem_of_getElem? (i := 32) rfl)) (hw _ (List.mem_of_getElem? (i := 33) rfl)) (notFace_of_selects (args := #[]) (mvT hZ (hw _ (List.mem_of_getElem? (i := 35) rfl)))) (hw _ (List.mem_of_getElem? (i := 35) rfl)) (hw _ (List.mem_of_getElem? (i := 34) rfl)) (hw _ (List.mem_of_getElem? (i := 3) rfl)) (hw _ (List.mem_of_getElem? (i := 36) rfl)) (by decide) (rm_eqn l Z a0 hw [] b11 T36.heap n0) (W := 0) (by decide) (by decide) rfl E_b11 (g := (mkF m 572 (fL18 q0 q1 q2 p3 q4 x1 q0 q1 q2 x2 x3 x4 x5 x6 x7 x8 x9 x10 b11 b13 x71_30) [.null, (.ref b11)])) rfl (by rw [hml]; rfl) (argsL := [.null]) (rest := []) rfl (lenOf pd__Ljava_lang_Object__Z rfl) rfl (by show 2 * 0 + _ ≤ _; exact Nat.le_of_eq rfl) (hb hby at_572) (by decide) (by decide)
                            obtain ⟨rfl, Nq73, eq73⟩ := hQ73
                            have N73 := Fr.app N36 Nq73
                            refine go st73 ?_
                            refine go (fun _ k => by refine XS.istore X73.here hx rfl (hb hby at_575) rfl (l' := (fL19 q0 q1 q2 p3 q4 x1 q0 q1 q2 x2 x3 x4 x5 x6 x7 x8 x9 x10 b11 b13 x71_30 (0 : Int32))) rfl ?_; exact k) ?_
                            refine go (fun _ k => by refine XS.aload X73.here hx rfl (hb hby at_577) rfl rfl ?_; exact k) ?_
                            refine go (fun _ k => by refine XS.aload X73.here hx rfl (hb hby at_579) rfl rfl ?_; exact k) ?_
                            show OwnEnd _ _ _ _ _ _ _ (T73.setTop (mkF m 581 (fL19 q0 q1 q2 p3 q4 x1 q0 q1 q2 x2 x3 x4 x5 x6 x7 x8 x9 x10 b11 b13 x71_30 (0 : Int32)) [(.ref b11), (.ref b13)]))
                            obtain ⟨_, T74, L74, X74, hQ74, st74⟩ := callVirt X73 hx hZ hown (hw _ (List.mem_of_getElem? (i := 32) rfl)) (hw _ (List.mem_of_getElem? (i := 33) rfl)) (notFace_of_selects (args := #[]) (mvT hZ (hw _ (List.mem_of_getElem? (i := 35) rfl)))) (hw _ (List.mem_of_getElem? (i := 35) rfl)) (hw _ (List.mem_of_getElem? (i := 34) rfl)) (hw _ (List.mem_of_getElem? (i := 3) rfl)) (hw _ (List.mem_of_getElem? (i := 36) rfl)) (by decide) (rm_eqv l Z a0 hw [] b13 b11 x15_s0 x17_s0 x19_s0 x21_s0 x23_s0 x25_s0 x27_s0 x29_s0 x31_s0 x33_s0 x35_s0 q0 q1 q2 x2 x3 x4 x5 x6 x7 x8 x9 T36.heap n0 F_czxid_b13 F_mzxid_b13 F_ctime_b13 F_mtime_b13 F_version_b13 F_cversion_b13 F_aversion_b13 F_ephemeralOwner_b13 F_dataLength_b13 F_numChildren_b13 F_pzxid_b13 F_czxid_b11 F_mzxid_b11 F_ctime_b11 F_mtime_b11 F_version_b11 F_cversion_b11 F_aversion_b11 F_ephemeralOwner_b11 F_dataLength_b11 F_numChildren_b11 F_pzxid_b11 E_b11) (W := 0) (by decide) (by decide) eq73 E_b13 (g := (mkF m 581 (fL19 q0 q1 q2 p3 q4 x1 q0 q1 q2 x2 x3 x4 x5 x6 x7 x8 x9 x10 b11 b13 x71_30 (0 : Int32)) [(.ref b11), (.ref b13)])) rfl (by rw [hml]; rfl) (argsL := [(.ref b11)]) (rest := []) rfl (lenOf pd__Ljava_lang_Object__Z rfl) rfl (by show 2 * 0 + _ ≤ _; exact Nat.le_of_eq rfl) (hb hby at_581) (by decide) (by decide)
                            obtain ⟨rfl, Nq74, eq74⟩ := hQ74
                            have N74 := Fr.app N73 Nq74
                            refine go st74 ?_
                            refine go (fun _ k => by refine XS.istore X74.here hx rfl (hb hby at_584) rfl (l' := (fL20 q0 q1 q2 p3 q4 x1 q0 q1 q2 x2 x3 x4 x5 x6 x7 x8 x9 x10 b11 b13 x71_30 (0 : Int32) (if own_eq x15_s0 x17_s0 x19_s0 x21_s0 x23_s0 x25_s0 x27_s0 x29_s0 x31_s0 x33_s0 x35_s0 q0 q1 q2 x2 x3 x4 x5 x6 x7 x8 x9 then (1 : Int32) else 0))) rfl ?_; exact k) ?_
                            show OwnEnd _ _ _ _ _ _ _ (T74.setTop (mkF m 586 (fL20 q0 q1 q2 p3 q4 x1 q0 q1 q2 x2 x3 x4 x5 x6 x7 x8 x9 x10 b11 b13 x71_30 (0 : Int32) (if own_eq x15_s0 x17_s0 x19_s0 x21_s0 x23_s0 x25_s0 x27_s0 x29_s0 x31_s0 x33_s0 x35_s0 q0 q1 q2 x2 x3 x4 x5 x6 x7 x8 x9 then (1 : Int32) else 0)) []))
                            generalize qx75 : (if own_eq x15_s0 x17_s0 x19_s0 x21_s0 x23_s0 x25_s0 x27_s0 x29_s0 x31_s0 x33_s0 x35_s0 q0 q1 q2 x2 x3 x4 x5 x6 x7 x8 x9 then (1 : Int32) else 0) = x75
                            refine go (fun _ k => by refine XS.iload X74.here hx rfl (hb hby at_586) rfl ?_; exact k) ?_
                            refine go (fun _ k => by refine XS.bipush X74.here hx rfl (hb hby at_588) ?_; exact k) ?_
                            show OwnEnd _ _ _ _ _ _ _ (T74.setTop (mkF m 590 (fL20 q0 q1 q2 p3 q4 x1 q0 q1 q2 x2 x3 x4 x5 x6 x7 x8 x9 x10 b11 b13 x71_30 (0 : Int32) x75) [(.int (11 : Int32)), (.int x1)]))
                            have J78 : ∀ (x78_s0 : Int32) (qx78_s0 : x78_s0 = (if x1 < (11 : Int32) then (if x71_30 = (0 : Int32) then (0 : Int32) else (1 : Int32)) else (1 : Int32))), OwnEnd p e below s (Q_rm_law Z q0 q1 q2 p3 q4 caJ ccJ h0 n0) 16 128 (T74.setTop (mkF m 603 (fL20 q0 q1 q2 p3 q4 x1 q0 q1 q2 x2 x3 x4 x5 x6 x7 x8 x9 x10 b11 b13 x71_30 (0 : Int32) x75) [(.int x78_s0)])) := by
                              intro x78_s0 qx78_s0
                              show OwnEnd _ _ _ _ _ _ _ (T74.setTop (mkF m 603 (fL20 q0 q1 q2 p3 q4 x1 q0 q1 q2 x2 x3 x4 x5 x6 x7 x8 x9 x10 b11 b13 x71_30 (0 : Int32) x75) [(.int x78_s0)]))
                              refine go (fun _ k => by refine XS.istore X74.here hx rfl (hb hby at_603) rfl (l' := (fL21 q0 q1 q2 p3 q4 x1 q0 q1 q2 x2 x3 x4 x5 x6 x7 x8 x9 x10 b11 b13 x71_30 (0 : Int32) x75 x78_s0)) rfl ?_; exact k) ?_
                              refine go (fun _ k => by refine XS.iload X74.here hx rfl (hb hby at_605) rfl ?_; exact k) ?_
                              refine go (fun _ k => by refine XS.iload X74.here hx rfl (hb hby at_607) rfl ?_; exact k) ?_
                              show OwnEnd _ _ _ _ _ _ _ (T74.setTop (mkF m 609 (fL21 q0 q1 q2 p3 q4 x1 q0 q1 q2 x2 x3 x4 x5 x6 x7 x8 x9 x10 b11 b13 x71_30 (0 : Int32) x75 x78_s0) [(.int x71_30), (.int (0 : Int32))]))
                              by_cases hc609_79 : (0 : Int32) = x71_30
                              · refine go (fun _ k => by refine XS.icmpNo X74.here hx rfl (hb hby at_609) rfl (teq hc609_79).2 ?_; exact k) ?_
                                show OwnEnd _ _ _ _ _ _ _ (T74.setTop (mkF m 612 (fL21 q0 q1 q2 p3 q4 x1 q0 q1 q2 x2 x3 x4 x5 x6 x7 x8 x9 x10 b11 b13 x71_30 (0 : Int32) x75 x78_s0) []))
                                refine go (fun _ k => by refine XS.iload X74.here hx rfl (hb hby at_612) rfl ?_; exact k) ?_
                                refine go (fun _ k => by refine XS.iload X74.here hx rfl (hb hby at_614) rfl ?_; exact k) ?_
                                show OwnEnd _ _ _ _ _ _ _ (T74.setTop (mkF m 616 (fL21 q0 q1 q2 p3 q4 x1 q0 q1 q2 x2 x3 x4 x5 x6 x7 x8 x9 x10 b11 b13 x71_30 (0 : Int32) x75 x78_s0) [(.int x78_s0), (.int x75)]))
                                by_cases hc616_80 : x75 = x78_s0
                                · refine go (fun _ k => by refine XS.icmpNo X74.here hx rfl (hb hby at_616) rfl (teq hc616_80).2 ?_; exact k) ?_
                                  show OwnEnd _ _ _ _ _ _ _ (T74.setTop (mkF m 619 (fL21 q0 q1 q2 p3 q4 x1 q0 q1 q2 x2 x3 x4 x5 x6 x7 x8 x9 x10 b11 b13 x71_30 (0 : Int32) x75 x78_s0) []))
                                  refine go (fun _ k => by refine XS.aload X74.here hx rfl (hb hby at_619) rfl rfl ?_; exact k) ?_
                                  refine go (fun _ k => by refine XS.aload X74.here hx rfl (hb hby at_621) rfl rfl ?_; exact k) ?_
                                  show OwnEnd _ _ _ _ _ _ _ (T74.setTop (mkF m 623 (fL21 q0 q1 q2 p3 q4 x1 q0 q1 q2 x2 x3 x4 x5 x6 x7 x8 x9 x10 b11 b13 x71_30 (0 : Int32) x75 x78_s0) [(.ref b11), (.ref b11)]))
                                  obtain ⟨_, T81, L81, X81, hQ81, st81⟩ := callVirt X74 hx hZ hown (hw _ (List.mem_of_getElem? (i := 32) rfl)) (hw _ (List.mem_of_getElem? (i := 33) rfl)) (notFace_of_selects (args := #[]) (mvT hZ (hw _ (List.mem_of_getElem? (i := 35) rfl)))) (hw _ (List.mem_of_getElem? (i := 35) rfl)) (hw _ (List.mem_of_getElem? (i := 34) rfl)) (hw _ (List.mem_of_getElem? (i := 3) rfl)) (hw _ (List.mem_of_getElem? (i := 36) rfl)) (by decide) (rm_eqv l Z a0 hw [] b11 b11 q0 q1 q2 x2 x3 x4 x5 x6 x7 x8 x9 q0 q1 q2 x2 x3 x4 x5 x6 x7 x8 x9 T36.heap n0 F_czxid_b11 F_mzxid_b11 F_ctime_b11 F_mtime_b11 F_version_b11 F_cversion_b11 F_aversion_b11 F_ephemeralOwner_b11 F_dataLength_b11 F_numChildren_b11 F_pzxid_b11 F_czxid_b11 F_mzxid_b11 F_ctime_b11 F_mtime_b11 F_version_b11 F_cversion_b11 F_aversion_b11 F_ephemeralOwner_b11 F_dataLength_b11 F_numChildren_b11 F_pzxid_b11 E_b11) (W := 0) (by decide) (by decide) eq74 E_b11 (g := (mkF m 623 (fL21 q0 q1 q2 p3 q4 x1 q0 q1 q2 x2 x3 x4 x5 x6 x7 x8 x9 x10 b11 b13 x71_30 (0 : Int32) x75 x78_s0) [(.ref b11), (.ref b11)])) rfl (by rw [hml]; rfl) (argsL := [(.ref b11)]) (rest := []) rfl (lenOf pd__Ljava_lang_Object__Z rfl) rfl (by show 2 * 0 + _ ≤ _; exact Nat.le_of_eq rfl) (hb hby at_623) (by decide) (by decide)
                                  obtain ⟨rfl, Nq81, eq81⟩ := hQ81
                                  have N81 := Fr.app N74 Nq81
                                  refine go st81 ?_
                                  show OwnEnd _ _ _ _ _ _ _ (T81.setTop (mkF m 626 (fL21 q0 q1 q2 p3 q4 x1 q0 q1 q2 x2 x3 x4 x5 x6 x7 x8 x9 x10 b11 b13 x71_30 (0 : Int32) x75 x78_s0) [(.int (if own_eq q0 q1 q2 x2 x3 x4 x5 x6 x7 x8 x9 q0 q1 q2 x2 x3 x4 x5 x6 x7 x8 x9 then (1 : Int32) else 0))]))
                                  by_cases hc626_82 : (if own_eq q0 q1 q2 x2 x3 x4 x5 x6 x7 x8 x9 q0 q1 q2 x2 x3 x4 x5 x6 x7 x8 x9 then (1 : Int32) else 0) = (0 : Int32)
                                  · refine go (fun _ k => by refine XS.ifYes X81.here hx rfl (pc0 := 626) (pc' := 633) rfl (hb hby at_626) rfl ((if0 _ _).trans (teq hc626_82).1) (by decide) (by decide) ?_; exact k) ?_
                                    show OwnEnd _ _ _ _ _ _ _ (T81.setTop (mkF m 633 (fL21 q0 q1 q2 p3 q4 x1 q0 q1 q2 x2 x3 x4 x5 x6 x7 x8 x9 x10 b11 b13 x71_30 (0 : Int32) x75 x78_s0) []))
                                    refine go (fun _ k => by refine XS.iconst X81.here hx rfl (hb hby at_633) ?_; exact k) ?_
                                    show OwnEnd _ _ _ _ _ _ _ (T81.setTop (mkF m 634 (fL21 q0 q1 q2 p3 q4 x1 q0 q1 q2 x2 x3 x4 x5 x6 x7 x8 x9 x10 b11 b13 x71_30 (0 : Int32) x75 x78_s0) [(.int (0 : Int32))]))
                                    refine endN X81 hx hlk (t := .boolean) (by simp) Bd.returns (hb hby at_634) eq81 (by decide) (by decide) ?_
                                    exact absurd (hc626_82.symm.trans (if_pos ⟨rfl, rfl, rfl, rfl, rfl, rfl, rfl, rfl, rfl, rfl, rfl⟩)) (by decide)
                                  · refine go (fun _ k => by refine XS.ifNo X81.here hx rfl (hb hby at_626) rfl ((if0 _ _).trans (feq hc626_82).1) ?_; exact k) ?_
                                    show OwnEnd _ _ _ _ _ _ _ (T81.setTop (mkF m 629 (fL21 q0 q1 q2 p3 q4 x1 q0 q1 q2 x2 x3 x4 x5 x6 x7 x8 x9 x10 b11 b13 x71_30 (0 : Int32) x75 x78_s0) []))
                                    refine go (fun _ k => by refine XS.iconst X81.here hx rfl (hb hby at_629) ?_; exact k) ?_
                                    refine go (fun _ k => by refine XS.goto X81.here hx rfl (pc0 := 630) (pc' := 634) rfl (hb hby at_630) (by decide) (by decide) ?_; exact k) ?_
                                    show OwnEnd _ _ _ _ _ _ _ (T81.setTop (mkF m 634 (fL21 q0 q1 q2 p3 q4 x1 q0 q1 q2 x2 x3 x4 x5 x6 x7 x8 x9 x10 b11 b13 x71_30 (0 : Int32) x75 x78_s0) [(.int (1 : Int32))]))
                                    refine endN X81 hx hlk (t := .boolean) (by simp) Bd.returns (hb hby at_634) eq81 (by decide) (by decide) ?_
                                    exact ⟨rfl, N81⟩
                                · refine go (fun _ k => by refine XS.icmpYes X74.here hx rfl (pc0 := 616) (pc' := 633) rfl (hb hby at_616) rfl (feq hc616_80).2 (by decide) (by decide) ?_; exact k) ?_
                                  show OwnEnd _ _ _ _ _ _ _ (T74.setTop (mkF m 633 (fL21 q0 q1 q2 p3 q4 x1 q0 q1 q2 x2 x3 x4 x5 x6 x7 x8 x9 x10 b11 b13 x71_30 (0 : Int32) x75 x78_s0) []))
                                  refine go (fun _ k => by refine XS.iconst X74.here hx rfl (hb hby at_633) ?_; exact k) ?_
                                  show OwnEnd _ _ _ _ _ _ _ (T74.setTop (mkF m 634 (fL21 q0 q1 q2 p3 q4 x1 q0 q1 q2 x2 x3 x4 x5 x6 x7 x8 x9 x10 b11 b13 x71_30 (0 : Int32) x75 x78_s0) [(.int (0 : Int32))]))
                                  refine endN X74 hx hlk (t := .boolean) (by simp) Bd.returns (hb hby at_634) eq74 (by decide) (by decide) ?_
                                  exact absurd (qx75.symm.trans (own_fin _ (own_k14 _ _ qx1) _ _ _ _ _ _ _ _ _ _ _ _ _ _ _ _ _ _ _ _ _ _ _ _ _ _ qx15_s0 qx17_s0 qx19_s0 qx21_s0 qx23_s0 qx25_s0 qx27_s0 qx29_s0 qx31_s0 qx33_s0 qx35_s0 qx71_30 qx78_s0).2.2) hc616_80
                              · refine go (fun _ k => by refine XS.icmpYes X74.here hx rfl (pc0 := 609) (pc' := 633) rfl (hb hby at_609) rfl (feq hc609_79).2 (by decide) (by decide) ?_; exact k) ?_
                                show OwnEnd _ _ _ _ _ _ _ (T74.setTop (mkF m 633 (fL21 q0 q1 q2 p3 q4 x1 q0 q1 q2 x2 x3 x4 x5 x6 x7 x8 x9 x10 b11 b13 x71_30 (0 : Int32) x75 x78_s0) []))
                                refine go (fun _ k => by refine XS.iconst X74.here hx rfl (hb hby at_633) ?_; exact k) ?_
                                show OwnEnd _ _ _ _ _ _ _ (T74.setTop (mkF m 634 (fL21 q0 q1 q2 p3 q4 x1 q0 q1 q2 x2 x3 x4 x5 x6 x7 x8 x9 x10 b11 b13 x71_30 (0 : Int32) x75 x78_s0) [(.int (0 : Int32))]))
                                refine endN X74 hx hlk (t := .boolean) (by simp) Bd.returns (hb hby at_634) eq74 (by decide) (by decide) ?_
                                exact absurd ((own_fin _ (own_k14 _ _ qx1) _ _ _ _ _ _ _ _ _ _ _ _ _ _ _ _ _ _ _ _ _ _ _ _ _ _ qx15_s0 qx17_s0 qx19_s0 qx21_s0 qx23_s0 qx25_s0 qx27_s0 qx29_s0 qx31_s0 qx33_s0 qx35_s0 qx71_30 qx78_s0).2.1 (Or.inl hc539_72)) hc609_79
                            by_cases hc590_76 : x1 < (11 : Int32)
                            · refine go (fun _ k => by refine XS.icmpNo X74.here hx rfl (hb hby at_590) rfl (tlt hc590_76).2.1 ?_; exact k) ?_
                              show OwnEnd _ _ _ _ _ _ _ (T74.setTop (mkF m 593 (fL20 q0 q1 q2 p3 q4 x1 q0 q1 q2 x2 x3 x4 x5 x6 x7 x8 x9 x10 b11 b13 x71_30 (0 : Int32) x75) []))
                              refine go (fun _ k => by refine XS.iload X74.here hx rfl (hb hby at_593) rfl ?_; exact k) ?_
                              show OwnEnd _ _ _ _ _ _ _ (T74.setTop (mkF m 595 (fL20 q0 q1 q2 p3 q4 x1 q0 q1 q2 x2 x3 x4 x5 x6 x7 x8 x9 x10 b11 b13 x71_30 (0 : Int32) x75) [(.int x71_30)]))
                              by_cases hc595_77 : x71_30 = (0 : Int32)
                              · refine go (fun _ k => by refine XS.ifYes X74.here hx rfl (pc0 := 595) (pc' := 602) rfl (hb hby at_595) rfl ((if0 _ _).trans (teq hc595_77).1) (by decide) (by decide) ?_; exact k) ?_
                                show OwnEnd _ _ _ _ _ _ _ (T74.setTop (mkF m 602 (fL20 q0 q1 q2 p3 q4 x1 q0 q1 q2 x2 x3 x4 x5 x6 x7 x8 x9 x10 b11 b13 x71_30 (0 : Int32) x75) []))
                                refine go (fun _ k => by refine XS.iconst X74.here hx rfl (hb hby at_602) ?_; exact k) ?_
                                exact J78 (0 : Int32) (by rw [if_pos hc590_76, if_pos hc595_77])
                              · refine go (fun _ k => by refine XS.ifNo X74.here hx rfl (hb hby at_595) rfl ((if0 _ _).trans (feq hc595_77).1) ?_; exact k) ?_
                                show OwnEnd _ _ _ _ _ _ _ (T74.setTop (mkF m 598 (fL20 q0 q1 q2 p3 q4 x1 q0 q1 q2 x2 x3 x4 x5 x6 x7 x8 x9 x10 b11 b13 x71_30 (0 : Int32) x75) []))
                                refine go (fun _ k => by refine XS.iconst X74.here hx rfl (hb hby at_598) ?_; exact k) ?_
                                refine go (fun _ k => by refine XS.goto X74.here hx rfl (pc0 := 599) (pc' := 603) rfl (hb hby at_599) (by decide) (by decide) ?_; exact k) ?_
                                exact J78 (1 : Int32) (by rw [if_pos hc590_76, if_neg hc595_77])
                            · refine go (fun _ k => by refine XS.icmpYes X74.here hx rfl (pc0 := 590) (pc' := 598) rfl (hb hby at_590) rfl (flt hc590_76).2.1 (by decide) (by decide) ?_; exact k) ?_
                              show OwnEnd _ _ _ _ _ _ _ (T74.setTop (mkF m 598 (fL20 q0 q1 q2 p3 q4 x1 q0 q1 q2 x2 x3 x4 x5 x6 x7 x8 x9 x10 b11 b13 x71_30 (0 : Int32) x75) []))
                              refine go (fun _ k => by refine XS.iconst X74.here hx rfl (hb hby at_598) ?_; exact k) ?_
                              refine go (fun _ k => by refine XS.goto X74.here hx rfl (pc0 := 599) (pc' := 603) rfl (hb hby at_599) (by decide) (by decide) ?_; exact k) ?_
                              exact J78 (1 : Int32) (by rw [if_neg hc590_76])
                          · refine go (fun _ k => by refine XS.icmpYes X36.here hx rfl (pc0 := 539) (pc' := 548) rfl (hb hby at_539) rfl (feq hc539_72).2 (by decide) (by decide) ?_; exact k) ?_
                            show OwnEnd _ _ _ _ _ _ _ (T36.setTop (mkF m 548 (fL17 q0 q1 q2 p3 q4 x1 q0 q1 q2 x2 x3 x4 x5 x6 x7 x8 x9 x10 b11 b13 x71_30) []))
                            refine go (fun _ k => by refine XS.iload X36.here hx rfl (hb hby at_548) rfl ?_; exact k) ?_
                            refine go (fun _ k => by refine XS.bipush X36.here hx rfl (hb hby at_550) ?_; exact k) ?_
                            show OwnEnd _ _ _ _ _ _ _ (T36.setTop (mkF m 552 (fL17 q0 q1 q2 p3 q4 x1 q0 q1 q2 x2 x3 x4 x5 x6 x7 x8 x9 x10 b11 b13 x71_30) [(.int (13 : Int32)), (.int x1)]))
                            by_cases hc552_83 : x1 = (13 : Int32)
                            · refine go (fun _ k => by refine XS.icmpNo X36.here hx rfl (hb hby at_552) rfl (teq hc552_83).2 ?_; exact k) ?_
                              show OwnEnd _ _ _ _ _ _ _ (T36.setTop (mkF m 555 (fL17 q0 q1 q2 p3 q4 x1 q0 q1 q2 x2 x3 x4 x5 x6 x7 x8 x9 x10 b11 b13 x71_30) []))
                              refine go (fun _ k => by refine XS.lloadN X36.here hx rfl (hb hby at_555) rfl ?_; exact k) ?_
                              show OwnEnd _ _ _ _ _ _ _ (T36.setTop (mkF m 556 (fL17 q0 q1 q2 p3 q4 x1 q0 q1 q2 x2 x3 x4 x5 x6 x7 x8 x9 x10 b11 b13 x71_30) [(.long q0)]))
                              obtain ⟨_, T84, L84, X84, hQ84, st84⟩ := callStat X36 hx hZ hown (hw _ (List.mem_of_getElem? (i := 39) rfl)) (hw _ (List.mem_of_getElem? (i := 40) rfl)) (hw _ (List.mem_of_getElem? (i := 41) rfl)) (hw _ (List.mem_of_getElem? (i := 42) rfl)) (by decide) (rm_box l Z a0 hw [] q0 caJ ccJ T36.heap n0 O SCJ ACJ NCJ ECJ) (W := 0) (by decide) (by decide) rfl (g := (mkF m 556 (fL17 q0 q1 q2 p3 q4 x1 q0 q1 q2 x2 x3 x4 x5 x6 x7 x8 x9 x10 b11 b13 x71_30) [(.long q0)])) rfl (by rw [hml]; rfl) (argsL := [(.long q0)]) (rest := []) rfl (lenOf pd__J_Ljava_lang_Long_ rfl) rfl (by show 2 * 0 + _ ≤ _; exact Nat.le_of_eq rfl) (hb hby at_556) (by decide) (by decide)
                              obtain ⟨bx84, rfl, Nq84, K84, E_bx84⟩ := hQ84
                              have N84 := Fr.app N36 Nq84
                              have Z0 := Nat.le_trans Z0 K84.1
                              have O := O.keep K84 all0
                              have E_b11 := E_b11.keep K84
                              have F_czxid_b11 := F_czxid_b11.keep K84 nin0
                              have F_mzxid_b11 := F_mzxid_b11.keep K84 nin0
                              have F_ctime_b11 := F_ctime_b11.keep K84 nin0
                              have F_mtime_b11 := F_mtime_b11.keep K84 nin0
                              have F_version_b11 := F_version_b11.keep K84 nin0
                              have F_cversion_b11 := F_cversion_b11.keep K84 nin0
                              have F_aversion_b11 := F_aversion_b11.keep K84 nin0
                              have F_ephemeralOwner_b11 := F_ephemeralOwner_b11.keep K84 nin0
                              have F_dataLength_b11 := F_dataLength_b11.keep K84 nin0
                              have F_numChildren_b11 := F_numChildren_b11.keep K84 nin0
                              have F_pzxid_b11 := F_pzxid_b11.keep K84 nin0
                              have E_b13 := E_b13.keep K84
                              have F_czxid_b13 := F_czxid_b13.keep K84 nin0
                              have F_mzxid_b13 := F_mzxid_b13.keep K84 nin0
                              have F_ctime_b13 := F_ctime_b13.keep K84 nin0
                              have F_mtime_b13 := F_mtime_b13.keep K84 nin0
                              have F_version_b13 := F_version_b13.keep K84 nin0
                              have F_cversion_b13 := F_cversion_b13.keep K84 nin0
                              have F_aversion_b13 := F_aversion_b13.keep K84 nin0
                              have F_ephemeralOwner_b13 := F_ephemeralOwner_b13.keep K84 nin0
                              have F_dataLength_b13 := F_dataLength_b13.keep K84 nin0
                              have F_numChildren_b13 := F_numChildren_b13.keep K84 nin0
                              have F_pzxid_b13 := F_pzxid_b13.keep K84 nin0
                              refine go st84 ?_
                              refine go (fun _ k => by refine XS.astore X84.here hx rfl (hb hby at_559) rfl rfl (l' := (fL22 q0 q1 q2 p3 q4 x1 q0 q1 q2 x2 x3 x4 x5 x6 x7 x8 x9 x10 b11 b13 x71_30 bx84)) rfl ?_; exact k) ?_
                              refine go (fun _ k => by refine XS.goto X84.here hx rfl (pc0 := 561) (pc' := 568) rfl (hb hby at_561) (by decide) (by decide) ?_; exact k) ?_
                              refine go (fun _ k => by refine XS.aload X84.here hx rfl (hb hby at_568) rfl rfl ?_; exact k) ?_
                              show OwnEnd _ _ _ _ _ _ _ (T84.setTop (mkF m 570 (fL22 q0 q1 q2 p3 q4 x1 q0 q1 q2 x2 x3 x4 x5 x6 x7 x8 x9 x10 b11 b13 x71_30 bx84) [(.ref b11)]))
                              refine go (fun _ k => by refine XS.aload X84.here hx rfl (hb hby at_570) rfl rfl ?_; exact k) ?_
                              show OwnEnd _ _ _ _ _ _ _ (T84.setTop (mkF m 572 (fL22 q0 q1 q2 p3 q4 x1 q0 q1 q2 x2 x3 x4 x5 x6 x7 x8 x9 x10 b11 b13 x71_30 bx84) [(.ref bx84), (.ref b11)]))
                              obtain ⟨_, T85, L85, X85, hQ85, st85⟩ := callVirt X84 hx hZ hown (hw _ (List.mem_of_getElem? (i := 32) rfl)) (hw _ (List.mem_of_getElem? (i := 33) rfl)) (notFace_of_selects (args := #[]) (mvT hZ (hw _ (List.mem_of_getElem? (i := 35) rfl)))) (hw _ (List.mem_of_getElem? (i := 35) rfl)) (hw _ (List.mem_of_getElem? (i := 34) rfl)) (hw _ (List.mem_of_getElem? (i := 3) rfl)) (hw _ (List.mem_of_getElem? (i := 36) rfl)) (by decide) (rm_eqb l Z a0 hw [] b11 bx84 T84.heap n0 E_bx84) (W := 0) (by decide) (by decide) rfl E_b11 (g := (mkF m 572 (fL22 q0 q1 q2 p3 q4 x1 q0 q1 q2 x2 x3 x4 x5 x6 x7 x8 x9 x10 b11 b13 x71_30 bx84) [(.ref bx84), (.ref b11)])) rfl (by rw [hml]; rfl) (argsL := [(.ref bx84)]) (rest := []) rfl (lenOf pd__Ljava_lang_Object__Z rfl) rfl (by show 2 * 0 + _ ≤ _; exact Nat.le_of_eq rfl) (hb hby at_572) (by decide) (by decide)
                              obtain ⟨rfl, Nq85, eq85⟩ := hQ85
                              have N85 := Fr.app N84 Nq85
                              refine go st85 ?_
                              refine go (fun _ k => by refine XS.istore X85.here hx rfl (hb hby at_575) rfl (l' := (fL23 q0 q1 q2 p3 q4 x1 q0 q1 q2 x2 x3 x4 x5 x6 x7 x8 x9 x10 b11 b13 x71_30 bx84 (0 : Int32))) rfl ?_; exact k) ?_
                              refine go (fun _ k => by refine XS.aload X85.here hx rfl (hb hby at_577) rfl rfl ?_; exact k) ?_
                              refine go (fun _ k => by refine XS.aload X85.here hx rfl (hb hby at_579) rfl rfl ?_; exact k) ?_
                              show OwnEnd _ _ _ _ _ _ _ (T85.setTop (mkF m 581 (fL23 q0 q1 q2 p3 q4 x1 q0 q1 q2 x2 x3 x4 x5 x6 x7 x8 x9 x10 b11 b13 x71_30 bx84 (0 : Int32)) [(.ref b11), (.ref b13)]))
                              obtain ⟨_, T86, L86, X86, hQ86, st86⟩ := callVirt X85 hx hZ hown (hw _ (List.mem_of_getElem? (i := 32) rfl)) (hw _ (List.mem_of_getElem? (i := 33) rfl)) (notFace_of_selects (args := #[]) (mvT hZ (hw _ (List.mem_of_getElem? (i := 35) rfl)))) (hw _ (List.mem_of_getElem? (i := 35) rfl)) (hw _ (List.mem_of_getElem? (i := 34) rfl)) (hw _ (List.mem_of_getElem? (i := 3) rfl)) (hw _ (List.mem_of_getElem? (i := 36) rfl)) (by decide) (rm_eqv l Z a0 hw [] b13 b11 x15_s0 x17_s0 x19_s0 x21_s0 x23_s0 x25_s0 x27_s0 x29_s0 x31_s0 x33_s0 x35_s0 q0 q1 q2 x2 x3 x4 x5 x6 x7 x8 x9 T84.heap n0 F_czxid_b13 F_mzxid_b13 F_ctime_b13 F_mtime_b13 F_version_b13 F_cversion_b13 F_aversion_b13 F_ephemeralOwner_b13 F_dataLength_b13 F_numChildren_b13 F_pzxid_b13 F_czxid_b11 F_mzxid_b11 F_ctime_b11 F_mtime_b11 F_version_b11 F_cversion_b11 F_aversion_b11 F_ephemeralOwner_b11 F_dataLength_b11 F_numChildren_b11 F_pzxid_b11 E_b11) (W := 0) (by decide) (by decide) eq85 E_b13 (g := (mkF m 581 (fL23 q0 q1 q2 p3 q4 x1 q0 q1 q2 x2 x3 x4 x5 x6 x7 x8 x9 x10 b11 b13 x71_30 bx84 (0 : Int32)) [(.ref b11), (.ref b13)])) rfl (by rw [hml]; rfl) (argsL := [(.ref b11)]) (rest := []) rfl (lenOf pd__Ljava_lang_Object__Z rfl) rfl (by show 2 * 0 + _ ≤ _; exact Nat.le_of_eq rfl) (hb hby at_581) (by decide) (by decide)
                              obtain ⟨rfl, Nq86, eq86⟩ := hQ86
                              have N86 := Fr.app N85 Nq86
                              refine go st86 ?_
                              refine go (fun _ k => by refine XS.istore X86.here hx rfl (hb hby at_584) rfl (l' := (fL24 q0 q1 q2 p3 q4 x1 q0 q1 q2 x2 x3 x4 x5 x6 x7 x8 x9 x10 b11 b13 x71_30 bx84 (0 : Int32) (if own_eq x15_s0 x17_s0 x19_s0 x21_s0 x23_s0 x25_s0 x27_s0 x29_s0 x31_s0 x33_s0 x35_s0 q0 q1 q2 x2 x3 x4 x5 x6 x7 x8 x9 then (1 : Int32) else 0))) rfl ?_; exact k) ?_
                              show OwnEnd _ _ _ _ _ _ _ (T86.setTop (mkF m 586 (fL24 q0 q1 q2 p3 q4 x1 q0 q1 q2 x2 x3 x4 x5 x6 x7 x8 x9 x10 b11 b13 x71_30 bx84 (0 : Int32) (if own_eq x15_s0 x17_s0 x19_s0 x21_s0 x23_s0 x25_s0 x27_s0 x29_s0 x31_s0 x33_s0 x35_s0 q0 q1 q2 x2 x3 x4 x5 x6 x7 x8 x9 then (1 : Int32) else 0)) []))
                              generalize qx87 : (if own_eq x15_s0 x17_s0 x19_s0 x21_s0 x23_s0 x25_s0 x27_s0 x29_s0 x31_s0 x33_s0 x35_s0 q0 q1 q2 x2 x3 x4 x5 x6 x7 x8 x9 then (1 : Int32) else 0) = x87
                              refine go (fun _ k => by refine XS.iload X86.here hx rfl (hb hby at_586) rfl ?_; exact k) ?_
                              refine go (fun _ k => by refine XS.bipush X86.here hx rfl (hb hby at_588) ?_; exact k) ?_
                              show OwnEnd _ _ _ _ _ _ _ (T86.setTop (mkF m 590 (fL24 q0 q1 q2 p3 q4 x1 q0 q1 q2 x2 x3 x4 x5 x6 x7 x8 x9 x10 b11 b13 x71_30 bx84 (0 : Int32) x87) [(.int (11 : Int32)), (.int x1)]))
                              have J90 : ∀ (x90_s0 : Int32) (qx90_s0 : x90_s0 = (if x1 < (11 : Int32) then (if x71_30 = (0 : Int32) then (0 : Int32) else (1 : Int32)) else (1 : Int32))), OwnEnd p e below s (Q_rm_law Z q0 q1 q2 p3 q4 caJ ccJ h0 n0) 16 128 (T86.setTop (mkF m 603 (fL24 q0 q1 q2 p3 q4 x1 q0 q1 q2 x2 x3 x4 x5 x6 x7 x8 x9 x10 b11 b13 x71_30 bx84 (0 : Int32) x87) [(.int x90_s0)])) := by
                                intro x90_s0 qx90_s0
                                show OwnEnd _ _ _ _ _ _ _ (T86.setTop (mkF m 603 (fL24 q0 q1 q2 p3 q4 x1 q0 q1 q2 x2 x3 x4 x5 x6 x7 x8 x9 x10 b11 b13 x71_30 bx84 (0 : Int32) x87) [(.int x90_s0)]))
                                refine go (fun _ k => by refine XS.istore X86.here hx rfl (hb hby at_603) rfl (l' := (fL25 q0 q1 q2 p3 q4 x1 q0 q1 q2 x2 x3 x4 x5 x6 x7 x8 x9 x10 b11 b13 x71_30 bx84 (0 : Int32) x87 x90_s0)) rfl ?_; exact k) ?_
                                refine go (fun _ k => by refine XS.iload X86.here hx rfl (hb hby at_605) rfl ?_; exact k) ?_
                                refine go (fun _ k => by refine XS.iload X86.here hx rfl (hb hby at_607) rfl ?_; exact k) ?_
                                show OwnEnd _ _ _ _ _ _ _ (T86.setTop (mkF m 609 (fL25 q0 q1 q2 p3 q4 x1 q0 q1 q2 x2 x3 x4 x5 x6 x7 x8 x9 x10 b11 b13 x71_30 bx84 (0 : Int32) x87 x90_s0) [(.int x71_30), (.int (0 : Int32))]))
                                by_cases hc609_91 : (0 : Int32) = x71_30
                                · refine go (fun _ k => by refine XS.icmpNo X86.here hx rfl (hb hby at_609) rfl (teq hc609_91).2 ?_; exact k) ?_
                                  show OwnEnd _ _ _ _ _ _ _ (T86.setTop (mkF m 612 (fL25 q0 q1 q2 p3 q4 x1 q0 q1 q2 x2 x3 x4 x5 x6 x7 x8 x9 x10 b11 b13 x71_30 bx84 (0 : Int32) x87 x90_s0) []))
                                  refine go (fun _ k => by refine XS.iload X86.here hx rfl (hb hby at_612) rfl ?_; exact k) ?_
                                  refine go (fun _ k => by refine XS.iload X86.here hx rfl (hb hby at_614) rfl ?_; exact k) ?_
                                  show OwnEnd _ _ _ _ _ _ _ (T86.setTop (mkF m 616 (fL25 q0 q1 q2 p3 q4 x1 q0 q1 q2 x2 x3 x4 x5 x6 x7 x8 x9 x10 b11 b13 x71_30 bx84 (0 : Int32) x87 x90_s0) [(.int x90_s0), (.int x87)]))
                                  by_cases hc616_92 : x87 = x90_s0
                                  · refine go (fun _ k => by refine XS.icmpNo X86.here hx rfl (hb hby at_616) rfl (teq hc616_92).2 ?_; exact k) ?_
                                    show OwnEnd _ _ _ _ _ _ _ (T86.setTop (mkF m 619 (fL25 q0 q1 q2 p3 q4 x1 q0 q1 q2 x2 x3 x4 x5 x6 x7 x8 x9 x10 b11 b13 x71_30 bx84 (0 : Int32) x87 x90_s0) []))
                                    refine go (fun _ k => by refine XS.aload X86.here hx rfl (hb hby at_619) rfl rfl ?_; exact k) ?_
                                    refine go (fun _ k => by refine XS.aload X86.here hx rfl (hb hby at_621) rfl rfl ?_; exact k) ?_
                                    show OwnEnd _ _ _ _ _ _ _ (T86.setTop (mkF m 623 (fL25 q0 q1 q2 p3 q4 x1 q0 q1 q2 x2 x3 x4 x5 x6 x7 x8 x9 x10 b11 b13 x71_30 bx84 (0 : Int32) x87 x90_s0) [(.ref b11), (.ref b11)]))
                                    obtain ⟨_, T93, L93, X93, hQ93, st93⟩ := callVirt X86 hx hZ hown (hw _ (List.mem_of_getElem? (i := 32) rfl)) (hw _ (List.mem_of_getElem? (i := 33) rfl)) (notFace_of_selects (args := #[]) (mvT hZ (hw _ (List.mem_of_getElem? (i := 35) rfl)))) (hw _ (List.mem_of_getElem? (i := 35) rfl)) (hw _ (List.mem_of_getElem? (i := 34) rfl)) (hw _ (List.mem_of_getElem? (i := 3) rfl)) (hw _ (List.mem_of_getElem? (i := 36) rfl)) (by decide) (rm_eqv l Z a0 hw [] b11 b11 q0 q1 q2 x2 x3 x4 x5 x6 x7 x8 x9 q0 q1 q2 x2 x3 x4 x5 x6 x7 x8 x9 T84.heap n0 F_czxid_b11 F_mzxid_b11 F_ctime_b11 F_mtime_b11 F_version_b11 F_cversion_b11 F_aversion_b11 F_ephemeralOwner_b11 F_dataLength_b11 F_numChildren_b11 F_pzxid_b11 F_czxid_b11 F_mzxid_b11 F_ctime_b11 F_mtime_b11 F_version_b11 F_cversion_b11 F_aversion_b11 F_ephemeralOwner_b11 F_dataLength_b11 F_numChildren_b11 F_pzxid_b11 E_b11) (W := 0) (by decide) (by decide) eq86 E_b11 (g := (mkF m 623 (fL25 q0 q1 q2 p3 q4 x1 q0 q1 q2 x2 x3 x4 x5 x6 x7 x8 x9 x10 b11 b13 x71_30 bx84 (0 : Int32) x87 x90_s0) [(.ref b11), (.ref b11)])) rfl (by rw [hml]; rfl) (argsL := [(.ref b11)]) (rest := []) rfl (lenOf pd__Ljava_lang_Object__Z rfl) rfl (by show 2 * 0 + _ ≤ _; exact Nat.le_of_eq rfl) (hb hby at_623) (by decide) (by decide)
                                    obtain ⟨rfl, Nq93, eq93⟩ := hQ93
                                    have N93 := Fr.app N86 Nq93
                                    refine go st93 ?_
                                    show OwnEnd _ _ _ _ _ _ _ (T93.setTop (mkF m 626 (fL25 q0 q1 q2 p3 q4 x1 q0 q1 q2 x2 x3 x4 x5 x6 x7 x8 x9 x10 b11 b13 x71_30 bx84 (0 : Int32) x87 x90_s0) [(.int (if own_eq q0 q1 q2 x2 x3 x4 x5 x6 x7 x8 x9 q0 q1 q2 x2 x3 x4 x5 x6 x7 x8 x9 then (1 : Int32) else 0))]))
                                    by_cases hc626_94 : (if own_eq q0 q1 q2 x2 x3 x4 x5 x6 x7 x8 x9 q0 q1 q2 x2 x3 x4 x5 x6 x7 x8 x9 then (1 : Int32) else 0) = (0 : Int32)
                                    · refine go (fun _ k => by refine XS.ifYes X93.here hx rfl (pc0 := 626) (pc' := 633) rfl (hb hby at_626) rfl ((if0 _ _).trans (teq hc626_94).1) (by decide) (by decide) ?_; exact k) ?_
                                      show OwnEnd _ _ _ _ _ _ _ (T93.setTop (mkF m 633 (fL25 q0 q1 q2 p3 q4 x1 q0 q1 q2 x2 x3 x4 x5 x6 x7 x8 x9 x10 b11 b13 x71_30 bx84 (0 : Int32) x87 x90_s0) []))
                                      refine go (fun _ k => by refine XS.iconst X93.here hx rfl (hb hby at_633) ?_; exact k) ?_
                                      show OwnEnd _ _ _ _ _ _ _ (T93.setTop (mkF m 634 (fL25 q0 q1 q2 p3 q4 x1 q0 q1 q2 x2 x3 x4 x5 x6 x7 x8 x9 x10 b11 b13 x71_30 bx84 (0 : Int32) x87 x90_s0) [(.int (0 : Int32))]))
                                      refine endN X93 hx hlk (t := .boolean) (by simp) Bd.returns (hb hby at_634) eq93 (by decide) (by decide) ?_
                                      exact absurd (hc626_94.symm.trans (if_pos ⟨rfl, rfl, rfl, rfl, rfl, rfl, rfl, rfl, rfl, rfl, rfl⟩)) (by decide)
                                    · refine go (fun _ k => by refine XS.ifNo X93.here hx rfl (hb hby at_626) rfl ((if0 _ _).trans (feq hc626_94).1) ?_; exact k) ?_
                                      show OwnEnd _ _ _ _ _ _ _ (T93.setTop (mkF m 629 (fL25 q0 q1 q2 p3 q4 x1 q0 q1 q2 x2 x3 x4 x5 x6 x7 x8 x9 x10 b11 b13 x71_30 bx84 (0 : Int32) x87 x90_s0) []))
                                      refine go (fun _ k => by refine XS.iconst X93.here hx rfl (hb hby at_629) ?_; exact k) ?_
                                      refine go (fun _ k => by refine XS.goto X93.here hx rfl (pc0 := 630) (pc' := 634) rfl (hb hby at_630) (by decide) (by decide) ?_; exact k) ?_
                                      show OwnEnd _ _ _ _ _ _ _ (T93.setTop (mkF m 634 (fL25 q0 q1 q2 p3 q4 x1 q0 q1 q2 x2 x3 x4 x5 x6 x7 x8 x9 x10 b11 b13 x71_30 bx84 (0 : Int32) x87 x90_s0) [(.int (1 : Int32))]))
                                      refine endN X93 hx hlk (t := .boolean) (by simp) Bd.returns (hb hby at_634) eq93 (by decide) (by decide) ?_
                                      exact ⟨rfl, N93⟩
                                  · refine go (fun _ k => by refine XS.icmpYes X86.here hx rfl (pc0 := 616) (pc' := 633) rfl (hb hby at_616) rfl (feq hc616_92).2 (by decide) (by decide) ?_; exact k) ?_
                                    show OwnEnd _ _ _ _ _ _ _ (T86.setTop (mkF m 633 (fL25 q0 q1 q2 p3 q4 x1 q0 q1 q2 x2 x3 x4 x5 x6 x7 x8 x9 x10 b11 b13 x71_30 bx84 (0 : Int32) x87 x90_s0) []))
                                    refine go (fun _ k => by refine XS.iconst X86.here hx rfl (hb hby at_633) ?_; exact k) ?_
                                    show OwnEnd _ _ _ _ _ _ _ (T86.setTop (mkF m 634 (fL25 q0 q1 q2 p3 q4 x1 q0 q1 q2 x2 x3 x4 x5 x6 x7 x8 x9 x10 b11 b13 x71_30 bx84 (0 : Int32) x87 x90_s0) [(.int (0 : Int32))]))
                                    refine endN X86 hx hlk (t := .boolean) (by simp) Bd.returns (hb hby at_634) eq86 (by decide) (by decide) ?_
                                    exact absurd (qx87.symm.trans (own_fin _ (own_k14 _ _ qx1) _ _ _ _ _ _ _ _ _ _ _ _ _ _ _ _ _ _ _ _ _ _ _ _ _ _ qx15_s0 qx17_s0 qx19_s0 qx21_s0 qx23_s0 qx25_s0 qx27_s0 qx29_s0 qx31_s0 qx33_s0 qx35_s0 qx71_30 qx90_s0).2.2) hc616_92
                                · refine go (fun _ k => by refine XS.icmpYes X86.here hx rfl (pc0 := 609) (pc' := 633) rfl (hb hby at_609) rfl (feq hc609_91).2 (by decide) (by decide) ?_; exact k) ?_
                                  show OwnEnd _ _ _ _ _ _ _ (T86.setTop (mkF m 633 (fL25 q0 q1 q2 p3 q4 x1 q0 q1 q2 x2 x3 x4 x5 x6 x7 x8 x9 x10 b11 b13 x71_30 bx84 (0 : Int32) x87 x90_s0) []))
                                  refine go (fun _ k => by refine XS.iconst X86.here hx rfl (hb hby at_633) ?_; exact k) ?_
                                  show OwnEnd _ _ _ _ _ _ _ (T86.setTop (mkF m 634 (fL25 q0 q1 q2 p3 q4 x1 q0 q1 q2 x2 x3 x4 x5 x6 x7 x8 x9 x10 b11 b13 x71_30 bx84 (0 : Int32) x87 x90_s0) [(.int (0 : Int32))]))
                                  refine endN X86 hx hlk (t := .boolean) (by simp) Bd.returns (hb hby at_634) eq86 (by decide) (by decide) ?_
                                  exact absurd ((own_fin _ (own_k14 _ _ qx1) _ _ _ _ _ _ _ _ _ _ _ _ _ _ _ _ _ _ _ _ _ _ _ _ _ _ qx15_s0 qx17_s0 qx19_s0 qx21_s0 qx23_s0 qx25_s0 qx27_s0 qx29_s0 qx31_s0 qx33_s0 qx35_s0 qx71_30 qx90_s0).2.1 (Or.inr hc552_83)) hc609_91
                              by_cases hc590_88 : x1 < (11 : Int32)
                              · refine go (fun _ k => by refine XS.icmpNo X86.here hx rfl (hb hby at_590) rfl (tlt hc590_88).2.1 ?_; exact k) ?_
                                show OwnEnd _ _ _ _ _ _ _ (T86.setTop (mkF m 593 (fL24 q0 q1 q2 p3 q4 x1 q0 q1 q2 x2 x3 x4 x5 x6 x7 x8 x9 x10 b11 b13 x71_30 bx84 (0 : Int32) x87) []))
                                refine go (fun _ k => by refine XS.iload X86.here hx rfl (hb hby at_593) rfl ?_; exact k) ?_
                                show OwnEnd _ _ _ _ _ _ _ (T86.setTop (mkF m 595 (fL24 q0 q1 q2 p3 q4 x1 q0 q1 q2 x2 x3 x4 x5 x6 x7 x8 x9 x10 b11 b13 x71_30 bx84 (0 : Int32) x87) [(.int x71_30)]))
                                by_cases hc595_89 : x71_30 = (0 : Int32)
                                · refine go (fun _ k => by refine XS.ifYes X86.here hx rfl (pc0 := 595) (pc' := 602) rfl (hb hby at_595) rfl ((if0 _ _).trans (teq hc595_89).1) (by decide) (by decide) ?_; exact k) ?_
                                  show OwnEnd _ _ _ _ _ _ _ (T86.setTop (mkF m 602 (fL24 q0 q1 q2 p3 q4 x1 q0 q1 q2 x2 x3 x4 x5 x6 x7 x8 x9 x10 b11 b13 x71_30 bx84 (0 : Int32) x87) []))
                                  refine go (fun _ k => by refine XS.iconst X86.here hx rfl (hb hby at_602) ?_; exact k) ?_
                                  exact J90 (0 : Int32) (by rw [if_pos hc590_88, if_pos hc595_89])
                                · refine go (fun _ k => by refine XS.ifNo X86.here hx rfl (hb hby at_595) rfl ((if0 _ _).trans (feq hc595_89).1) ?_; exact k) ?_
                                  show OwnEnd _ _ _ _ _ _ _ (T86.setTop (mkF m 598 (fL24 q0 q1 q2 p3 q4 x1 q0 q1 q2 x2 x3 x4 x5 x6 x7 x8 x9 x10 b11 b13 x71_30 bx84 (0 : Int32) x87) []))
                                  refine go (fun _ k => by refine XS.iconst X86.here hx rfl (hb hby at_598) ?_; exact k) ?_
                                  refine go (fun _ k => by refine XS.goto X86.here hx rfl (pc0 := 599) (pc' := 603) rfl (hb hby at_599) (by decide) (by decide) ?_; exact k) ?_
                                  exact J90 (1 : Int32) (by rw [if_pos hc590_88, if_neg hc595_89])
                              · refine go (fun _ k => by refine XS.icmpYes X86.here hx rfl (pc0 := 590) (pc' := 598) rfl (hb hby at_590) rfl (flt hc590_88).2.1 (by decide) (by decide) ?_; exact k) ?_
                                show OwnEnd _ _ _ _ _ _ _ (T86.setTop (mkF m 598 (fL24 q0 q1 q2 p3 q4 x1 q0 q1 q2 x2 x3 x4 x5 x6 x7 x8 x9 x10 b11 b13 x71_30 bx84 (0 : Int32) x87) []))
                                refine go (fun _ k => by refine XS.iconst X86.here hx rfl (hb hby at_598) ?_; exact k) ?_
                                refine go (fun _ k => by refine XS.goto X86.here hx rfl (pc0 := 599) (pc' := 603) rfl (hb hby at_599) (by decide) (by decide) ?_; exact k) ?_
                                exact J90 (1 : Int32) (by rw [if_neg hc590_88])
                            · refine go (fun _ k => by refine XS.icmpYes X36.here hx rfl (pc0 := 552) (pc' := 564) rfl (hb hby at_552) rfl (feq hc552_83).2 (by decide) (by decide) ?_; exact k) ?_
                              show OwnEnd _ _ _ _ _ _ _ (T36.setTop (mkF m 564 (fL17 q0 q1 q2 p3 q4 x1 q0 q1 q2 x2 x3 x4 x5 x6 x7 x8 x9 x10 b11 b13 x71_30) []))
                              refine go (fun _ k => by refine XS.aload X36.here hx rfl (hb hby at_564) rfl rfl ?_; exact k) ?_
                              refine go (fun _ k => by refine XS.astore X36.here hx rfl (hb hby at_566) rfl rfl (l' := (fL22 q0 q1 q2 p3 q4 x1 q0 q1 q2 x2 x3 x4 x5 x6 x7 x8 x9 x10 b11 b13 x71_30 b13)) rfl ?_; exact k) ?_
                              refine go (fun _ k => by refine XS.aload X36.here hx rfl (hb hby at_568) rfl rfl ?_; exact k) ?_
                              refine go (fun _ k => by refine XS.aload X36.here hx rfl (hb hby at_570) rfl rfl ?_; exact k) ?_
                              show OwnEnd _ _ _ _ _ _ _ (T36.setTop (mkF m 572 (fL22 q0 q1 q2 p3 q4 x1 q0 q1 q2 x2 x3 x4 x5 x6 x7 x8 x9 x10 b11 b13 x71_30 b13) [(.ref b13), (.ref b11)]))
                              obtain ⟨_, T95, L95, X95, hQ95, st95⟩ := callVirt X36 hx hZ hown (hw _ (List.mem_of_getElem? (i := 32) rfl)) (hw _ (List.mem_of_getElem? (i := 33) rfl)) (notFace_of_selects (args := #[]) (mvT hZ (hw _ (List.mem_of_getElem? (i := 35) rfl)))) (hw _ (List.mem_of_getElem? (i := 35) rfl)) (hw _ (List.mem_of_getElem? (i := 34) rfl)) (hw _ (List.mem_of_getElem? (i := 3) rfl)) (hw _ (List.mem_of_getElem? (i := 36) rfl)) (by decide) (rm_eqv l Z a0 hw [] b11 b13 q0 q1 q2 x2 x3 x4 x5 x6 x7 x8 x9 x15_s0 x17_s0 x19_s0 x21_s0 x23_s0 x25_s0 x27_s0 x29_s0 x31_s0 x33_s0 x35_s0 T36.heap n0 F_czxid_b11 F_mzxid_b11 F_ctime_b11 F_mtime_b11 F_version_b11 F_cversion_b11 F_aversion_b11 F_ephemeralOwner_b11 F_dataLength_b11 F_numChildren_b11 F_pzxid_b11 F_czxid_b13 F_mzxid_b13 F_ctime_b13 F_mtime_b13 F_version_b13 F_cversion_b13 F_aversion_b13 F_ephemeralOwner_b13 F_dataLength_b13 F_numChildren_b13 F_pzxid_b13 E_b13) (W := 0) (by decide) (by decide) rfl E_b11 (g := (mkF m 572 (fL22 q0 q1 q2 p3 q4 x1 q0 q1 q2 x2 x3 x4 x5 x6 x7 x8 x9 x10 b11 b13 x71_30 b13) [(.ref b13), (.ref b11)])) rfl (by rw [hml]; rfl) (argsL := [(.ref b13)]) (rest := []) rfl (lenOf pd__Ljava_lang_Object__Z rfl) rfl (by show 2 * 0 + _ ≤ _; exact Nat.le_of_eq rfl) (hb hby at_572) (by decide) (by decide)
                              obtain ⟨rfl, Nq95, eq95⟩ := hQ95
                              have N95 := Fr.app N36 Nq95
                              refine go st95 ?_
                              refine go (fun _ k => by refine XS.istore X95.here hx rfl (hb hby at_575) rfl (l' := (fL23 q0 q1 q2 p3 q4 x1 q0 q1 q2 x2 x3 x4 x5 x6 x7 x8 x9 x10 b11 b13 x71_30 b13 (if own_eq q0 q1 q2 x2 x3 x4 x5 x6 x7 x8 x9 x15_s0 x17_s0 x19_s0 x21_s0 x23_s0 x25_s0 x27_s0 x29_s0 x31_s0 x33_s0 x35_s0 then (1 : Int32) else 0))) rfl ?_; exact k) ?_
                              show OwnEnd _ _ _ _ _ _ _ (T95.setTop (mkF m 577 (fL23 q0 q1 q2 p3 q4 x1 q0 q1 q2 x2 x3 x4 x5 x6 x7 x8 x9 x10 b11 b13 x71_30 b13 (if own_eq q0 q1 q2 x2 x3 x4 x5 x6 x7 x8 x9 x15_s0 x17_s0 x19_s0 x21_s0 x23_s0 x25_s0 x27_s0 x29_s0 x31_s0 x33_s0 x35_s0 then (1 : Int32) else 0)) []))
                              generalize qx96 : (if own_eq q0 q1 q2 x2 x3 x4 x5 x6 x7 x8 x9 x15_s0 x17_s0 x19_s0 x21_s0 x23_s0 x25_s0 x27_s0 x29_s0 x31_s0 x33_s0 x35_s0 then (1 : Int32) else 0) = x96
                              refine go (fun _ k => by refine XS.aload X95.here hx rfl (hb hby at_577) rfl rfl ?_; exact k) ?_
                              refine go (fun _ k => by refine XS.aload X95.here hx rfl (hb hby at_579) rfl rfl ?_; exact k) ?_
                              show OwnEnd _ _ _ _ _ _ _ (T95.setTop (mkF m 581 (fL23 q0 q1 q2 p3 q4 x1 q0 q1 q2 x2 x3 x4 x5 x6 x7 x8 x9 x10 b11 b13 x71_30 b13 x96) [(.ref b11), (.ref b13)]))
                              obtain ⟨_, T97, L97, X97, hQ97, st97⟩ := callVirt X95 hx hZ hown (hw _ (List.mem_of_getElem? (i := 32) rfl)) (hw _ (List.mem_of_getElem? (i := 33) rfl)) (notFace_of_selects (args := #[]) (mvT hZ (hw _ (List.mem_of_getElem? (i := 35) rfl)))) (hw _ (List.mem_of_getElem? (i := 35) rfl)) (hw _ (List.mem_of_getElem? (i := 34) rfl)) (hw _ (List.mem_of_getElem? (i := 3) rfl)) (hw _ (List.mem_of_getElem? (i := 36) rfl)) (by decide) (rm_eqv l Z a0 hw [] b13 b11 x15_s0 x17_s0 x19_s0 x21_s0 x23_s0 x25_s0 x27_s0 x29_s0 x31_s0 x33_s0 x35_s0 q0 q1 q2 x2 x3 x4 x5 x6 x7 x8 x9 T36.heap n0 F_czxid_b13 F_mzxid_b13 F_ctime_b13 F_mtime_b13 F_version_b13 F_cversion_b13 F_aversion_b13 F_ephemeralOwner_b13 F_dataLength_b13 F_numChildren_b13 F_pzxid_b13 F_czxid_b11 F_mzxid_b11 F_ctime_b11 F_mtime_b11 F_version_b11 F_cversion_b11 F_aversion_b11 F_ephemeralOwner_b11 F_dataLength_b11 F_numChildren_b11 F_pzxid_b11 E_b11) (W := 0) (by decide) (by decide) eq95 E_b13 (g := (mkF m 581 (fL23 q0 q1 q2 p3 q4 x1 q0 q1 q2 x2 x3 x4 x5 x6 x7 x8 x9 x10 b11 b13 x71_30 b13 x96) [(.ref b11), (.ref b13)])) rfl (by rw [hml]; rfl) (argsL := [(.ref b11)]) (rest := []) rfl (lenOf pd__Ljava_lang_Object__Z rfl) rfl (by show 2 * 0 + _ ≤ _; exact Nat.le_of_eq rfl) (hb hby at_581) (by decide) (by decide)
                              obtain ⟨rfl, Nq97, eq97⟩ := hQ97
                              have N97 := Fr.app N95 Nq97
                              refine go st97 ?_
                              refine go (fun _ k => by refine XS.istore X97.here hx rfl (hb hby at_584) rfl (l' := (fL24 q0 q1 q2 p3 q4 x1 q0 q1 q2 x2 x3 x4 x5 x6 x7 x8 x9 x10 b11 b13 x71_30 b13 x96 (if own_eq x15_s0 x17_s0 x19_s0 x21_s0 x23_s0 x25_s0 x27_s0 x29_s0 x31_s0 x33_s0 x35_s0 q0 q1 q2 x2 x3 x4 x5 x6 x7 x8 x9 then (1 : Int32) else 0))) rfl ?_; exact k) ?_
                              show OwnEnd _ _ _ _ _ _ _ (T97.setTop (mkF m 586 (fL24 q0 q1 q2 p3 q4 x1 q0 q1 q2 x2 x3 x4 x5 x6 x7 x8 x9 x10 b11 b13 x71_30 b13 x96 (if own_eq x15_s0 x17_s0 x19_s0 x21_s0 x23_s0 x25_s0 x27_s0 x29_s0 x31_s0 x33_s0 x35_s0 q0 q1 q2 x2 x3 x4 x5 x6 x7 x8 x9 then (1 : Int32) else 0)) []))
                              generalize qx98 : (if own_eq x15_s0 x17_s0 x19_s0 x21_s0 x23_s0 x25_s0 x27_s0 x29_s0 x31_s0 x33_s0 x35_s0 q0 q1 q2 x2 x3 x4 x5 x6 x7 x8 x9 then (1 : Int32) else 0) = x98
                              refine go (fun _ k => by refine XS.iload X97.here hx rfl (hb hby at_586) rfl ?_; exact k) ?_
                              refine go (fun _ k => by refine XS.bipush X97.here hx rfl (hb hby at_588) ?_; exact k) ?_
                              show OwnEnd _ _ _ _ _ _ _ (T97.setTop (mkF m 590 (fL24 q0 q1 q2 p3 q4 x1 q0 q1 q2 x2 x3 x4 x5 x6 x7 x8 x9 x10 b11 b13 x71_30 b13 x96 x98) [(.int (11 : Int32)), (.int x1)]))
                              have J101 : ∀ (x101_s0 : Int32) (qx101_s0 : x101_s0 = (if x1 < (11 : Int32) then (if x71_30 = (0 : Int32) then (0 : Int32) else (1 : Int32)) else (1 : Int32))), OwnEnd p e below s (Q_rm_law Z q0 q1 q2 p3 q4 caJ ccJ h0 n0) 16 128 (T97.setTop (mkF m 603 (fL24 q0 q1 q2 p3 q4 x1 q0 q1 q2 x2 x3 x4 x5 x6 x7 x8 x9 x10 b11 b13 x71_30 b13 x96 x98) [(.int x101_s0)])) := by
                                intro x101_s0 qx101_s0
                                show OwnEnd _ _ _ _ _ _ _ (T97.setTop (mkF m 603 (fL24 q0 q1 q2 p3 q4 x1 q0 q1 q2 x2 x3 x4 x5 x6 x7 x8 x9 x10 b11 b13 x71_30 b13 x96 x98) [(.int x101_s0)]))
                                refine go (fun _ k => by refine XS.istore X97.here hx rfl (hb hby at_603) rfl (l' := (fL25 q0 q1 q2 p3 q4 x1 q0 q1 q2 x2 x3 x4 x5 x6 x7 x8 x9 x10 b11 b13 x71_30 b13 x96 x98 x101_s0)) rfl ?_; exact k) ?_
                                refine go (fun _ k => by refine XS.iload X97.here hx rfl (hb hby at_605) rfl ?_; exact k) ?_
                                refine go (fun _ k => by refine XS.iload X97.here hx rfl (hb hby at_607) rfl ?_; exact k) ?_
                                show OwnEnd _ _ _ _ _ _ _ (T97.setTop (mkF m 609 (fL25 q0 q1 q2 p3 q4 x1 q0 q1 q2 x2 x3 x4 x5 x6 x7 x8 x9 x10 b11 b13 x71_30 b13 x96 x98 x101_s0) [(.int x71_30), (.int x96)]))
                                by_cases hc609_102 : x96 = x71_30
                                · refine go (fun _ k => by refine XS.icmpNo X97.here hx rfl (hb hby at_609) rfl (teq hc609_102).2 ?_; exact k) ?_
                                  show OwnEnd _ _ _ _ _ _ _ (T97.setTop (mkF m 612 (fL25 q0 q1 q2 p3 q4 x1 q0 q1 q2 x2 x3 x4 x5 x6 x7 x8 x9 x10 b11 b13 x71_30 b13 x96 x98 x101_s0) []))
                                  refine go (fun _ k => by refine XS.iload X97.here hx rfl (hb hby at_612) rfl ?_; exact k) ?_
                                  refine go (fun _ k => by refine XS.iload X97.here hx rfl (hb hby at_614) rfl ?_; exact k) ?_
                                  show OwnEnd _ _ _ _ _ _ _ (T97.setTop (mkF m 616 (fL25 q0 q1 q2 p3 q4 x1 q0 q1 q2 x2 x3 x4 x5 x6 x7 x8 x9 x10 b11 b13 x71_30 b13 x96 x98 x101_s0) [(.int x101_s0), (.int x98)]))
                                  by_cases hc616_103 : x98 = x101_s0
                                  · refine go (fun _ k => by refine XS.icmpNo X97.here hx rfl (hb hby at_616) rfl (teq hc616_103).2 ?_; exact k) ?_
                                    show OwnEnd _ _ _ _ _ _ _ (T97.setTop (mkF m 619 (fL25 q0 q1 q2 p3 q4 x1 q0 q1 q2 x2 x3 x4 x5 x6 x7 x8 x9 x10 b11 b13 x71_30 b13 x96 x98 x101_s0) []))
                                    refine go (fun _ k => by refine XS.aload X97.here hx rfl (hb hby at_619) rfl rfl ?_; exact k) ?_
                                    refine go (fun _ k => by refine XS.aload X97.here hx rfl (hb hby at_621) rfl rfl ?_; exact k) ?_
                                    show OwnEnd _ _ _ _ _ _ _ (T97.setTop (mkF m 623 (fL25 q0 q1 q2 p3 q4 x1 q0 q1 q2 x2 x3 x4 x5 x6 x7 x8 x9 x10 b11 b13 x71_30 b13 x96 x98 x101_s0) [(.ref b11), (.ref b11)]))
                                    obtain ⟨_, T104, L104, X104, hQ104, st104⟩ := callVirt X97 hx hZ hown (hw _ (List.mem_of_getElem? (i := 32) rfl)) (hw _ (List.mem_of_getElem? (i := 33) rfl)) (notFace_of_selects (args := #[]) (mvT hZ (hw _ (List.mem_of_getElem? (i := 35) rfl)))) (hw _ (List.mem_of_getElem? (i := 35) rfl)) (hw _ (List.mem_of_getElem? (i := 34) rfl)) (hw _ (List.mem_of_getElem? (i := 3) rfl)) (hw _ (List.mem_of_getElem? (i := 36) rfl)) (by decide) (rm_eqv l Z a0 hw [] b11 b11 q0 q1 q2 x2 x3 x4 x5 x6 x7 x8 x9 q0 q1 q2 x2 x3 x4 x5 x6 x7 x8 x9 T36.heap n0 F_czxid_b11 F_mzxid_b11 F_ctime_b11 F_mtime_b11 F_version_b11 F_cversion_b11 F_aversion_b11 F_ephemeralOwner_b11 F_dataLength_b11 F_numChildren_b11 F_pzxid_b11 F_czxid_b11 F_mzxid_b11 F_ctime_b11 F_mtime_b11 F_version_b11 F_cversion_b11 F_aversion_b11 F_ephemeralOwner_b11 F_dataLength_b11 F_numChildren_b11 F_pzxid_b11 E_b11) (W := 0) (by decide) (by decide) eq97 E_b11 (g := (mkF m 623 (fL25 q0 q1 q2 p3 q4 x1 q0 q1 q2 x2 x3 x4 x5 x6 x7 x8 x9 x10 b11 b13 x71_30 b13 x96 x98 x101_s0) [(.ref b11), (.ref b11)])) rfl (by rw [hml]; rfl) (argsL := [(.ref b11)]) (rest := []) rfl (lenOf pd__Ljava_lang_Object__Z rfl) rfl (by show 2 * 0 + _ ≤ _; exact Nat.le_of_eq rfl) (hb hby at_623) (by decide) (by decide)
                                    obtain ⟨rfl, Nq104, eq104⟩ := hQ104
                                    have N104 := Fr.app N97 Nq104
                                    refine go st104 ?_
                                    show OwnEnd _ _ _ _ _ _ _ (T104.setTop (mkF m 626 (fL25 q0 q1 q2 p3 q4 x1 q0 q1 q2 x2 x3 x4 x5 x6 x7 x8 x9 x10 b11 b13 x71_30 b13 x96 x98 x101_s0) [(.int (if own_eq q0 q1 q2 x2 x3 x4 x5 x6 x7 x8 x9 q0 q1 q2 x2 x3 x4 x5 x6 x7 x8 x9 then (1 : Int32) else 0))]))
                                    by_cases hc626_105 : (if own_eq q0 q1 q2 x2 x3 x4 x5 x6 x7 x8 x9 q0 q1 q2 x2 x3 x4 x5 x6 x7 x8 x9 then (1 : Int32) else 0) = (0 : Int32)
                                    · refine go (fun _ k => by refine XS.ifYes X104.here hx rfl (pc0 := 626) (pc' := 633) rfl (hb hby at_626) rfl ((if0 _ _).trans (teq hc626_105).1) (by decide) (by decide) ?_; exact k) ?_
                                      show OwnEnd _ _ _ _ _ _ _ (T104.setTop (mkF m 633 (fL25 q0 q1 q2 p3 q4 x1 q0 q1 q2 x2 x3 x4 x5 x6 x7 x8 x9 x10 b11 b13 x71_30 b13 x96 x98 x101_s0) []))
                                      refine go (fun _ k => by refine XS.iconst X104.here hx rfl (hb hby at_633) ?_; exact k) ?_
                                      show OwnEnd _ _ _ _ _ _ _ (T104.setTop (mkF m 634 (fL25 q0 q1 q2 p3 q4 x1 q0 q1 q2 x2 x3 x4 x5 x6 x7 x8 x9 x10 b11 b13 x71_30 b13 x96 x98 x101_s0) [(.int (0 : Int32))]))
                                      refine endN X104 hx hlk (t := .boolean) (by simp) Bd.returns (hb hby at_634) eq104 (by decide) (by decide) ?_
                                      exact absurd (hc626_105.symm.trans (if_pos ⟨rfl, rfl, rfl, rfl, rfl, rfl, rfl, rfl, rfl, rfl, rfl⟩)) (by decide)
                                    · refine go (fun _ k => by refine XS.ifNo X104.here hx rfl (hb hby at_626) rfl ((if0 _ _).trans (feq hc626_105).1) ?_; exact k) ?_
                                      show OwnEnd _ _ _ _ _ _ _ (T104.setTop (mkF m 629 (fL25 q0 q1 q2 p3 q4 x1 q0 q1 q2 x2 x3 x4 x5 x6 x7 x8 x9 x10 b11 b13 x71_30 b13 x96 x98 x101_s0) []))
                                      refine go (fun _ k => by refine XS.iconst X104.here hx rfl (hb hby at_629) ?_; exact k) ?_
                                      refine go (fun _ k => by refine XS.goto X104.here hx rfl (pc0 := 630) (pc' := 634) rfl (hb hby at_630) (by decide) (by decide) ?_; exact k) ?_
                                      show OwnEnd _ _ _ _ _ _ _ (T104.setTop (mkF m 634 (fL25 q0 q1 q2 p3 q4 x1 q0 q1 q2 x2 x3 x4 x5 x6 x7 x8 x9 x10 b11 b13 x71_30 b13 x96 x98 x101_s0) [(.int (1 : Int32))]))
                                      refine endN X104 hx hlk (t := .boolean) (by simp) Bd.returns (hb hby at_634) eq104 (by decide) (by decide) ?_
                                      exact ⟨rfl, N104⟩
                                  · refine go (fun _ k => by refine XS.icmpYes X97.here hx rfl (pc0 := 616) (pc' := 633) rfl (hb hby at_616) rfl (feq hc616_103).2 (by decide) (by decide) ?_; exact k) ?_
                                    show OwnEnd _ _ _ _ _ _ _ (T97.setTop (mkF m 633 (fL25 q0 q1 q2 p3 q4 x1 q0 q1 q2 x2 x3 x4 x5 x6 x7 x8 x9 x10 b11 b13 x71_30 b13 x96 x98 x101_s0) []))
                                    refine go (fun _ k => by refine XS.iconst X97.here hx rfl (hb hby at_633) ?_; exact k) ?_
                                    show OwnEnd _ _ _ _ _ _ _ (T97.setTop (mkF m 634 (fL25 q0 q1 q2 p3 q4 x1 q0 q1 q2 x2 x3 x4 x5 x6 x7 x8 x9 x10 b11 b13 x71_30 b13 x96 x98 x101_s0) [(.int (0 : Int32))]))
                                    refine endN X97 hx hlk (t := .boolean) (by simp) Bd.returns (hb hby at_634) eq97 (by decide) (by decide) ?_
                                    exact absurd (qx98.symm.trans (own_fin _ (own_k14 _ _ qx1) _ _ _ _ _ _ _ _ _ _ _ _ _ _ _ _ _ _ _ _ _ _ _ _ _ _ qx15_s0 qx17_s0 qx19_s0 qx21_s0 qx23_s0 qx25_s0 qx27_s0 qx29_s0 qx31_s0 qx33_s0 qx35_s0 qx71_30 qx101_s0).2.2) hc616_103
                                · refine go (fun _ k => by refine XS.icmpYes X97.here hx rfl (pc0 := 609) (pc' := 633) rfl (hb hby at_609) rfl (feq hc609_102).2 (by decide) (by decide) ?_; exact k) ?_
                                  show OwnEnd _ _ _ _ _ _ _ (T97.setTop (mkF m 633 (fL25 q0 q1 q2 p3 q4 x1 q0 q1 q2 x2 x3 x4 x5 x6 x7 x8 x9 x10 b11 b13 x71_30 b13 x96 x98 x101_s0) []))
                                  refine go (fun _ k => by refine XS.iconst X97.here hx rfl (hb hby at_633) ?_; exact k) ?_
                                  show OwnEnd _ _ _ _ _ _ _ (T97.setTop (mkF m 634 (fL25 q0 q1 q2 p3 q4 x1 q0 q1 q2 x2 x3 x4 x5 x6 x7 x8 x9 x10 b11 b13 x71_30 b13 x96 x98 x101_s0) [(.int (0 : Int32))]))
                                  refine endN X97 hx hlk (t := .boolean) (by simp) Bd.returns (hb hby at_634) eq97 (by decide) (by decide) ?_
                                  exact absurd (qx96.symm.trans ((own_fin _ (own_k14 _ _ qx1) _ _ _ _ _ _ _ _ _ _ _ _ _ _ _ _ _ _ _ _ _ _ _ _ _ _ qx15_s0 qx17_s0 qx19_s0 qx21_s0 qx23_s0 qx25_s0 qx27_s0 qx29_s0 qx31_s0 qx33_s0 qx35_s0 qx71_30 qx101_s0).1 hc539_72 hc552_83)) hc609_102
                              by_cases hc590_99 : x1 < (11 : Int32)
                              · refine go (fun _ k => by refine XS.icmpNo X97.here hx rfl (hb hby at_590) rfl (tlt hc590_99).2.1 ?_; exact k) ?_
                                show OwnEnd _ _ _ _ _ _ _ (T97.setTop (mkF m 593 (fL24 q0 q1 q2 p3 q4 x1 q0 q1 q2 x2 x3 x4 x5 x6 x7 x8 x9 x10 b11 b13 x71_30 b13 x96 x98) []))
                                refine go (fun _ k => by refine XS.iload X97.here hx rfl (hb hby at_593) rfl ?_; exact k) ?_
                                show OwnEnd _ _ _ _ _ _ _ (T97.setTop (mkF m 595 (fL24 q0 q1 q2 p3 q4 x1 q0 q1 q2 x2 x3 x4 x5 x6 x7 x8 x9 x10 b11 b13 x71_30 b13 x96 x98) [(.int x71_30)]))
                                by_cases hc595_100 : x71_30 = (0 : Int32)
                                · refine go (fun _ k => by refine XS.ifYes X97.here hx rfl (pc0 := 595) (pc' := 602) rfl (hb hby at_595) rfl ((if0 _ _).trans (teq hc595_100).1) (by decide) (by decide) ?_; exact k) ?_
                                  show OwnEnd _ _ _ _ _ _ _ (T97.setTop (mkF m 602 (fL24 q0 q1 q2 p3 q4 x1 q0 q1 q2 x2 x3 x4 x5 x6 x7 x8 x9 x10 b11 b13 x71_30 b13 x96 x98) []))
                                  refine go (fun _ k => by refine XS.iconst X97.here hx rfl (hb hby at_602) ?_; exact k) ?_
                                  exact J101 (0 : Int32) (by rw [if_pos hc590_99, if_pos hc595_100])
                                · refine go (fun _ k => by refine XS.ifNo X97.here hx rfl (hb hby at_595) rfl ((if0 _ _).trans (feq hc595_100).1) ?_; exact k) ?_
                                  show OwnEnd _ _ _ _ _ _ _ (T97.setTop (mkF m 598 (fL24 q0 q1 q2 p3 q4 x1 q0 q1 q2 x2 x3 x4 x5 x6 x7 x8 x9 x10 b11 b13 x71_30 b13 x96 x98) []))
                                  refine go (fun _ k => by refine XS.iconst X97.here hx rfl (hb hby at_598) ?_; exact k) ?_
                                  refine go (fun _ k => by refine XS.goto X97.here hx rfl (pc0 := 599) (pc' := 603) rfl (hb hby at_599) (by decide) (by decide) ?_; exact k) ?_
                                  exact J101 (1 : Int32) (by rw [if_pos hc590_99, if_neg hc595_100])
                              · refine go (fun _ k => by refine XS.icmpYes X97.here hx rfl (pc0 := 590) (pc' := 598) rfl (hb hby at_590) rfl (flt hc590_99).2.1 (by decide) (by decide) ?_; exact k) ?_
                                show OwnEnd _ _ _ _ _ _ _ (T97.setTop (mkF m 598 (fL24 q0 q1 q2 p3 q4 x1 q0 q1 q2 x2 x3 x4 x5 x6 x7 x8 x9 x10 b11 b13 x71_30 b13 x96 x98) []))
                                refine go (fun _ k => by refine XS.iconst X97.here hx rfl (hb hby at_598) ?_; exact k) ?_
                                refine go (fun _ k => by refine XS.goto X97.here hx rfl (pc0 := 599) (pc' := 603) rfl (hb hby at_599) (by decide) (by decide) ?_; exact k) ?_
                                exact J101 (1 : Int32) (by rw [if_neg hc590_99])
                        by_cases hc258_37 : x1 = (0 : Int32)
                        · refine go (fun _ k => by refine XS.ifNo X36.here hx rfl (hb hby at_258) rfl ((if0 _ _).trans (teq hc258_37).2) ?_; exact k) ?_
                          show OwnEnd _ _ _ _ _ _ _ (T36.setTop (mkF m 261 (fL16 q0 q1 q2 p3 q4 x1 q0 q1 q2 x2 x3 x4 x5 x6 x7 x8 x9 x10 b11 b13) []))
                          refine go (fun _ k => by refine XS.lload X36.here hx rfl (hb hby at_261) rfl ?_; exact k) ?_
                          refine go (fun _ k => by refine XS.lload X36.here hx rfl (hb hby at_263) rfl ?_; exact k) ?_
                          refine go (fun _ k => by refine XS.lcmp X36.here hx rfl (hb hby at_265) rfl ?_; exact k) ?_
                          show OwnEnd _ _ _ _ _ _ _ (T36.setTop (mkF m 266 (fL16 q0 q1 q2 p3 q4 x1 q0 q1 q2 x2 x3 x4 x5 x6 x7 x8 x9 x10 b11 b13) [(.int (lcmpW q0 q4))]))
                          have J39 : ∀ (x39_s0 : Int32) (qx39_s0 : x39_s0 = (if q0 = q4 then (1 : Int32) else (0 : Int32))), OwnEnd p e below s (Q_rm_law Z q0 q1 q2 p3 q4 caJ ccJ h0 n0) 16 128 (T36.setTop (mkF m 274 (fL16 q0 q1 q2 p3 q4 x1 q0 q1 q2 x2 x3 x4 x5 x6 x7 x8 x9 x10 b11 b13) [(.int x39_s0)])) := by
                            intro x39_s0 qx39_s0
                            show OwnEnd _ _ _ _ _ _ _ (T36.setTop (mkF m 274 (fL16 q0 q1 q2 p3 q4 x1 q0 q1 q2 x2 x3 x4 x5 x6 x7 x8 x9 x10 b11 b13) [(.int x39_s0)]))
                            refine go (fun _ k => by refine XS.istore X36.here hx rfl (hb hby at_274) rfl (l' := (fL17 q0 q1 q2 p3 q4 x1 q0 q1 q2 x2 x3 x4 x5 x6 x7 x8 x9 x10 b11 b13 x39_s0)) rfl ?_; exact k) ?_
                            refine go (fun _ k => by refine XS.goto X36.here hx rfl (pc0 := 276) (pc' := 535) rfl (hb hby at_276) (by decide) (by decide) ?_; exact k) ?_
                            exact J71 x39_s0 (by subst qx39_s0; rw [if_pos hc258_37])
                          by_cases hc266_38 : q0 = q4
                          · refine go (fun _ k => by refine XS.ifNo X36.here hx rfl (hb hby at_266) rfl ((if0 _ _).trans (teq ((lw_eq _ _).mpr hc266_38)).2) ?_; exact k) ?_
                            show OwnEnd _ _ _ _ _ _ _ (T36.setTop (mkF m 269 (fL16 q0 q1 q2 p3 q4 x1 q0 q1 q2 x2 x3 x4 x5 x6 x7 x8 x9 x10 b11 b13) []))
                            refine go (fun _ k => by refine XS.iconst X36.here hx rfl (hb hby at_269) ?_; exact k) ?_
                            refine go (fun _ k => by refine XS.goto X36.here hx rfl (pc0 := 270) (pc' := 274) rfl (hb hby at_270) (by decide) (by decide) ?_; exact k) ?_
                            exact J39 (1 : Int32) (by rw [if_pos hc266_38])
                          · refine go (fun _ k => by refine XS.ifYes X36.here hx rfl (pc0 := 266) (pc' := 273) rfl (hb hby at_266) rfl ((if0 _ _).trans (feq (fun q => hc266_38 ((lw_eq _ _).mp q))).2) (by decide) (by decide) ?_; exact k) ?_
                            show OwnEnd _ _ _ _ _ _ _ (T36.setTop (mkF m 273 (fL16 q0 q1 q2 p3 q4 x1 q0 q1 q2 x2 x3 x4 x5 x6 x7 x8 x9 x10 b11 b13) []))
                            refine go (fun _ k => by refine XS.iconst X36.here hx rfl (hb hby at_273) ?_; exact k) ?_
                            exact J39 (0 : Int32) (by rw [if_neg hc266_38])
                        · refine go (fun _ k => by refine XS.ifYes X36.here hx rfl (pc0 := 258) (pc' := 279) rfl (hb hby at_258) rfl ((if0 _ _).trans (feq hc258_37).2) (by decide) (by decide) ?_; exact k) ?_
                          show OwnEnd _ _ _ _ _ _ _ (T36.setTop (mkF m 279 (fL16 q0 q1 q2 p3 q4 x1 q0 q1 q2 x2 x3 x4 x5 x6 x7 x8 x9 x10 b11 b13) []))
                          refine go (fun _ k => by refine XS.iload X36.here hx rfl (hb hby at_279) rfl ?_; exact k) ?_
                          refine go (fun _ k => by refine XS.iconst X36.here hx rfl (hb hby at_281) ?_; exact k) ?_
                          show OwnEnd _ _ _ _ _ _ _ (T36.setTop (mkF m 282 (fL16 q0 q1 q2 p3 q4 x1 q0 q1 q2 x2 x3 x4 x5 x6 x7 x8 x9 x10 b11 b13) [(.int (1 : Int32)), (.int x1)]))
                          by_cases hc282_40 : x1 = (1 : Int32)
                          · refine go (fun _ k => by refine XS.icmpNo X36.here hx rfl (hb hby at_282) rfl (teq hc282_40).2 ?_; exact k) ?_
                            show OwnEnd _ _ _ _ _ _ _ (T36.setTop (mkF m 285 (fL16 q0 q1 q2 p3 q4 x1 q0 q1 q2 x2 x3 x4 x5 x6 x7 x8 x9 x10 b11 b13) []))
                            refine go (fun _ k => by refine XS.lload X36.here hx rfl (hb hby at_285) rfl ?_; exact k) ?_
                            refine go (fun _ k => by refine XS.lload X36.here hx rfl (hb hby at_287) rfl ?_; exact k) ?_
                            refine go (fun _ k => by refine XS.lcmp X36.here hx rfl (hb hby at_289) rfl ?_; exact k) ?_
                            show OwnEnd _ _ _ _ _ _ _ (T36.setTop (mkF m 290 (fL16 q0 q1 q2 p3 q4 x1 q0 q1 q2 x2 x3 x4 x5 x6 x7 x8 x9 x10 b11 b13) [(.int (lcmpW q1 q4))]))
                            have J42 : ∀ (x42_s0 : Int32) (qx42_s0 : x42_s0 = (if q1 = q4 then (1 : Int32) else (0 : Int32))), OwnEnd p e below s (Q_rm_law Z q0 q1 q2 p3 q4 caJ ccJ h0 n0) 16 128 (T36.setTop (mkF m 298 (fL16 q0 q1 q2 p3 q4 x1 q0 q1 q2 x2 x3 x4 x5 x6 x7 x8 x9 x10 b11 b13) [(.int x42_s0)])) := by
                              intro x42_s0 qx42_s0
                              show OwnEnd _ _ _ _ _ _ _ (T36.setTop (mkF m 298 (fL16 q0 q1 q2 p3 q4 x1 q0 q1 q2 x2 x3 x4 x5 x6 x7 x8 x9 x10 b11 b13) [(.int x42_s0)]))
                              refine go (fun _ k => by refine XS.istore X36.here hx rfl (hb hby at_298) rfl (l' := (fL17 q0 q1 q2 p3 q4 x1 q0 q1 q2 x2 x3 x4 x5 x6 x7 x8 x9 x10 b11 b13 x42_s0)) rfl ?_; exact k) ?_
                              refine go (fun _ k => by refine XS.goto X36.here hx rfl (pc0 := 300) (pc' := 535) rfl (hb hby at_300) (by decide) (by decide) ?_; exact k) ?_
                              exact J71 x42_s0 (by subst qx42_s0; rw [if_neg hc258_37, if_pos hc282_40])
                            by_cases hc290_41 : q1 = q4
                            · refine go (fun _ k => by refine XS.ifNo X36.here hx rfl (hb hby at_290) rfl ((if0 _ _).trans (teq ((lw_eq _ _).mpr hc290_41)).2) ?_; exact k) ?_
                              show OwnEnd _ _ _ _ _ _ _ (T36.setTop (mkF m 293 (fL16 q0 q1 q2 p3 q4 x1 q0 q1 q2 x2 x3 x4 x5 x6 x7 x8 x9 x10 b11 b13) []))
                              refine go (fun _ k => by refine XS.iconst X36.here hx rfl (hb hby at_293) ?_; exact k) ?_
                              refine go (fun _ k => by refine XS.goto X36.here hx rfl (pc0 := 294) (pc' := 298) rfl (hb hby at_294) (by decide) (by decide) ?_; exact k) ?_
                              exact J42 (1 : Int32) (by rw [if_pos hc290_41])
                            · refine go (fun _ k => by refine XS.ifYes X36.here hx rfl (pc0 := 290) (pc' := 297) rfl (hb hby at_290) rfl ((if0 _ _).trans (feq (fun q => hc290_41 ((lw_eq _ _).mp q))).2) (by decide) (by decide) ?_; exact k) ?_
                              show OwnEnd _ _ _ _ _ _ _ (T36.setTop (mkF m 297 (fL16 q0 q1 q2 p3 q4 x1 q0 q1 q2 x2 x3 x4 x5 x6 x7 x8 x9 x10 b11 b13) []))
                              refine go (fun _ k => by refine XS.iconst X36.here hx rfl (hb hby at_297) ?_; exact k) ?_
                              exact J42 (0 : Int32) (by rw [if_neg hc290_41])
                          · refine go (fun _ k => by refine XS.icmpYes X36.here hx rfl (pc0 := 282) (pc' := 303) rfl (hb hby at_282) rfl (feq hc282_40).2 (by decide) (by decide) ?_; exact k) ?_
                            show OwnEnd _ _ _ _ _ _ _ (T36.setTop (mkF m 303 (fL16 q0 q1 q2 p3 q4 x1 q0 q1 q2 x2 x3 x4 x5 x6 x7 x8 x9 x10 b11 b13) []))
                            refine go (fun _ k => by refine XS.iload X36.here hx rfl (hb hby at_303) rfl ?_; exact k) ?_
                            refine go (fun _ k => by refine XS.iconst X36.here hx rfl (hb hby at_305) ?_; exact k) ?_
                            show OwnEnd _ _ _ _ _ _ _ (T36.setTop (mkF m 306 (fL16 q0 q1 q2 p3 q4 x1 q0 q1 q2 x2 x3 x4 x5 x6 x7 x8 x9 x10 b11 b13) [(.int (2 : Int32)), (.int x1)]))
                            by_cases hc306_43 : x1 = (2 : Int32)
                            · refine go (fun _ k => by refine XS.icmpNo X36.here hx rfl (hb hby at_306) rfl (teq hc306_43).2 ?_; exact k) ?_
                              show OwnEnd _ _ _ _ _ _ _ (T36.setTop (mkF m 309 (fL16 q0 q1 q2 p3 q4 x1 q0 q1 q2 x2 x3 x4 x5 x6 x7 x8 x9 x10 b11 b13) []))
                              refine go (fun _ k => by refine XS.lload X36.here hx rfl (hb hby at_309) rfl ?_; exact k) ?_
                              refine go (fun _ k => by refine XS.lload X36.here hx rfl (hb hby at_311) rfl ?_; exact k) ?_
                              refine go (fun _ k => by refine XS.lcmp X36.here hx rfl (hb hby at_313) rfl ?_; exact k) ?_
                              show OwnEnd _ _ _ _ _ _ _ (T36.setTop (mkF m 314 (fL16 q0 q1 q2 p3 q4 x1 q0 q1 q2 x2 x3 x4 x5 x6 x7 x8 x9 x10 b11 b13) [(.int (lcmpW q2 q4))]))
                              have J45 : ∀ (x45_s0 : Int32) (qx45_s0 : x45_s0 = (if q2 = q4 then (1 : Int32) else (0 : Int32))), OwnEnd p e below s (Q_rm_law Z q0 q1 q2 p3 q4 caJ ccJ h0 n0) 16 128 (T36.setTop (mkF m 322 (fL16 q0 q1 q2 p3 q4 x1 q0 q1 q2 x2 x3 x4 x5 x6 x7 x8 x9 x10 b11 b13) [(.int x45_s0)])) := by
                                intro x45_s0 qx45_s0
                                show OwnEnd _ _ _ _ _ _ _ (T36.setTop (mkF m 322 (fL16 q0 q1 q2 p3 q4 x1 q0 q1 q2 x2 x3 x4 x5 x6 x7 x8 x9 x10 b11 b13) [(.int x45_s0)]))
                                refine go (fun _ k => by refine XS.istore X36.here hx rfl (hb hby at_322) rfl (l' := (fL17 q0 q1 q2 p3 q4 x1 q0 q1 q2 x2 x3 x4 x5 x6 x7 x8 x9 x10 b11 b13 x45_s0)) rfl ?_; exact k) ?_
                                refine go (fun _ k => by refine XS.goto X36.here hx rfl (pc0 := 324) (pc' := 535) rfl (hb hby at_324) (by decide) (by decide) ?_; exact k) ?_
                                exact J71 x45_s0 (by subst qx45_s0; rw [if_neg hc258_37, if_neg hc282_40, if_pos hc306_43])
                              by_cases hc314_44 : q2 = q4
                              · refine go (fun _ k => by refine XS.ifNo X36.here hx rfl (hb hby at_314) rfl ((if0 _ _).trans (teq ((lw_eq _ _).mpr hc314_44)).2) ?_; exact k) ?_
                                show OwnEnd _ _ _ _ _ _ _ (T36.setTop (mkF m 317 (fL16 q0 q1 q2 p3 q4 x1 q0 q1 q2 x2 x3 x4 x5 x6 x7 x8 x9 x10 b11 b13) []))
                                refine go (fun _ k => by refine XS.iconst X36.here hx rfl (hb hby at_317) ?_; exact k) ?_
                                refine go (fun _ k => by refine XS.goto X36.here hx rfl (pc0 := 318) (pc' := 322) rfl (hb hby at_318) (by decide) (by decide) ?_; exact k) ?_
                                exact J45 (1 : Int32) (by rw [if_pos hc314_44])
                              · refine go (fun _ k => by refine XS.ifYes X36.here hx rfl (pc0 := 314) (pc' := 321) rfl (hb hby at_314) rfl ((if0 _ _).trans (feq (fun q => hc314_44 ((lw_eq _ _).mp q))).2) (by decide) (by decide) ?_; exact k) ?_
                                show OwnEnd _ _ _ _ _ _ _ (T36.setTop (mkF m 321 (fL16 q0 q1 q2 p3 q4 x1 q0 q1 q2 x2 x3 x4 x5 x6 x7 x8 x9 x10 b11 b13) []))
                                refine go (fun _ k => by refine XS.iconst X36.here hx rfl (hb hby at_321) ?_; exact k) ?_
                                exact J45 (0 : Int32) (by rw [if_neg hc314_44])
                            · refine go (fun _ k => by refine XS.icmpYes X36.here hx rfl (pc0 := 306) (pc' := 327) rfl (hb hby at_306) rfl (feq hc306_43).2 (by decide) (by decide) ?_; exact k) ?_
                              show OwnEnd _ _ _ _ _ _ _ (T36.setTop (mkF m 327 (fL16 q0 q1 q2 p3 q4 x1 q0 q1 q2 x2 x3 x4 x5 x6 x7 x8 x9 x10 b11 b13) []))
                              refine go (fun _ k => by refine XS.iload X36.here hx rfl (hb hby at_327) rfl ?_; exact k) ?_
                              refine go (fun _ k => by refine XS.iconst X36.here hx rfl (hb hby at_329) ?_; exact k) ?_
                              show OwnEnd _ _ _ _ _ _ _ (T36.setTop (mkF m 330 (fL16 q0 q1 q2 p3 q4 x1 q0 q1 q2 x2 x3 x4 x5 x6 x7 x8 x9 x10 b11 b13) [(.int (3 : Int32)), (.int x1)]))
                              by_cases hc330_46 : x1 = (3 : Int32)
                              · refine go (fun _ k => by refine XS.icmpNo X36.here hx rfl (hb hby at_330) rfl (teq hc330_46).2 ?_; exact k) ?_
                                show OwnEnd _ _ _ _ _ _ _ (T36.setTop (mkF m 333 (fL16 q0 q1 q2 p3 q4 x1 q0 q1 q2 x2 x3 x4 x5 x6 x7 x8 x9 x10 b11 b13) []))
                                refine go (fun _ k => by refine XS.lload X36.here hx rfl (hb hby at_333) rfl ?_; exact k) ?_
                                refine go (fun _ k => by refine XS.lload X36.here hx rfl (hb hby at_335) rfl ?_; exact k) ?_
                                refine go (fun _ k => by refine XS.lcmp X36.here hx rfl (hb hby at_337) rfl ?_; exact k) ?_
                                show OwnEnd _ _ _ _ _ _ _ (T36.setTop (mkF m 338 (fL16 q0 q1 q2 p3 q4 x1 q0 q1 q2 x2 x3 x4 x5 x6 x7 x8 x9 x10 b11 b13) [(.int (lcmpW x2 q4))]))
                                have J48 : ∀ (x48_s0 : Int32) (qx48_s0 : x48_s0 = (if x2 = q4 then (1 : Int32) else (0 : Int32))), OwnEnd p e below s (Q_rm_law Z q0 q1 q2 p3 q4 caJ ccJ h0 n0) 16 128 (T36.setTop (mkF m 346 (fL16 q0 q1 q2 p3 q4 x1 q0 q1 q2 x2 x3 x4 x5 x6 x7 x8 x9 x10 b11 b13) [(.int x48_s0)])) := by
                                  intro x48_s0 qx48_s0
                                  show OwnEnd _ _ _ _ _ _ _ (T36.setTop (mkF m 346 (fL16 q0 q1 q2 p3 q4 x1 q0 q1 q2 x2 x3 x4 x5 x6 x7 x8 x9 x10 b11 b13) [(.int x48_s0)]))
                                  refine go (fun _ k => by refine XS.istore X36.here hx rfl (hb hby at_346) rfl (l' := (fL17 q0 q1 q2 p3 q4 x1 q0 q1 q2 x2 x3 x4 x5 x6 x7 x8 x9 x10 b11 b13 x48_s0)) rfl ?_; exact k) ?_
                                  refine go (fun _ k => by refine XS.goto X36.here hx rfl (pc0 := 348) (pc' := 535) rfl (hb hby at_348) (by decide) (by decide) ?_; exact k) ?_
                                  exact J71 x48_s0 (by subst qx48_s0; rw [if_neg hc258_37, if_neg hc282_40, if_neg hc306_43, if_pos hc330_46])
                                by_cases hc338_47 : x2 = q4
                                · refine go (fun _ k => by refine XS.ifNo X36.here hx rfl (hb hby at_338) rfl ((if0 _ _).trans (teq ((lw_eq _ _).mpr hc338_47)).2) ?_; exact k) ?_
                                  show OwnEnd _ _ _ _ _ _ _ (T36.setTop (mkF m 341 (fL16 q0 q1 q2 p3 q4 x1 q0 q1 q2 x2 x3 x4 x5 x6 x7 x8 x9 x10 b11 b13) []))
                                  refine go (fun _ k => by refine XS.iconst X36.here hx rfl (hb hby at_341) ?_; exact k) ?_
                                  refine go (fun _ k => by refine XS.goto X36.here hx rfl (pc0 := 342) (pc' := 346) rfl (hb hby at_342) (by decide) (by decide) ?_; exact k) ?_
                                  exact J48 (1 : Int32) (by rw [if_pos hc338_47])
                                · refine go (fun _ k => by refine XS.ifYes X36.here hx rfl (pc0 := 338) (pc' := 345) rfl (hb hby at_338) rfl ((if0 _ _).trans (feq (fun q => hc338_47 ((lw_eq _ _).mp q))).2) (by decide) (by decide) ?_; exact k) ?_
                                  show OwnEnd _ _ _ _ _ _ _ (T36.setTop (mkF m 345 (fL16 q0 q1 q2 p3 q4 x1 q0 q1 q2 x2 x3 x4 x5 x6 x7 x8 x9 x10 b11 b13) []))
                                  refine go (fun _ k => by refine XS.iconst X36.here hx rfl (hb hby at_345) ?_; exact k) ?_
                                  exact J48 (0 : Int32) (by rw [if_neg hc338_47])
                              · refine go (fun _ k => by refine XS.icmpYes X36.here hx rfl (pc0 := 330) (pc' := 351) rfl (hb hby at_330) rfl (feq hc330_46).2 (by decide) (by decide) ?_; exact k) ?_
                                show OwnEnd _ _ _ _ _ _ _ (T36.setTop (mkF m 351 (fL16 q0 q1 q2 p3 q4 x1 q0 q1 q2 x2 x3 x4 x5 x6 x7 x8 x9 x10 b11 b13) []))
                                refine go (fun _ k => by refine XS.iload X36.here hx rfl (hb hby at_351) rfl ?_; exact k) ?_
                                refine go (fun _ k => by refine XS.iconst X36.here hx rfl (hb hby at_353) ?_; exact k) ?_
                                show OwnEnd _ _ _ _ _ _ _ (T36.setTop (mkF m 354 (fL16 q0 q1 q2 p3 q4 x1 q0 q1 q2 x2 x3 x4 x5 x6 x7 x8 x9 x10 b11 b13) [(.int (4 : Int32)), (.int x1)]))
                                by_cases hc354_49 : x1 = (4 : Int32)
                                · refine go (fun _ k => by refine XS.icmpNo X36.here hx rfl (hb hby at_354) rfl (teq hc354_49).2 ?_; exact k) ?_
                                  show OwnEnd _ _ _ _ _ _ _ (T36.setTop (mkF m 357 (fL16 q0 q1 q2 p3 q4 x1 q0 q1 q2 x2 x3 x4 x5 x6 x7 x8 x9 x10 b11 b13) []))
                                  refine go (fun _ k => by refine XS.iload X36.here hx rfl (hb hby at_357) rfl ?_; exact k) ?_
                                  refine go (fun _ k => by refine XS.iload X36.here hx rfl (hb hby at_359) rfl ?_; exact k) ?_
                                  show OwnEnd _ _ _ _ _ _ _ (T36.setTop (mkF m 361 (fL16 q0 q1 q2 p3 q4 x1 q0 q1 q2 x2 x3 x4 x5 x6 x7 x8 x9 x10 b11 b13) [(.int x10), (.int x3)]))
                                  have J51 : ∀ (x51_s0 : Int32) (qx51_s0 : x51_s0 = (if x3 = x10 then (1 : Int32) else (0 : Int32))), OwnEnd p e below s (Q_rm_law Z q0 q1 q2 p3 q4 caJ ccJ h0 n0) 16 128 (T36.setTop (mkF m 369 (fL16 q0 q1 q2 p3 q4 x1 q0 q1 q2 x2 x3 x4 x5 x6 x7 x8 x9 x10 b11 b13) [(.int x51_s0)])) := by
                                    intro x51_s0 qx51_s0
                                    show OwnEnd _ _ _ _ _ _ _ (T36.setTop (mkF m 369 (fL16 q0 q1 q2 p3 q4 x1 q0 q1 q2 x2 x3 x4 x5 x6 x7 x8 x9 x10 b11 b13) [(.int x51_s0)]))
                                    refine go (fun _ k => by refine XS.istore X36.here hx rfl (hb hby at_369) rfl (l' := (fL17 q0 q1 q2 p3 q4 x1 q0 q1 q2 x2 x3 x4 x5 x6 x7 x8 x9 x10 b11 b13 x51_s0)) rfl ?_; exact k) ?_
                                    refine go (fun _ k => by refine XS.goto X36.here hx rfl (pc0 := 371) (pc' := 535) rfl (hb hby at_371) (by decide) (by decide) ?_; exact k) ?_
                                    exact J71 x51_s0 (by subst qx51_s0; rw [if_neg hc258_37, if_neg hc282_40, if_neg hc306_43, if_neg hc330_46, if_pos hc354_49])
                                  by_cases hc361_50 : x3 = x10
                                  · refine go (fun _ k => by refine XS.icmpNo X36.here hx rfl (hb hby at_361) rfl (teq hc361_50).2 ?_; exact k) ?_
                                    show OwnEnd _ _ _ _ _ _ _ (T36.setTop (mkF m 364 (fL16 q0 q1 q2 p3 q4 x1 q0 q1 q2 x2 x3 x4 x5 x6 x7 x8 x9 x10 b11 b13) []))
                                    refine go (fun _ k => by refine XS.iconst X36.here hx rfl (hb hby at_364) ?_; exact k) ?_
                                    refine go (fun _ k => by refine XS.goto X36.here hx rfl (pc0 := 365) (pc' := 369) rfl (hb hby at_365) (by decide) (by decide) ?_; exact k) ?_
                                    exact J51 (1 : Int32) (by rw [if_pos hc361_50])
                                  · refine go (fun _ k => by refine XS.icmpYes X36.here hx rfl (pc0 := 361) (pc' := 368) rfl (hb hby at_361) rfl (feq hc361_50).2 (by decide) (by decide) ?_; exact k) ?_
                                    show OwnEnd _ _ _ _ _ _ _ (T36.setTop (mkF m 368 (fL16 q0 q1 q2 p3 q4 x1 q0 q1 q2 x2 x3 x4 x5 x6 x7 x8 x9 x10 b11 b13) []))
                                    refine go (fun _ k => by refine XS.iconst X36.here hx rfl (hb hby at_368) ?_; exact k) ?_
                                    exact J51 (0 : Int32) (by rw [if_neg hc361_50])
                                · refine go (fun _ k => by refine XS.icmpYes X36.here hx rfl (pc0 := 354) (pc' := 374) rfl (hb hby at_354) rfl (feq hc354_49).2 (by decide) (by decide) ?_; exact k) ?_
                                  show OwnEnd _ _ _ _ _ _ _ (T36.setTop (mkF m 374 (fL16 q0 q1 q2 p3 q4 x1 q0 q1 q2 x2 x3 x4 x5 x6 x7 x8 x9 x10 b11 b13) []))
                                  refine go (fun _ k => by refine XS.iload X36.here hx rfl (hb hby at_374) rfl ?_; exact k) ?_
                                  refine go (fun _ k => by refine XS.iconst X36.here hx rfl (hb hby at_376) ?_; exact k) ?_
                                  show OwnEnd _ _ _ _ _ _ _ (T36.setTop (mkF m 377 (fL16 q0 q1 q2 p3 q4 x1 q0 q1 q2 x2 x3 x4 x5 x6 x7 x8 x9 x10 b11 b13) [(.int (5 : Int32)), (.int x1)]))
                                  by_cases hc377_52 : x1 = (5 : Int32)
                                  · refine go (fun _ k => by refine XS.icmpNo X36.here hx rfl (hb hby at_377) rfl (teq hc377_52).2 ?_; exact k) ?_
                                    show OwnEnd _ _ _ _ _ _ _ (T36.setTop (mkF m 380 (fL16 q0 q1 q2 p3 q4 x1 q0 q1 q2 x2 x3 x4 x5 x6 x7 x8 x9 x10 b11 b13) []))
                                    refine go (fun _ k => by refine XS.iload X36.here hx rfl (hb hby at_380) rfl ?_; exact k) ?_
                                    refine go (fun _ k => by refine XS.iload X36.here hx rfl (hb hby at_382) rfl ?_; exact k) ?_
                                    show OwnEnd _ _ _ _ _ _ _ (T36.setTop (mkF m 384 (fL16 q0 q1 q2 p3 q4 x1 q0 q1 q2 x2 x3 x4 x5 x6 x7 x8 x9 x10 b11 b13) [(.int x10), (.int x4)]))
                                    have J54 : ∀ (x54_s0 : Int32) (qx54_s0 : x54_s0 = (if x4 = x10 then (1 : Int32) else (0 : Int32))), OwnEnd p e below s (Q_rm_law Z q0 q1 q2 p3 q4 caJ ccJ h0 n0) 16 128 (T36.setTop (mkF m 392 (fL16 q0 q1 q2 p3 q4 x1 q0 q1 q2 x2 x3 x4 x5 x6 x7 x8 x9 x10 b11 b13) [(.int x54_s0)])) := by
                                      intro x54_s0 qx54_s0
                                      show OwnEnd _ _ _ _ _ _ _ (T36.setTop (mkF m 392 (fL16 q0 q1 q2 p3 q4 x1 q0 q1 q2 x2 x3 x4 x5 x6 x7 x8 x9 x10 b11 b13) [(.int x54_s0)]))
                                      refine go (fun _ k => by refine XS.istore X36.here hx rfl (hb hby at_392) rfl (l' := (fL17 q0 q1 q2 p3 q4 x1 q0 q1 q2 x2 x3 x4 x5 x6 x7 x8 x9 x10 b11 b13 x54_s0)) rfl ?_; exact k) ?_
                                      refine go (fun _ k => by refine XS.goto X36.here hx rfl (pc0 := 394) (pc' := 535) rfl (hb hby at_394) (by decide) (by decide) ?_; exact k) ?_
                                      exact J71 x54_s0 (by subst qx54_s0; rw [if_neg hc258_37, if_neg hc282_40, if_neg hc306_43, if_neg hc330_46, if_neg hc354_49, if_pos hc377_52])
                                    by_cases hc384_53 : x4 = x10
                                    · refine go (fun _ k => by refine XS.icmpNo X36.here hx rfl (hb hby at_384) rfl (teq hc384_53).2 ?_; exact k) ?_
                                      show OwnEnd _ _ _ _ _ _ _ (T36.setTop (mkF m 387 (fL16 q0 q1 q2 p3 q4 x1 q0 q1 q2 x2 x3 x4 x5 x6 x7 x8 x9 x10 b11 b13) []))
                                      refine go (fun _ k => by refine XS.iconst X36.here hx rfl (hb hby at_387) ?_; exact k) ?_
                                      refine go (fun _ k => by refine XS.goto X36.here hx rfl (pc0 := 388) (pc' := 392) rfl (hb hby at_388) (by decide) (by decide) ?_; exact k) ?_
                                      exact J54 (1 : Int32) (by rw [if_pos hc384_53])
                                    · refine go (fun _ k => by refine XS.icmpYes X36.here hx rfl (pc0 := 384) (pc' := 391) rfl (hb hby at_384) rfl (feq hc384_53).2 (by decide) (by decide) ?_; exact k) ?_
                                      show OwnEnd _ _ _ _ _ _ _ (T36.setTop (mkF m 391 (fL16 q0 q1 q2 p3 q4 x1 q0 q1 q2 x2 x3 x4 x5 x6 x7 x8 x9 x10 b11 b13) []))
                                      refine go (fun _ k => by refine XS.iconst X36.here hx rfl (hb hby at_391) ?_; exact k) ?_
                                      exact J54 (0 : Int32) (by rw [if_neg hc384_53])
                                  · refine go (fun _ k => by refine XS.icmpYes X36.here hx rfl (pc0 := 377) (pc' := 397) rfl (hb hby at_377) rfl (feq hc377_52).2 (by decide) (by decide) ?_; exact k) ?_
                                    show OwnEnd _ _ _ _ _ _ _ (T36.setTop (mkF m 397 (fL16 q0 q1 q2 p3 q4 x1 q0 q1 q2 x2 x3 x4 x5 x6 x7 x8 x9 x10 b11 b13) []))
                                    refine go (fun _ k => by refine XS.iload X36.here hx rfl (hb hby at_397) rfl ?_; exact k) ?_
                                    refine go (fun _ k => by refine XS.bipush X36.here hx rfl (hb hby at_399) ?_; exact k) ?_
                                    show OwnEnd _ _ _ _ _ _ _ (T36.setTop (mkF m 401 (fL16 q0 q1 q2 p3 q4 x1 q0 q1 q2 x2 x3 x4 x5 x6 x7 x8 x9 x10 b11 b13) [(.int (6 : Int32)), (.int x1)]))
                                    by_cases hc401_55 : x1 = (6 : Int32)
                                    · refine go (fun _ k => by refine XS.icmpNo X36.here hx rfl (hb hby at_401) rfl (teq hc401_55).2 ?_; exact k) ?_
                                      show OwnEnd _ _ _ _ _ _ _ (T36.setTop (mkF m 404 (fL16 q0 q1 q2 p3 q4 x1 q0 q1 q2 x2 x3 x4 x5 x6 x7 x8 x9 x10 b11 b13) []))
                                      refine go (fun _ k => by refine XS.iload X36.here hx rfl (hb hby at_404) rfl ?_; exact k) ?_
                                      refine go (fun _ k => by refine XS.iload X36.here hx rfl (hb hby at_406) rfl ?_; exact k) ?_
                                      show OwnEnd _ _ _ _ _ _ _ (T36.setTop (mkF m 408 (fL16 q0 q1 q2 p3 q4 x1 q0 q1 q2 x2 x3 x4 x5 x6 x7 x8 x9 x10 b11 b13) [(.int x10), (.int x5)]))
                                      have J57 : ∀ (x57_s0 : Int32) (qx57_s0 : x57_s0 = (if x5 = x10 then (1 : Int32) else (0 : Int32))), OwnEnd p e below s (Q_rm_law Z q0 q1 q2 p3 q4 caJ ccJ h0 n0) 16 128 (T36.setTop (mkF m 416 (fL16 q0 q1 q2 p3 q4 x1 q0 q1 q2 x2 x3 x4 x5 x6 x7 x8 x9 x10 b11 b13) [(.int x57_s0)])) := by
                                        intro x57_s0 qx57_s0
                                        show OwnEnd _ _ _ _ _ _ _ (T36.setTop (mkF m 416 (fL16 q0 q1 q2 p3 q4 x1 q0 q1 q2 x2 x3 x4 x5 x6 x7 x8 x9 x10 b11 b13) [(.int x57_s0)]))
                                        refine go (fun _ k => by refine XS.istore X36.here hx rfl (hb hby at_416) rfl (l' := (fL17 q0 q1 q2 p3 q4 x1 q0 q1 q2 x2 x3 x4 x5 x6 x7 x8 x9 x10 b11 b13 x57_s0)) rfl ?_; exact k) ?_
                                        refine go (fun _ k => by refine XS.goto X36.here hx rfl (pc0 := 418) (pc' := 535) rfl (hb hby at_418) (by decide) (by decide) ?_; exact k) ?_
                                        exact J71 x57_s0 (by subst qx57_s0; rw [if_neg hc258_37, if_neg hc282_40, if_neg hc306_43, if_neg hc330_46, if_neg hc354_49, if_neg hc377_52, if_pos hc401_55])
                                      by_cases hc408_56 : x5 = x10
                                      · refine go (fun _ k => by refine XS.icmpNo X36.here hx rfl (hb hby at_408) rfl (teq hc408_56).2 ?_; exact k) ?_
                                        show OwnEnd _ _ _ _ _ _ _ (T36.setTop (mkF m 411 (fL16 q0 q1 q2 p3 q4 x1 q0 q1 q2 x2 x3 x4 x5 x6 x7 x8 x9 x10 b11 b13) []))
                                        refine go (fun _ k => by refine XS.iconst X36.here hx rfl (hb hby at_411) ?_; exact k) ?_
                                        refine go (fun _ k => by refine XS.goto X36.here hx rfl (pc0 := 412) (pc' := 416) rfl (hb hby at_412) (by decide) (by decide) ?_; exact k) ?_
                                        exact J57 (1 : Int32) (by rw [if_pos hc408_56])
                                      · refine go (fun _ k => by refine XS.icmpYes X36.here hx rfl (pc0 := 408) (pc' := 415) rfl (hb hby at_408) rfl (feq hc408_56).2 (by decide) (by decide) ?_; exact k) ?_
                                        show OwnEnd _ _ _ _ _ _ _ (T36.setTop (mkF m 415 (fL16 q0 q1 q2 p3 q4 x1 q0 q1 q2 x2 x3 x4 x5 x6 x7 x8 x9 x10 b11 b13) []))
                                        refine go (fun _ k => by refine XS.iconst X36.here hx rfl (hb hby at_415) ?_; exact k) ?_
                                        exact J57 (0 : Int32) (by rw [if_neg hc408_56])
                                    · refine go (fun _ k => by refine XS.icmpYes X36.here hx rfl (pc0 := 401) (pc' := 421) rfl (hb hby at_401) rfl (feq hc401_55).2 (by decide) (by decide) ?_; exact k) ?_
                                      show OwnEnd _ _ _ _ _ _ _ (T36.setTop (mkF m 421 (fL16 q0 q1 q2 p3 q4 x1 q0 q1 q2 x2 x3 x4 x5 x6 x7 x8 x9 x10 b11 b13) []))
                                      refine go (fun _ k => by refine XS.iload X36.here hx rfl (hb hby at_421) rfl ?_; exact k) ?_
                                      refine go (fun _ k => by refine XS.bipush X36.here hx rfl (hb hby at_423) ?_; exact k) ?_
                                      show OwnEnd _ _ _ _ _ _ _ (T36.setTop (mkF m 425 (fL16 q0 q1 q2 p3 q4 x1 q0 q1 q2 x2 x3 x4 x5 x6 x7 x8 x9 x10 b11 b13) [(.int (7 : Int32)), (.int x1)]))
                                      by_cases hc425_58 : x1 = (7 : Int32)
                                      · refine go (fun _ k => by refine XS.icmpNo X36.here hx rfl (hb hby at_425) rfl (teq hc425_58).2 ?_; exact k) ?_
                                        show OwnEnd _ _ _ _ _ _ _ (T36.setTop (mkF m 428 (fL16 q0 q1 q2 p3 q4 x1 q0 q1 q2 x2 x3 x4 x5 x6 x7 x8 x9 x10 b11 b13) []))
                                        refine go (fun _ k => by refine XS.lload X36.here hx rfl (hb hby at_428) rfl ?_; exact k) ?_
                                        refine go (fun _ k => by refine XS.lload X36.here hx rfl (hb hby at_430) rfl ?_; exact k) ?_
                                        refine go (fun _ k => by refine XS.lcmp X36.here hx rfl (hb hby at_432) rfl ?_; exact k) ?_
                                        show OwnEnd _ _ _ _ _ _ _ (T36.setTop (mkF m 433 (fL16 q0 q1 q2 p3 q4 x1 q0 q1 q2 x2 x3 x4 x5 x6 x7 x8 x9 x10 b11 b13) [(.int (lcmpW x6 q4))]))
                                        have J60 : ∀ (x60_s0 : Int32) (qx60_s0 : x60_s0 = (if x6 = q4 then (1 : Int32) else (0 : Int32))), OwnEnd p e below s (Q_rm_law Z q0 q1 q2 p3 q4 caJ ccJ h0 n0) 16 128 (T36.setTop (mkF m 441 (fL16 q0 q1 q2 p3 q4 x1 q0 q1 q2 x2 x3 x4 x5 x6 x7 x8 x9 x10 b11 b13) [(.int x60_s0)])) := by
                                          intro x60_s0 qx60_s0
                                          show OwnEnd _ _ _ _ _ _ _ (T36.setTop (mkF m 441 (fL16 q0 q1 q2 p3 q4 x1 q0 q1 q2 x2 x3 x4 x5 x6 x7 x8 x9 x10 b11 b13) [(.int x60_s0)]))
                                          refine go (fun _ k => by refine XS.istore X36.here hx rfl (hb hby at_441) rfl (l' := (fL17 q0 q1 q2 p3 q4 x1 q0 q1 q2 x2 x3 x4 x5 x6 x7 x8 x9 x10 b11 b13 x60_s0)) rfl ?_; exact k) ?_
                                          refine go (fun _ k => by refine XS.goto X36.here hx rfl (pc0 := 443) (pc' := 535) rfl (hb hby at_443) (by decide) (by decide) ?_; exact k) ?_
                                          exact J71 x60_s0 (by subst qx60_s0; rw [if_neg hc258_37, if_neg hc282_40, if_neg hc306_43, if_neg hc330_46, if_neg hc354_49, if_neg hc377_52, if_neg hc401_55, if_pos hc425_58])
                                        by_cases hc433_59 : x6 = q4
                                        · refine go (fun _ k => by refine XS.ifNo X36.here hx rfl (hb hby at_433) rfl ((if0 _ _).trans (teq ((lw_eq _ _).mpr hc433_59)).2) ?_; exact k) ?_
                                          show OwnEnd _ _ _ _ _ _ _ (T36.setTop (mkF m 436 (fL16 q0 q1 q2 p3 q4 x1 q0 q1 q2 x2 x3 x4 x5 x6 x7 x8 x9 x10 b11 b13) []))
                                          refine go (fun _ k => by refine XS.iconst X36.here hx rfl (hb hby at_436) ?_; exact k) ?_
                                          refine go (fun _ k => by refine XS.goto X36.here hx rfl (pc0 := 437) (pc' := 441) rfl (hb hby at_437) (by decide) (by decide) ?_; exact k) ?_
                                          exact J60 (1 : Int32) (by rw [if_pos hc433_59])
                                        · refine go (fun _ k => by refine XS.ifYes X36.here hx rfl (pc0 := 433) (pc' := 440) rfl (hb hby at_433) rfl ((if0 _ _).trans (feq (fun q => hc433_59 ((lw_eq _ _).mp q))).2) (by decide) (by decide) ?_; exact k) ?_
                                          show OwnEnd _ _ _ _ _ _ _ (T36.setTop (mkF m 440 (fL16 q0 q1 q2 p3 q4 x1 q0 q1 q2 x2 x3 x4 x5 x6 x7 x8 x9 x10 b11 b13) []))
                                          refine go (fun _ k => by refine XS.iconst X36.here hx rfl (hb hby at_440) ?_; exact k) ?_
                                          exact J60 (0 : Int32) (by rw [if_neg hc433_59])
                                      · refine go (fun _ k => by refine XS.icmpYes X36.here hx rfl (pc0 := 425) (pc' := 446) rfl (hb hby at_425) rfl (feq hc425_58).2 (by decide) (by decide) ?_; exact k) ?_
                                        show OwnEnd _ _ _ _ _ _ _ (T36.setTop (mkF m 446 (fL16 q0 q1 q2 p3 q4 x1 q0 q1 q2 x2 x3 x4 x5 x6 x7 x8 x9 x10 b11 b13) []))
                                        refine go (fun _ k => by refine XS.iload X36.here hx rfl (hb hby at_446) rfl ?_; exact k) ?_
                                        refine go (fun _ k => by refine XS.bipush X36.here hx rfl (hb hby at_448) ?_; exact k) ?_
                                        show OwnEnd _ _ _ _ _ _ _ (T36.setTop (mkF m 450 (fL16 q0 q1 q2 p3 q4 x1 q0 q1 q2 x2 x3 x4 x5 x6 x7 x8 x9 x10 b11 b13) [(.int (8 : Int32)), (.int x1)]))
                                        by_cases hc450_61 : x1 = (8 : Int32)
                                        · refine go (fun _ k => by refine XS.icmpNo X36.here hx rfl (hb hby at_450) rfl (teq hc450_61).2 ?_; exact k) ?_
                                          show OwnEnd _ _ _ _ _ _ _ (T36.setTop (mkF m 453 (fL16 q0 q1 q2 p3 q4 x1 q0 q1 q2 x2 x3 x4 x5 x6 x7 x8 x9 x10 b11 b13) []))
                                          refine go (fun _ k => by refine XS.iload X36.here hx rfl (hb hby at_453) rfl ?_; exact k) ?_
                                          refine go (fun _ k => by refine XS.iload X36.here hx rfl (hb hby at_455) rfl ?_; exact k) ?_
                                          show OwnEnd _ _ _ _ _ _ _ (T36.setTop (mkF m 457 (fL16 q0 q1 q2 p3 q4 x1 q0 q1 q2 x2 x3 x4 x5 x6 x7 x8 x9 x10 b11 b13) [(.int x10), (.int x7)]))
                                          have J63 : ∀ (x63_s0 : Int32) (qx63_s0 : x63_s0 = (if x7 = x10 then (1 : Int32) else (0 : Int32))), OwnEnd p e below s (Q_rm_law Z q0 q1 q2 p3 q4 caJ ccJ h0 n0) 16 128 (T36.setTop (mkF m 465 (fL16 q0 q1 q2 p3 q4 x1 q0 q1 q2 x2 x3 x4 x5 x6 x7 x8 x9 x10 b11 b13) [(.int x63_s0)])) := by
                                            intro x63_s0 qx63_s0
                                            show OwnEnd _ _ _ _ _ _ _ (T36.setTop (mkF m 465 (fL16 q0 q1 q2 p3 q4 x1 q0 q1 q2 x2 x3 x4 x5 x6 x7 x8 x9 x10 b11 b13) [(.int x63_s0)]))
                                            refine go (fun _ k => by refine XS.istore X36.here hx rfl (hb hby at_465) rfl (l' := (fL17 q0 q1 q2 p3 q4 x1 q0 q1 q2 x2 x3 x4 x5 x6 x7 x8 x9 x10 b11 b13 x63_s0)) rfl ?_; exact k) ?_
                                            refine go (fun _ k => by refine XS.goto X36.here hx rfl (pc0 := 467) (pc' := 535) rfl (hb hby at_467) (by decide) (by decide) ?_; exact k) ?_
                                            exact J71 x63_s0 (by subst qx63_s0; rw [if_neg hc258_37, if_neg hc282_40, if_neg hc306_43, if_neg hc330_46, if_neg hc354_49, if_neg hc377_52, if_neg hc401_55, if_neg hc425_58, if_pos hc450_61])
                                          by_cases hc457_62 : x7 = x10
                                          · refine go (fun _ k => by refine XS.icmpNo X36.here hx rfl (hb hby at_457) rfl (teq hc457_62).2 ?_; exact k) ?_
                                            show OwnEnd _ _ _ _ _ _ _ (T36.setTop (mkF m 460 (fL16 q0 q1 q2 p3 q4 x1 q0 q1 q2 x2 x3 x4 x5 x6 x7 x8 x9 x10 b11 b13) []))
                                            refine go (fun _ k => by refine XS.iconst X36.here hx rfl (hb hby at_460) ?_; exact k) ?_
                                            refine go (fun _ k => by refine XS.goto X36.here hx rfl (pc0 := 461) (pc' := 465) rfl (hb hby at_461) (by decide) (by decide) ?_; exact k) ?_
                                            exact J63 (1 : Int32) (by rw [if_pos hc457_62])
                                          · refine go (fun _ k => by refine XS.icmpYes X36.here hx rfl (pc0 := 457) (pc' := 464) rfl (hb hby at_457) rfl (feq hc457_62).2 (by decide) (by decide) ?_; exact k) ?_
                                            show OwnEnd _ _ _ _ _ _ _ (T36.setTop (mkF m 464 (fL16 q0 q1 q2 p3 q4 x1 q0 q1 q2 x2 x3 x4 x5 x6 x7 x8 x9 x10 b11 b13) []))
                                            refine go (fun _ k => by refine XS.iconst X36.here hx rfl (hb hby at_464) ?_; exact k) ?_
                                            exact J63 (0 : Int32) (by rw [if_neg hc457_62])
                                        · refine go (fun _ k => by refine XS.icmpYes X36.here hx rfl (pc0 := 450) (pc' := 470) rfl (hb hby at_450) rfl (feq hc450_61).2 (by decide) (by decide) ?_; exact k) ?_
                                          show OwnEnd _ _ _ _ _ _ _ (T36.setTop (mkF m 470 (fL16 q0 q1 q2 p3 q4 x1 q0 q1 q2 x2 x3 x4 x5 x6 x7 x8 x9 x10 b11 b13) []))
                                          refine go (fun _ k => by refine XS.iload X36.here hx rfl (hb hby at_470) rfl ?_; exact k) ?_
                                          refine go (fun _ k => by refine XS.bipush X36.here hx rfl (hb hby at_472) ?_; exact k) ?_
                                          show OwnEnd _ _ _ _ _ _ _ (T36.setTop (mkF m 474 (fL16 q0 q1 q2 p3 q4 x1 q0 q1 q2 x2 x3 x4 x5 x6 x7 x8 x9 x10 b11 b13) [(.int (9 : Int32)), (.int x1)]))
                                          by_cases hc474_64 : x1 = (9 : Int32)
                                          · refine go (fun _ k => by refine XS.icmpNo X36.here hx rfl (hb hby at_474) rfl (teq hc474_64).2 ?_; exact k) ?_
                                            show OwnEnd _ _ _ _ _ _ _ (T36.setTop (mkF m 477 (fL16 q0 q1 q2 p3 q4 x1 q0 q1 q2 x2 x3 x4 x5 x6 x7 x8 x9 x10 b11 b13) []))
                                            refine go (fun _ k => by refine XS.iload X36.here hx rfl (hb hby at_477) rfl ?_; exact k) ?_
                                            refine go (fun _ k => by refine XS.iload X36.here hx rfl (hb hby at_479) rfl ?_; exact k) ?_
                                            show OwnEnd _ _ _ _ _ _ _ (T36.setTop (mkF m 481 (fL16 q0 q1 q2 p3 q4 x1 q0 q1 q2 x2 x3 x4 x5 x6 x7 x8 x9 x10 b11 b13) [(.int x10), (.int x8)]))
                                            have J66 : ∀ (x66_s0 : Int32) (qx66_s0 : x66_s0 = (if x8 = x10 then (1 : Int32) else (0 : Int32))), OwnEnd p e below s (Q_rm_law Z q0 q1 q2 p3 q4 caJ ccJ h0 n0) 16 128 (T36.setTop (mkF m 489 (fL16 q0 q1 q2 p3 q4 x1 q0 q1 q2 x2 x3 x4 x5 x6 x7 x8 x9 x10 b11 b13) [(.int x66_s0)])) := by
                                              intro x66_s0 qx66_s0
                                              show OwnEnd _ _ _ _ _ _ _ (T36.setTop (mkF m 489 (fL16 q0 q1 q2 p3 q4 x1 q0 q1 q2 x2 x3 x4 x5 x6 x7 x8 x9 x10 b11 b13) [(.int x66_s0)]))
                                              refine go (fun _ k => by refine XS.istore X36.here hx rfl (hb hby at_489) rfl (l' := (fL17 q0 q1 q2 p3 q4 x1 q0 q1 q2 x2 x3 x4 x5 x6 x7 x8 x9 x10 b11 b13 x66_s0)) rfl ?_; exact k) ?_
                                              refine go (fun _ k => by refine XS.goto X36.here hx rfl (pc0 := 491) (pc' := 535) rfl (hb hby at_491) (by decide) (by decide) ?_; exact k) ?_
                                              exact J71 x66_s0 (by subst qx66_s0; rw [if_neg hc258_37, if_neg hc282_40, if_neg hc306_43, if_neg hc330_46, if_neg hc354_49, if_neg hc377_52, if_neg hc401_55, if_neg hc425_58, if_neg hc450_61, if_pos hc474_64])
                                            by_cases hc481_65 : x8 = x10
                                            · refine go (fun _ k => by refine XS.icmpNo X36.here hx rfl (hb hby at_481) rfl (teq hc481_65).2 ?_; exact k) ?_
                                              show OwnEnd _ _ _ _ _ _ _ (T36.setTop (mkF m 484 (fL16 q0 q1 q2 p3 q4 x1 q0 q1 q2 x2 x3 x4 x5 x6 x7 x8 x9 x10 b11 b13) []))
                                              refine go (fun _ k => by refine XS.iconst X36.here hx rfl (hb hby at_484) ?_; exact k) ?_
                                              refine go (fun _ k => by refine XS.goto X36.here hx rfl (pc0 := 485) (pc' := 489) rfl (hb hby at_485) (by decide) (by decide) ?_; exact k) ?_
                                              exact J66 (1 : Int32) (by rw [if_pos hc481_65])
                                            · refine go (fun _ k => by refine XS.icmpYes X36.here hx rfl (pc0 := 481) (pc' := 488) rfl (hb hby at_481) rfl (feq hc481_65).2 (by decide) (by decide) ?_; exact k) ?_
                                              show OwnEnd _ _ _ _ _ _ _ (T36.setTop (mkF m 488 (fL16 q0 q1 q2 p3 q4 x1 q0 q1 q2 x2 x3 x4 x5 x6 x7 x8 x9 x10 b11 b13) []))
                                              refine go (fun _ k => by refine XS.iconst X36.here hx rfl (hb hby at_488) ?_; exact k) ?_
                                              exact J66 (0 : Int32) (by rw [if_neg hc481_65])
                                          · refine go (fun _ k => by refine XS.icmpYes X36.here hx rfl (pc0 := 474) (pc' := 494) rfl (hb hby at_474) rfl (feq hc474_64).2 (by decide) (by decide) ?_; exact k) ?_
                                            show OwnEnd _ _ _ _ _ _ _ (T36.setTop (mkF m 494 (fL16 q0 q1 q2 p3 q4 x1 q0 q1 q2 x2 x3 x4 x5 x6 x7 x8 x9 x10 b11 b13) []))
                                            refine go (fun _ k => by refine XS.iload X36.here hx rfl (hb hby at_494) rfl ?_; exact k) ?_
                                            refine go (fun _ k => by refine XS.bipush X36.here hx rfl (hb hby at_496) ?_; exact k) ?_
                                            show OwnEnd _ _ _ _ _ _ _ (T36.setTop (mkF m 498 (fL16 q0 q1 q2 p3 q4 x1 q0 q1 q2 x2 x3 x4 x5 x6 x7 x8 x9 x10 b11 b13) [(.int (10 : Int32)), (.int x1)]))
                                            by_cases hc498_67 : x1 = (10 : Int32)
                                            · refine go (fun _ k => by refine XS.icmpNo X36.here hx rfl (hb hby at_498) rfl (teq hc498_67).2 ?_; exact k) ?_
                                              show OwnEnd _ _ _ _ _ _ _ (T36.setTop (mkF m 501 (fL16 q0 q1 q2 p3 q4 x1 q0 q1 q2 x2 x3 x4 x5 x6 x7 x8 x9 x10 b11 b13) []))
                                              refine go (fun _ k => by refine XS.lload X36.here hx rfl (hb hby at_501) rfl ?_; exact k) ?_
                                              refine go (fun _ k => by refine XS.lload X36.here hx rfl (hb hby at_503) rfl ?_; exact k) ?_
                                              refine go (fun _ k => by refine XS.lcmp X36.here hx rfl (hb hby at_505) rfl ?_; exact k) ?_
                                              show OwnEnd _ _ _ _ _ _ _ (T36.setTop (mkF m 506 (fL16 q0 q1 q2 p3 q4 x1 q0 q1 q2 x2 x3 x4 x5 x6 x7 x8 x9 x10 b11 b13) [(.int (lcmpW x9 q4))]))
                                              have J69 : ∀ (x69_s0 : Int32) (qx69_s0 : x69_s0 = (if x9 = q4 then (1 : Int32) else (0 : Int32))), OwnEnd p e below s (Q_rm_law Z q0 q1 q2 p3 q4 caJ ccJ h0 n0) 16 128 (T36.setTop (mkF m 514 (fL16 q0 q1 q2 p3 q4 x1 q0 q1 q2 x2 x3 x4 x5 x6 x7 x8 x9 x10 b11 b13) [(.int x69_s0)])) := by
                                                intro x69_s0 qx69_s0
                                                show OwnEnd _ _ _ _ _ _ _ (T36.setTop (mkF m 514 (fL16 q0 q1 q2 p3 q4 x1 q0 q1 q2 x2 x3 x4 x5 x6 x7 x8 x9 x10 b11 b13) [(.int x69_s0)]))
                                                refine go (fun _ k => by refine XS.istore X36.here hx rfl (hb hby at_514) rfl (l' := (fL17 q0 q1 q2 p3 q4 x1 q0 q1 q2 x2 x3 x4 x5 x6 x7 x8 x9 x10 b11 b13 x69_s0)) rfl ?_; exact k) ?_
                                                refine go (fun _ k => by refine XS.goto X36.here hx rfl (pc0 := 516) (pc' := 535) rfl (hb hby at_516) (by decide) (by decide) ?_; exact k) ?_
                                                exact J71 x69_s0 (by subst qx69_s0; rw [if_neg hc258_37, if_neg hc282_40, if_neg hc306_43, if_neg hc330_46, if_neg hc354_49, if_neg hc377_52, if_neg hc401_55, if_neg hc425_58, if_neg hc450_61, if_neg hc474_64, if_pos hc498_67])
                                              by_cases hc506_68 : x9 = q4
                                              · refine go (fun _ k => by refine XS.ifNo X36.here hx rfl (hb hby at_506) rfl ((if0 _ _).trans (teq ((lw_eq _ _).mpr hc506_68)).2) ?_; exact k) ?_
                                                show OwnEnd _ _ _ _ _ _ _ (T36.setTop (mkF m 509 (fL16 q0 q1 q2 p3 q4 x1 q0 q1 q2 x2 x3 x4 x5 x6 x7 x8 x9 x10 b11 b13) []))
                                                refine go (fun _ k => by refine XS.iconst X36.here hx rfl (hb hby at_509) ?_; exact k) ?_
                                                refine go (fun _ k => by refine XS.goto X36.here hx rfl (pc0 := 510) (pc' := 514) rfl (hb hby at_510) (by decide) (by decide) ?_; exact k) ?_
                                                exact J69 (1 : Int32) (by rw [if_pos hc506_68])
                                              · refine go (fun _ k => by refine XS.ifYes X36.here hx rfl (pc0 := 506) (pc' := 513) rfl (hb hby at_506) rfl ((if0 _ _).trans (feq (fun q => hc506_68 ((lw_eq _ _).mp q))).2) (by decide) (by decide) ?_; exact k) ?_
                                                show OwnEnd _ _ _ _ _ _ _ (T36.setTop (mkF m 513 (fL16 q0 q1 q2 p3 q4 x1 q0 q1 q2 x2 x3 x4 x5 x6 x7 x8 x9 x10 b11 b13) []))
                                                refine go (fun _ k => by refine XS.iconst X36.here hx rfl (hb hby at_513) ?_; exact k) ?_
                                                exact J69 (0 : Int32) (by rw [if_neg hc506_68])
                                            · refine go (fun _ k => by refine XS.icmpYes X36.here hx rfl (pc0 := 498) (pc' := 519) rfl (hb hby at_498) rfl (feq hc498_67).2 (by decide) (by decide) ?_; exact k) ?_
                                              show OwnEnd _ _ _ _ _ _ _ (T36.setTop (mkF m 519 (fL16 q0 q1 q2 p3 q4 x1 q0 q1 q2 x2 x3 x4 x5 x6 x7 x8 x9 x10 b11 b13) []))
                                              refine go (fun _ k => by refine XS.iload X36.here hx rfl (hb hby at_519) rfl ?_; exact k) ?_
                                              refine go (fun _ k => by refine XS.bipush X36.here hx rfl (hb hby at_521) ?_; exact k) ?_
                                              show OwnEnd _ _ _ _ _ _ _ (T36.setTop (mkF m 523 (fL16 q0 q1 q2 p3 q4 x1 q0 q1 q2 x2 x3 x4 x5 x6 x7 x8 x9 x10 b11 b13) [(.int (11 : Int32)), (.int x1)]))
                                              by_cases hc523_70 : x1 = (11 : Int32)
                                              · refine go (fun _ k => by refine XS.icmpNo X36.here hx rfl (hb hby at_523) rfl (teq hc523_70).2 ?_; exact k) ?_
                                                show OwnEnd _ _ _ _ _ _ _ (T36.setTop (mkF m 526 (fL16 q0 q1 q2 p3 q4 x1 q0 q1 q2 x2 x3 x4 x5 x6 x7 x8 x9 x10 b11 b13) []))
                                                refine go (fun _ k => by refine XS.iconst X36.here hx rfl (hb hby at_526) ?_; exact k) ?_
                                                refine go (fun _ k => by refine XS.istore X36.here hx rfl (hb hby at_527) rfl (l' := (fL17 q0 q1 q2 p3 q4 x1 q0 q1 q2 x2 x3 x4 x5 x6 x7 x8 x9 x10 b11 b13 (1 : Int32))) rfl ?_; exact k) ?_
                                                refine go (fun _ k => by refine XS.goto X36.here hx rfl (pc0 := 529) (pc' := 535) rfl (hb hby at_529) (by decide) (by decide) ?_; exact k) ?_
                                                exact J71 (1 : Int32) (by rw [if_neg hc258_37, if_neg hc282_40, if_neg hc306_43, if_neg hc330_46, if_neg hc354_49, if_neg hc377_52, if_neg hc401_55, if_neg hc425_58, if_neg hc450_61, if_neg hc474_64, if_neg hc498_67, if_pos hc523_70])
                                              · refine go (fun _ k => by refine XS.icmpYes X36.here hx rfl (pc0 := 523) (pc' := 532) rfl (hb hby at_523) rfl (feq hc523_70).2 (by decide) (by decide) ?_; exact k) ?_
                                                show OwnEnd _ _ _ _ _ _ _ (T36.setTop (mkF m 532 (fL16 q0 q1 q2 p3 q4 x1 q0 q1 q2 x2 x3 x4 x5 x6 x7 x8 x9 x10 b11 b13) []))
                                                refine go (fun _ k => by refine XS.iconst X36.here hx rfl (hb hby at_532) ?_; exact k) ?_
                                                refine go (fun _ k => by refine XS.istore X36.here hx rfl (hb hby at_533) rfl (l' := (fL17 q0 q1 q2 p3 q4 x1 q0 q1 q2 x2 x3 x4 x5 x6 x7 x8 x9 x10 b11 b13 (0 : Int32))) rfl ?_; exact k) ?_
                                                exact J71 (0 : Int32) (by rw [if_neg hc258_37, if_neg hc282_40, if_neg hc306_43, if_neg hc330_46, if_neg hc354_49, if_neg hc377_52, if_neg hc401_55, if_neg hc425_58, if_neg hc450_61, if_neg hc474_64, if_neg hc498_67, if_neg hc523_70])
                      by_cases hc241_34 : x1 = (10 : Int32)
                      · refine go (fun _ k => by refine XS.icmpNo X13.here hx rfl (hb hby at_241) rfl (teq hc241_34).2 ?_; exact k) ?_
                        show OwnEnd _ _ _ _ _ _ _ (T13.setTop (mkF m 244 (fL15 q0 q1 q2 p3 q4 x1 q0 q1 q2 x2 x3 x4 x5 x6 x7 x8 x9 x10 b11) [(.int x33_s0), (.int x31_s0), (.long x29_s0), (.int x27_s0), (.int x25_s0), (.int x23_s0), (.long x21_s0), (.long x19_s0), (.long x17_s0), (.long x15_s0), (.ref b13), (.ref b13)]))
                        refine go (fun _ k => by refine XS.lload X13.here hx rfl (hb hby at_244) rfl ?_; exact k) ?_
                        refine go (fun _ k => by refine XS.goto X13.here hx rfl (pc0 := 246) (pc' := 251) rfl (hb hby at_246) (by decide) (by decide) ?_; exact k) ?_
                        exact J35 q4 (by rw [if_pos hc241_34])
                      · refine go (fun _ k => by refine XS.icmpYes X13.here hx rfl (pc0 := 241) (pc' := 249) rfl (hb hby at_241) rfl (feq hc241_34).2 (by decide) (by decide) ?_; exact k) ?_
                        show OwnEnd _ _ _ _ _ _ _ (T13.setTop (mkF m 249 (fL15 q0 q1 q2 p3 q4 x1 q0 q1 q2 x2 x3 x4 x5 x6 x7 x8 x9 x10 b11) [(.int x33_s0), (.int x31_s0), (.long x29_s0), (.int x27_s0), (.int x25_s0), (.int x23_s0), (.long x21_s0), (.long x19_s0), (.long x17_s0), (.long x15_s0), (.ref b13), (.ref b13)]))
                        refine go (fun _ k => by refine XS.lload X13.here hx rfl (hb hby at_249) rfl ?_; exact k) ?_
                        exact J35 x9 (by rw [if_neg hc241_34])
                    by_cases hc227_32 : x1 = (9 : Int32)
                    · refine go (fun _ k => by refine XS.icmpNo X13.here hx rfl (hb hby at_227) rfl (teq hc227_32).2 ?_; exact k) ?_
                      show OwnEnd _ _ _ _ _ _ _ (T13.setTop (mkF m 230 (fL15 q0 q1 q2 p3 q4 x1 q0 q1 q2 x2 x3 x4 x5 x6 x7 x8 x9 x10 b11) [(.int x31_s0), (.long x29_s0), (.int x27_s0), (.int x25_s0), (.int x23_s0), (.long x21_s0), (.long x19_s0), (.long x17_s0), (.long x15_s0), (.ref b13), (.ref b13)]))
                      refine go (fun _ k => by refine XS.iload X13.here hx rfl (hb hby at_230) rfl ?_; exact k) ?_
                      refine go (fun _ k => by refine XS.goto X13.here hx rfl (pc0 := 232) (pc' := 237) rfl (hb hby at_232) (by decide) (by decide) ?_; exact k) ?_
                      exact J33 x10 (by rw [if_pos hc227_32])
                    · refine go (fun _ k => by refine XS.icmpYes X13.here hx rfl (pc0 := 227) (pc' := 235) rfl (hb hby at_227) rfl (feq hc227_32).2 (by decide) (by decide) ?_; exact k) ?_
                      show OwnEnd _ _ _ _ _ _ _ (T13.setTop (mkF m 235 (fL15 q0 q1 q2 p3 q4 x1 q0 q1 q2 x2 x3 x4 x5 x6 x7 x8 x9 x10 b11) [(.int x31_s0), (.long x29_s0), (.int x27_s0), (.int x25_s0), (.int x23_s0), (.long x21_s0), (.long x19_s0), (.long x17_s0), (.long x15_s0), (.ref b13), (.ref b13)]))
                      refine go (fun _ k => by refine XS.iload X13.here hx rfl (hb hby at_235) rfl ?_; exact k) ?_
                      exact J33 x8 (by rw [if_neg hc227_32])
                  by_cases hc213_30 : x1 = (8 : Int32)
                  · refine go (fun _ k => by refine XS.icmpNo X13.here hx rfl (hb hby at_213) rfl (teq hc213_30).2 ?_; exact k) ?_
                    show OwnEnd _ _ _ _ _ _ _ (T13.setTop (mkF m 216 (fL15 q0 q1 q2 p3 q4 x1 q0 q1 q2 x2 x3 x4 x5 x6 x7 x8 x9 x10 b11) [(.long x29_s0), (.int x27_s0), (.int x25_s0), (.int x23_s0), (.long x21_s0), (.long x19_s0), (.long x17_s0), (.long x15_s0), (.ref b13), (.ref b13)]))
                    refine go (fun _ k => by refine XS.iload X13.here hx rfl (hb hby at_216) rfl ?_; exact k) ?_
                    refine go (fun _ k => by refine XS.goto X13.here hx rfl (pc0 := 218) (pc' := 223) rfl (hb hby at_218) (by decide) (by decide) ?_; exact k) ?_
                    exact J31 x10 (by rw [if_pos hc213_30])
                  · refine go (fun _ k => by refine XS.icmpYes X13.here hx rfl (pc0 := 213) (pc' := 221) rfl (hb hby at_213) rfl (feq hc213_30).2 (by decide) (by decide) ?_; exact k) ?_
                    show OwnEnd _ _ _ _ _ _ _ (T13.setTop (mkF m 221 (fL15 q0 q1 q2 p3 q4 x1 q0 q1 q2 x2 x3 x4 x5 x6 x7 x8 x9 x10 b11) [(.long x29_s0), (.int x27_s0), (.int x25_s0), (.int x23_s0), (.long x21_s0), (.long x19_s0), (.long x17_s0), (.long x15_s0), (.ref b13), (.ref b13)]))
                    refine go (fun _ k => by refine XS.iload X13.here hx rfl (hb hby at_221) rfl ?_; exact k) ?_
                    exact J31 x7 (by rw [if_neg hc213_30])
                by_cases hc199_28 : x1 = (7 : Int32)
                · refine go (fun _ k => by refine XS.icmpNo X13.here hx rfl (hb hby at_199) rfl (teq hc199_28).2 ?_; exact k) ?_
                  show OwnEnd _ _ _ _ _ _ _ (T13.setTop (mkF m 202 (fL15 q0 q1 q2 p3 q4 x1 q0 q1 q2 x2 x3 x4 x5 x6 x7 x8 x9 x10 b11) [(.int x27_s0), (.int x25_s0), (.int x23_s0), (.long x21_s0), (.long x19_s0), (.long x17_s0), (.long x15_s0), (.ref b13), (.ref b13)]))
                  refine go (fun _ k => by refine XS.lload X13.here hx rfl (hb hby at_202) rfl ?_; exact k) ?_
                  refine go (fun _ k => by refine XS.goto X13.here hx rfl (pc0 := 204) (pc' := 209) rfl (hb hby at_204) (by decide) (by decide) ?_; exact k) ?_
                  exact J29 q4 (by rw [if_pos hc199_28])
                · refine go (fun _ k => by refine XS.icmpYes X13.here hx rfl (pc0 := 199) (pc' := 207) rfl (hb hby at_199) rfl (feq hc199_28).2 (by decide) (by decide) ?_; exact k) ?_
                  show OwnEnd _ _ _ _ _ _ _ (T13.setTop (mkF m 207 (fL15 q0 q1 q2 p3 q4 x1 q0 q1 q2 x2 x3 x4 x5 x6 x7 x8 x9 x10 b11) [(.int x27_s0), (.int x25_s0), (.int x23_s0), (.long x21_s0), (.long x19_s0), (.long x17_s0), (.long x15_s0), (.ref b13), (.ref b13)]))
                  refine go (fun _ k => by refine XS.lload X13.here hx rfl (hb hby at_207) rfl ?_; exact k) ?_
                  exact J29 x6 (by rw [if_neg hc199_28])
              by_cases hc185_26 : x1 = (6 : Int32)
              · refine go (fun _ k => by refine XS.icmpNo X13.here hx rfl (hb hby at_185) rfl (teq hc185_26).2 ?_; exact k) ?_
                show OwnEnd _ _ _ _ _ _ _ (T13.setTop (mkF m 188 (fL15 q0 q1 q2 p3 q4 x1 q0 q1 q2 x2 x3 x4 x5 x6 x7 x8 x9 x10 b11) [(.int x25_s0), (.int x23_s0), (.long x21_s0), (.long x19_s0), (.long x17_s0), (.long x15_s0), (.ref b13), (.ref b13)]))
                refine go (fun _ k => by refine XS.iload X13.here hx rfl (hb hby at_188) rfl ?_; exact k) ?_
                refine go (fun _ k => by refine XS.goto X13.here hx rfl (pc0 := 190) (pc' := 195) rfl (hb hby at_190) (by decide) (by decide) ?_; exact k) ?_
                exact J27 x10 (by rw [if_pos hc185_26])
              · refine go (fun _ k => by refine XS.icmpYes X13.here hx rfl (pc0 := 185) (pc' := 193) rfl (hb hby at_185) rfl (feq hc185_26).2 (by decide) (by decide) ?_; exact k) ?_
                show OwnEnd _ _ _ _ _ _ _ (T13.setTop (mkF m 193 (fL15 q0 q1 q2 p3 q4 x1 q0 q1 q2 x2 x3 x4 x5 x6 x7 x8 x9 x10 b11) [(.int x25_s0), (.int x23_s0), (.long x21_s0), (.long x19_s0), (.long x17_s0), (.long x15_s0), (.ref b13), (.ref b13)]))
                refine go (fun _ k => by refine XS.iload X13.here hx rfl (hb hby at_193) rfl ?_; exact k) ?_
                exact J27 x5 (by rw [if_neg hc185_26])
            by_cases hc171_24 : x1 = (5 : Int32)
            · refine go (fun _ k => by refine XS.icmpNo X13.here hx rfl (hb hby at_171) rfl (teq hc171_24).2 ?_; exact k) ?_
              show OwnEnd _ _ _ _ _ _ _ (T13.setTop (mkF m 174 (fL15 q0 q1 q2 p3 q4 x1 q0 q1 q2 x2 x3 x4 x5 x6 x7 x8 x9 x10 b11) [(.int x23_s0), (.long x21_s0), (.long x19_s0), (.long x17_s0), (.long x15_s0), (.ref b13), (.ref b13)]))
              refine go (fun _ k => by refine XS.iload X13.here hx rfl (hb hby at_174) rfl ?_; exact k) ?_
              refine go (fun _ k => by refine XS.goto X13.here hx rfl (pc0 := 176) (pc' := 181) rfl (hb hby at_176) (by decide) (by decide) ?_; exact k) ?_
              exact J25 x10 (by rw [if_pos hc171_24])
            · refine go (fun _ k => by refine XS.icmpYes X13.here hx rfl (pc0 := 171) (pc' := 179) rfl (hb hby at_171) rfl (feq hc171_24).2 (by decide) (by decide) ?_; exact k) ?_
              show OwnEnd _ _ _ _ _ _ _ (T13.setTop (mkF m 179 (fL15 q0 q1 q2 p3 q4 x1 q0 q1 q2 x2 x3 x4 x5 x6 x7 x8 x9 x10 b11) [(.int x23_s0), (.long x21_s0), (.long x19_s0), (.long x17_s0), (.long x15_s0), (.ref b13), (.ref b13)]))
              refine go (fun _ k => by refine XS.iload X13.here hx rfl (hb hby at_179) rfl ?_; exact k) ?_
              exact J25 x4 (by rw [if_neg hc171_24])
          by_cases hc158_22 : x1 = (4 : Int32)
          · refine go (fun _ k => by refine XS.icmpNo X13.here hx rfl (hb hby at_158) rfl (teq hc158_22).2 ?_; exact k) ?_
            show OwnEnd _ _ _ _ _ _ _ (T13.setTop (mkF m 161 (fL15 q0 q1 q2 p3 q4 x1 q0 q1 q2 x2 x3 x4 x5 x6 x7 x8 x9 x10 b11) [(.long x21_s0), (.long x19_s0), (.long x17_s0), (.long x15_s0), (.ref b13), (.ref b13)]))
            refine go (fun _ k => by refine XS.iload X13.here hx rfl (hb hby at_161) rfl ?_; exact k) ?_
            refine go (fun _ k => by refine XS.goto X13.here hx rfl (pc0 := 163) (pc' := 168) rfl (hb hby at_163) (by decide) (by decide) ?_; exact k) ?_
            exact J23 x10 (by rw [if_pos hc158_22])
          · refine go (fun _ k => by refine XS.icmpYes X13.here hx rfl (pc0 := 158) (pc' := 166) rfl (hb hby at_158) rfl (feq hc158_22).2 (by decide) (by decide) ?_; exact k) ?_
            show OwnEnd _ _ _ _ _ _ _ (T13.setTop (mkF m 166 (fL15 q0 q1 q2 p3 q4 x1 q0 q1 q2 x2 x3 x4 x5 x6 x7 x8 x9 x10 b11) [(.long x21_s0), (.long x19_s0), (.long x17_s0), (.long x15_s0), (.ref b13), (.ref b13)]))
            refine go (fun _ k => by refine XS.iload X13.here hx rfl (hb hby at_166) rfl ?_; exact k) ?_
            exact J23 x3 (by rw [if_neg hc158_22])
        by_cases hc145_20 : x1 = (3 : Int32)
        · refine go (fun _ k => by refine XS.icmpNo X13.here hx rfl (hb hby at_145) rfl (teq hc145_20).2 ?_; exact k) ?_
          show OwnEnd _ _ _ _ _ _ _ (T13.setTop (mkF m 148 (fL15 q0 q1 q2 p3 q4 x1 q0 q1 q2 x2 x3 x4 x5 x6 x7 x8 x9 x10 b11) [(.long x19_s0), (.long x17_s0), (.long x15_s0), (.ref b13), (.ref b13)]))
          refine go (fun _ k => by refine XS.lload X13.here hx rfl (hb hby at_148) rfl ?_; exact k) ?_
          refine go (fun _ k => by refine XS.goto X13.here hx rfl (pc0 := 150) (pc' := 155) rfl (hb hby at_150) (by decide) (by decide) ?_; exact k) ?_
          exact J21 q4 (by rw [if_pos hc145_20])
        · refine go (fun _ k => by refine XS.icmpYes X13.here hx rfl (pc0 := 145) (pc' := 153) rfl (hb hby at_145) rfl (feq hc145_20).2 (by decide) (by decide) ?_; exact k) ?_
          show OwnEnd _ _ _ _ _ _ _ (T13.setTop (mkF m 153 (fL15 q0 q1 q2 p3 q4 x1 q0 q1 q2 x2 x3 x4 x5 x6 x7 x8 x9 x10 b11) [(.long x19_s0), (.long x17_s0), (.long x15_s0), (.ref b13), (.ref b13)]))
          refine go (fun _ k => by refine XS.lload X13.here hx rfl (hb hby at_153) rfl ?_; exact k) ?_
          exact J21 x2 (by rw [if_neg hc145_20])
      by_cases hc132_18 : x1 = (2 : Int32)
      · refine go (fun _ k => by refine XS.icmpNo X13.here hx rfl (hb hby at_132) rfl (teq hc132_18).2 ?_; exact k) ?_
        show OwnEnd _ _ _ _ _ _ _ (T13.setTop (mkF m 135 (fL15 q0 q1 q2 p3 q4 x1 q0 q1 q2 x2 x3 x4 x5 x6 x7 x8 x9 x10 b11) [(.long x17_s0), (.long x15_s0), (.ref b13), (.ref b13)]))
        refine go (fun _ k => by refine XS.lload X13.here hx rfl (hb hby at_135) rfl ?_; exact k) ?_
        refine go (fun _ k => by refine XS.goto X13.here hx rfl (pc0 := 137) (pc' := 142) rfl (hb hby at_137) (by decide) (by decide) ?_; exact k) ?_
        exact J19 q4 (by rw [if_pos hc132_18])
      · refine go (fun _ k => by refine XS.icmpYes X13.here hx rfl (pc0 := 132) (pc' := 140) rfl (hb hby at_132) rfl (feq hc132_18).2 (by decide) (by decide) ?_; exact k) ?_
        show OwnEnd _ _ _ _ _ _ _ (T13.setTop (mkF m 140 (fL15 q0 q1 q2 p3 q4 x1 q0 q1 q2 x2 x3 x4 x5 x6 x7 x8 x9 x10 b11) [(.long x17_s0), (.long x15_s0), (.ref b13), (.ref b13)]))
        refine go (fun _ k => by refine XS.lload X13.here hx rfl (hb hby at_140) rfl ?_; exact k) ?_
        exact J19 q2 (by rw [if_neg hc132_18])
    by_cases hc119_16 : x1 = (1 : Int32)
    · refine go (fun _ k => by refine XS.icmpNo X13.here hx rfl (hb hby at_119) rfl (teq hc119_16).2 ?_; exact k) ?_
      show OwnEnd _ _ _ _ _ _ _ (T13.setTop (mkF m 122 (fL15 q0 q1 q2 p3 q4 x1 q0 q1 q2 x2 x3 x4 x5 x6 x7 x8 x9 x10 b11) [(.long x15_s0), (.ref b13), (.ref b13)]))
      refine go (fun _ k => by refine XS.lload X13.here hx rfl (hb hby at_122) rfl ?_; exact k) ?_
      refine go (fun _ k => by refine XS.goto X13.here hx rfl (pc0 := 124) (pc' := 129) rfl (hb hby at_124) (by decide) (by decide) ?_; exact k) ?_
      exact J17 q4 (by rw [if_pos hc119_16])
    · refine go (fun _ k => by refine XS.icmpYes X13.here hx rfl (pc0 := 119) (pc' := 127) rfl (hb hby at_119) rfl (feq hc119_16).2 (by decide) (by decide) ?_; exact k) ?_
      show OwnEnd _ _ _ _ _ _ _ (T13.setTop (mkF m 127 (fL15 q0 q1 q2 p3 q4 x1 q0 q1 q2 x2 x3 x4 x5 x6 x7 x8 x9 x10 b11) [(.long x15_s0), (.ref b13), (.ref b13)]))
      refine go (fun _ k => by refine XS.lload X13.here hx rfl (hb hby at_127) rfl ?_; exact k) ?_
      exact J17 q1 (by rw [if_neg hc119_16])
  by_cases hc106_14 : x1 = (0 : Int32)
  · refine go (fun _ k => by refine XS.ifNo X13.here hx rfl (hb hby at_106) rfl ((if0 _ _).trans (teq hc106_14).2) ?_; exact k) ?_
    show OwnEnd _ _ _ _ _ _ _ (T13.setTop (mkF m 109 (fL15 q0 q1 q2 p3 q4 x1 q0 q1 q2 x2 x3 x4 x5 x6 x7 x8 x9 x10 b11) [(.ref b13), (.ref b13)]))
    refine go (fun _ k => by refine XS.lload X13.here hx rfl (hb hby at_109) rfl ?_; exact k) ?_
    refine go (fun _ k => by refine XS.goto X13.here hx rfl (pc0 := 111) (pc' := 116) rfl (hb hby at_111) (by decide) (by decide) ?_; exact k) ?_
    exact J15 q4 (by rw [if_pos hc106_14])
  · refine go (fun _ k => by refine XS.ifYes X13.here hx rfl (pc0 := 106) (pc' := 114) rfl (hb hby at_106) rfl ((if0 _ _).trans (feq hc106_14).2) (by decide) (by decide) ?_; exact k) ?_
    show OwnEnd _ _ _ _ _ _ _ (T13.setTop (mkF m 114 (fL15 q0 q1 q2 p3 q4 x1 q0 q1 q2 x2 x3 x4 x5 x6 x7 x8 x9 x10 b11) [(.ref b13), (.ref b13)]))
    refine go (fun _ k => by refine XS.lload X13.here hx rfl (hb hby at_114) rfl ?_; exact k) ?_
    exact J15 q0 (by rw [if_neg hc106_14])
set_option maxRecDepth 65536 in
set_option maxHeartbeats 40000000 in
theorem comes_1 {Post : Tables → Env → Array Value → State → Outcome → State → Prop} (hpost : ∀ tb e args s v u, (limb_1_1.after args s (.returned v) u = true ∧ limb_1_2.after args s (.returned v) u = true ∧ True) → FrameEnd s (.returned v) u (Jvm.fieldLocs frame_1_writes args s ++ Jvm.arrayLocs frame_1_arrays args s ++ Jvm.staticLocs frame_1_statics s) 16 128 → Post tb e args s (.returned v) u) :
    ArmFor flags0 classFile x code maxLocals ret World_1 tables_1 room_1 Calls_1 rest_1 Pre_1 Post := by
  intro l hfl _ _ p e ha hc hk s m args below hf hA hF happ hP
  obtain ⟨hcalls, hrest, hpre⟩ := hP
  obtain ⟨-, -, -, hnamed, -, -, -, hat⟩ := (Spec.applies_iff hf).mp happ
  obtain ⟨hg, hn⟩ := and_e (Cond.before_iff.mp (show (Jvm.Cond.and given_1 narrow_1).before args s = true from hpre))
  obtain ⟨gv1, gv2⟩ := and_e hg
  obtain ⟨gv3, gv4⟩ := and_e gv2
  obtain ⟨gv5, gv6⟩ := and_e gv4
  obtain ⟨gv7, gv8⟩ := and_e gv6
  obtain ⟨gv9, gv10⟩ := and_e gv8
  obtain ⟨w0, w1, w2, w3, w4, rfl⟩ : ∃ w0 w1 w2 w3 w4 : Value, args = #[w0, w1, w2, w3, w4] := by
    have hs : args.size = 5 := by simpa [Cond.value, given_1] using gv1
    obtain ⟨L⟩ := args
    match L, hs with
    | [w0, w1, w2, w3, w4], _ => exact ⟨w0, w1, w2, w3, w4, rfl⟩
  have hw := fun d (hd : d ∈ tables_1) => atoms_spec (ws := Jvm.Cond.code x code maxLocals ret :: tables_1) hat d (List.mem_cons_of_mem _ hd)
  have hfit : Fit s := fun {y c} hc i hi => by
    obtain ⟨ha, rfl⟩ := Array.getElem?_eq_some_iff.mp hc
    have q := List.all_eq_true.mp ((Array.all_eq_true_iff_forall_mem.mp hF) _ (Array.getElem_mem ha)) i (List.mem_range.mpr hi)
    simpa [Array.getElem?_eq_getElem hi] using q
  obtain ⟨hsets, hown0⟩ := atoms_of _ (rest_1_c_eq ▸ (show rest_1_c.before _ s = true from hrest))
  have hr0 := Cond.before_iff.mp hown0
  obtain ⟨i0, ei0⟩ := isL_v gv3
  obtain rfl : w0 = (.long i0) := Option.some.inj ei0
  obtain ⟨i1, ei1⟩ := isL_v gv5
  obtain rfl : w1 = (.long i1) := Option.some.inj ei1
  obtain ⟨i2, ei2⟩ := isL_v gv7
  obtain rfl : w2 = (.long i2) := Option.some.inj ei2
  obtain ⟨i3, ei3⟩ := is_v gv9
  obtain rfl : w3 = (.int i3) := Option.some.inj ei3
  obtain ⟨i4, ei4⟩ := isL_v gv10
  obtain rfl : w4 = (.long i4) := Option.some.inj ei4
  obtain ⟨caJ, tcJ⟩ := arr_v (Cond.before_iff.mp (hsets _ (List.mem_of_getElem? (i := 2) rfl)))
  obtain ⟨ccJ, ACJ⟩ := Arr.start tcJ (Cond.before_iff.mp (hsets _ (List.mem_of_getElem? (i := 2) rfl)))
  have SCJ := Sta.start tcJ (Or.inl (hsets _ (List.mem_of_getElem? (i := 1) rfl)))
  obtain ⟨lnJ, lmJ⟩ := own_len tcJ ACJ (Cond.before_iff.mp (hsets _ (List.mem_of_getElem? (i := 4) rfl)))
  have NCJ : ccJ.slots.size = 256 := by have q := congrArg Int32.toInt lnJ; rw [len_toInt lmJ] at q; exact Int.ofNat.inj q
  have ECJ := own_all tcJ ACJ (Cond.before_iff.mp (hsets _ (List.mem_of_getElem? (i := 5) rfl))) lmJ (fun _ => tcJ)
  rw [NCJ] at ECJ
  obtain ⟨n, o, h1, h2, h3, _, L, rfl, ⟨rfl, N⟩, hq⟩ := rm_law l s _ hw tables_1 i0 i1 i2 i3 i4 caJ ccJ s.heap s.heap.size (Nat.le_refl _) (Old.start s) SCJ ACJ NCJ ECJ p e ha hc hk s m _ below hf ((Spec.applies_iff_loose hf).mp happ).1 ⟨rfl, State.Warmed39.refl s, rfl⟩ trivial
  refine ⟨n, _, h1, h2, h3, hpost _ _ _ _ _ _ ⟨Cond.after_iff.mpr rfl, Cond.after_iff.mpr (eq_i res_at (Term.int_eval (1)) rfl), trivial⟩ ⟨hq.1, hq.2.1, (hq.2.2.sift fun y hy => Or.inr (N y hy)).mono (by decide) (by decide)⟩⟩
theorem main_1_1 : Claimed_1_1 := comes_1 fun _ _ _ _ _ _ h hF => ⟨h.1, hF⟩
theorem main_1_2 : Claimed_1_2 := comes_1 fun _ _ _ _ _ _ h hF => ⟨h.2.1, hF⟩
end Jvm.Pilot.@@N@@
namespace Jvm.Pilot.@@N@@
open Jvm Jvm.ClassFile Sem Op Lib Jvm.Free Jvm.Stand Jvm.Pilot.@@N@@.Jvm.D
/-! MADE BY PROGRAM (witnessworld.py) out of the Statement's table words and the real class files: 16 classes; the members and pool entries that the words name. The judged class is class 1, her method 1. -/
namespace start1
open Jvm.ClassFile
def u (s : String) : CpInfo := .utf8 (stringToUtf16 s)
/-- a pool by its gaps: so many unusable entries, then the entry; so many at the end -/
def gap : Nat → List CpInfo → List CpInfo
  | 0, r => r
  | n + 1, r => .unusable :: gap n r
def poolList (es : List (Nat × CpInfo)) (last : Nat) : List CpInfo := es.foldr (fun e r => gap e.1 (e.2 :: r)) (gap last [])
def pool (es : List (Nat × CpInfo)) (last : Nat) : Array CpInfo := ⟨poolList es last⟩
def fileOf (pool : Array CpInfo) (this : Nat) (attrs : Array Attribute := #[]) (ms : Array MethodInfo := #[]) (fl : Nat := 33) (sup : Nat := 0) (ifs : Array Nat := #[]) (fds : Array FieldInfo := #[]) : ClassFile where
  minorVersion := 0
  majorVersion := 65
  constantPool := pool
  accessFlags := fl
  thisClass := this
  superClass := sup
  interfaces := ifs
  fields := fds
  methods := ms
  attributes := attrs
def plain (name : String) (sup : Option ClassId) : Class where
  name := name
  kind := .ordinary
  loader := none
  accessFlags := 33
  super := sup
  interfaces := #[]
  cf := none
  fields := #[]
  methods := #[]
  instanceTypes := #[]
  staticTypes := #[]
  resolved := #[]
  callSites := []
  init := .initialized
  statics := none
  mirror := none

def pool0 : Array CpInfo := pool [(5, u "<init>"), (0, u "()V"), (1, .class_ 10), (1, u "java/lang/Object")] 113

def k0c0 : Code := { maxStack := 0, maxLocals := 1, code := object_method_1_code, exceptionTable := #[], attributes := #[] }
def k0m0 : Method := { name := "<init>", desc := "()V", sig := { parameters := [], returnType := none }, accessFlags := 1, code := some k0c0 }
/-- java/lang/Object -/
def k0 : Class := { plain "java/lang/Object" none with
  accessFlags := 33
  interfaces := #[]
  cf := some (fileOf pool0 8 #[] #[{ accessFlags := 1, nameIndex := 5, descriptorIndex := 6, attributes := #[] }] 33 0 #[] #[])
  fields := #[]
  methods := #[k0m0]
  instanceTypes := #[]
  staticTypes := #[]
  resolved := Array.replicate 124 none
  statics := none }

def pool1 : Array CpInfo := pool [(2, .class_ 4), (1, u "java/lang/Object"), (0, u "<init>"), (0, u "()V"), (0, .integer 2147483647), (0, .class_ 9), (0, u "com/example/bound_quorum/boundquorum/model/Stat"), (0, .methodref 8 11), (0, .nameAndType 5 12), (0, u "(JJJJIIIJIIJ)V"), (0, .methodref 14 15), (0, .class_ 16), (0, .nameAndType 17 18), (0, u "java/lang/Long"), (0, u "valueOf"), (0, u "(J)Ljava/lang/Long;"), (0, .methodref 8 20), (0, .nameAndType 21 22), (0, u "equals"), (0, u "(Ljava/lang/Object;)Z"), (0, .class_ 24), (0, u "com/example/bound_quorum/boundquorum/model/StatEqualsPinLaw"), (2, u "law"), (0, u "(JJJIJ)Z")] 3

def k1m0 : Method := { name := "<init>", desc := "()V", sig := { parameters := [], returnType := none }, accessFlags := 1, code := none }
def k1c1 : Code := { maxStack := 19, maxLocals := 35, code := code, exceptionTable := #[], attributes := #[] }
def k1m1 : Method := { name := "law", desc := "(JJJIJ)Z", sig := { parameters := [.long, .long, .long, .int, .long], returnType := some .boolean }, accessFlags := 9, code := some k1c1 }
/-- com/example/bound_quorum/boundquorum/model/StatEqualsPinLaw -/
def k1 : Class := { plain "com/example/bound_quorum/boundquorum/model/StatEqualsPinLaw" (some 0) with
  accessFlags := 49
  interfaces := #[]
  cf := some (fileOf pool1 23 #[] #[{ accessFlags := 1, nameIndex := 5, descriptorIndex := 6, attributes := #[] }, { accessFlags := 9, nameIndex := 27, descriptorIndex := 28, attributes := #[] }] 49 2 #[] #[])
  fields := #[]
  methods := #[k1m0, k1m1]
  instanceTypes := #[]
  staticTypes := #[]
  resolved := Array.replicate 32 none
  statics := none }

def pool2 : Array CpInfo := pool [(1, .methodref 2 3), (0, .class_ 4), (0, .nameAndType 5 6), (0, u "java/lang/Object"), (0, u "<init>"), (0, u "()V"), (0, .fieldref 8 9), (0, .class_ 10), (0, .nameAndType 11 12), (0, u "com/example/bound_quorum/boundquorum/model/Stat"), (0, u "czxid"), (0, u "J"), (0, .fieldref 8 14), (0, .nameAndType 15 12), (0, u "mzxid"), (0, .fieldref 8 17), (0, .nameAndType 18 12), (0, u "ctime"), (0, .fieldref 8 20), (0, .nameAndType 21 12), (0, u "mtime"), (0, .fieldref 8 23), (0, .nameAndType 24 25), (0, u "version"), (0, u "I"), (0, .fieldref 8 27), (0, .nameAndType 28 25), (0, u "cversion"), (0, .fieldref 8 30), (0, .nameAndType 31 25), (0, u "aversion"), (0, .fieldref 8 33), (0, .nameAndType 34 12), (0, u "ephemeralOwner"), (0, .fieldref 8 36), (0, .nameAndType 37 25), (0, u "dataLength"), (0, .fieldref 8 39), (0, .nameAndType 40 25), (0, u "numChildren"), (0, .fieldref 8 42), (0, .nameAndType 43 12), (0, u "pzxid"), (17, u "(JJJJIIIJIIJ)V"), (4, u "equals"), (0, u "(Ljava/lang/Object;)Z")] 4

def k2c0 : Code := { maxStack := 3, maxLocals := 18, code := prog_7_method_1_code, exceptionTable := #[], attributes := #[] }
def k2m0 : Method := { name := "<init>", desc := "(JJJJIIIJIIJ)V", sig := { parameters := [.long, .long, .long, .long, .int, .int, .int, .long, .int, .int, .long], returnType := none }, accessFlags := 1, code := some k2c0 }
def k2c1 : Code := { maxStack := 4, maxLocals := 3, code := prog_7_method_13_code, exceptionTable := #[], attributes := #[] }
def k2m1 : Method := { name := "equals", desc := "(Ljava/lang/Object;)Z", sig := { parameters := [(.object "java/lang/Object")], returnType := some .boolean }, accessFlags := 1, code := some k2c1 }
/-- com/example/bound_quorum/boundquorum/model/Stat -/
def k2 : Class := { plain "com/example/bound_quorum/boundquorum/model/Stat" (some 0) with
  accessFlags := 49
  interfaces := #[]
  cf := some (fileOf pool2 8 #[] #[{ accessFlags := 1, nameIndex := 5, descriptorIndex := 61, attributes := #[] }, { accessFlags := 1, nameIndex := 66, descriptorIndex := 67, attributes := #[] }] 49 2 #[] #[{ accessFlags := 18, nameIndex := 11, descriptorIndex := 12, attributes := #[] }, { accessFlags := 18, nameIndex := 15, descriptorIndex := 12, attributes := #[] }, { accessFlags := 18, nameIndex := 18, descriptorIndex := 12, attributes := #[] }, { accessFlags := 18, nameIndex := 21, descriptorIndex := 12, attributes := #[] }, { accessFlags := 18, nameIndex := 24, descriptorIndex := 25, attributes := #[] }, { accessFlags := 18, nameIndex := 28, descriptorIndex := 25, attributes := #[] }, { accessFlags := 18, nameIndex := 31, descriptorIndex := 25, attributes := #[] }, { accessFlags := 18, nameIndex := 34, descriptorIndex := 12, attributes := #[] }, { accessFlags := 18, nameIndex := 37, descriptorIndex := 25, attributes := #[] }, { accessFlags := 18, nameIndex := 40, descriptorIndex := 25, attributes := #[] }, { accessFlags := 18, nameIndex := 43, descriptorIndex := 12, attributes := #[] }])
  fields := #[{ name := "czxid", type := .long, accessFlags := 18, slot := 0, constantValue := 0 }, { name := "mzxid", type := .long, accessFlags := 18, slot := 1, constantValue := 0 }, { name := "ctime", type := .long, accessFlags := 18, slot := 2, constantValue := 0 }, { name := "mtime", type := .long, accessFlags := 18, slot := 3, constantValue := 0 }, { name := "version", type := .int, accessFlags := 18, slot := 4, constantValue := 0 }, { name := "cversion", type := .int, accessFlags := 18, slot := 5, constantValue := 0 }, { name := "aversion", type := .int, accessFlags := 18, slot := 6, constantValue := 0 }, { name := "ephemeralOwner", type := .long, accessFlags := 18, slot := 7, constantValue := 0 }, { name := "dataLength", type := .int, accessFlags := 18, slot := 8, constantValue := 0 }, { name := "numChildren", type := .int, accessFlags := 18, slot := 9, constantValue := 0 }, { name := "pzxid", type := .long, accessFlags := 18, slot := 10, constantValue := 0 }]
  methods := #[k2m0, k2m1]
  instanceTypes := #[.long, .long, .long, .long, .int, .int, .int, .long, .int, .int, .long]
  staticTypes := #[]
  resolved := Array.replicate 72 none
  statics := none }

def pool3 : Array CpInfo := pool [(1, .class_ 2), (0, u "java/io/Serializable"), (0, .class_ 4), (0, u "java/lang/Object")] 2

/-- java/io/Serializable -/
def k3 : Class := { plain "java/io/Serializable" (some 0) with
  accessFlags := 1537
  interfaces := #[]
  cf := some (fileOf pool3 1 #[] #[] 1537 3 #[] #[])
  fields := #[]
  methods := #[]
  instanceTypes := #[]
  staticTypes := #[]
  resolved := Array.replicate 7 none
  statics := none }

def pool4 : Array CpInfo := pool [(1, .methodref 2 3), (0, .class_ 4), (0, .nameAndType 5 6), (0, u "java/lang/Object"), (0, u "<init>"), (0, u "()V"), (1, .class_ 10), (1, u "java/lang/Number"), (2, .class_ 14), (0, u "java/io/Serializable"), (0, u "serialVersionUID"), (0, u "J")] 20

def k4c0 : Code := { maxStack := 1, maxLocals := 1, code := jdk_18_method_1_code, exceptionTable := #[], attributes := #[] }
def k4m0 : Method := { name := "<init>", desc := "()V", sig := { parameters := [], returnType := none }, accessFlags := 1, code := some k4c0 }
/-- java/lang/Number -/
def k4 : Class := { plain "java/lang/Number" (some 0) with
  accessFlags := 1057
  interfaces := #[3]
  cf := some (fileOf pool4 8 #[] #[{ accessFlags := 1, nameIndex := 5, descriptorIndex := 6, attributes := #[] }] 1057 2 #[13] #[{ accessFlags := 26, nameIndex := 15, descriptorIndex := 16, attributes := #[] }])
  fields := #[{ name := "serialVersionUID", type := .long, accessFlags := 26, slot := 0, constantValue := 0 }]
  methods := #[k4m0]
  instanceTypes := #[]
  staticTypes := #[.long]
  resolved := Array.replicate 37 none
  statics := none }

def pool5 : Array CpInfo := pool [(1, .class_ 2), (0, u "java/lang/Comparable"), (0, .class_ 4), (0, u "java/lang/Object")] 7

/-- java/lang/Comparable -/
def k5 : Class := { plain "java/lang/Comparable" (some 0) with
  accessFlags := 1537
  interfaces := #[]
  cf := some (fileOf pool5 1 #[] #[] 1537 3 #[] #[])
  fields := #[]
  methods := #[]
  instanceTypes := #[]
  staticTypes := #[]
  resolved := Array.replicate 12 none
  statics := none }

def pool6 : Array CpInfo := pool [(1, .class_ 2), (0, u "java/lang/constant/Constable"), (0, .class_ 4), (0, u "java/lang/Object")] 6

/-- java/lang/constant/Constable -/
def k6 : Class := { plain "java/lang/constant/Constable" (some 0) with
  accessFlags := 1537
  interfaces := #[]
  cf := some (fileOf pool6 1 #[] #[] 1537 3 #[] #[])
  fields := #[]
  methods := #[]
  instanceTypes := #[]
  staticTypes := #[]
  resolved := Array.replicate 11 none
  statics := none }

def pool7 : Array CpInfo := pool [(1, .class_ 2), (0, u "java/lang/constant/ConstantDesc"), (0, .class_ 4), (0, u "java/lang/Object")] 32

/-- java/lang/constant/ConstantDesc -/
def k7 : Class := { plain "java/lang/constant/ConstantDesc" (some 0) with
  accessFlags := 1537
  interfaces := #[]
  cf := some (fileOf pool7 1 #[] #[] 1537 3 #[] #[])
  fields := #[]
  methods := #[]
  instanceTypes := #[]
  staticTypes := #[]
  resolved := Array.replicate 37 none
  statics := none }

def pool8 : Array CpInfo := pool [(1, .class_ 2), (0, u "java/lang/Long"), (55, .nameAndType 59 60), (0, u "<init>"), (0, u "()V"), (24, u "valueOf"), (143, u "(J)Ljava/lang/Long;"), (0, .long 18446744073709551488), (1, .long 127), (1, .fieldref 235 236), (0, .class_ 237), (0, .nameAndType 238 239), (0, u "java/lang/Long$LongCache"), (0, u "cache"), (0, u "[Ljava/lang/Long;"), (0, .methodref 1 241), (0, .nameAndType 59 242), (0, u "(J)V"), (27, .methodref 271 58), (0, .class_ 272), (0, u "java/lang/Number"), (0, .fieldref 1 274), (0, .nameAndType 275 276), (0, u "value"), (0, u "J"), (84, u "TYPE"), (0, u "Ljava/lang/Class;"), (0, .class_ 364), (0, u "java/lang/Comparable"), (0, .class_ 366), (0, u "java/lang/constant/Constable"), (0, .class_ 368), (0, u "java/lang/constant/ConstantDesc"), (0, u "MIN_VALUE"), (1, u "MAX_VALUE"), (4, u "SIZE"), (0, u "I"), (1, u "BYTES"), (1, u "serialVersionUID")] 142

def k8c0 : Code := { maxStack := 4, maxLocals := 3, code := jdk_35_method_24_code, exceptionTable := #[], attributes := #[] }
def k8m0 : Method := { name := "valueOf", desc := "(J)Ljava/lang/Long;", sig := { parameters := [.long], returnType := some (.object "java/lang/Long") }, accessFlags := 9, code := some k8c0 }
def k8c1 : Code := { maxStack := 3, maxLocals := 3, code := jdk_35_method_26_code, exceptionTable := #[], attributes := #[] }
def k8m1 : Method := { name := "<init>", desc := "(J)V", sig := { parameters := [.long], returnType := none }, accessFlags := 1, code := some k8c1 }
/-- java/lang/Long -/
def k8 : Class := { plain "java/lang/Long" (some 4) with
  accessFlags := 49
  interfaces := #[5, 6, 7]
  cf := some (fileOf pool8 1 #[.nestMembers #[235]] #[{ accessFlags := 9, nameIndex := 85, descriptorIndex := 229, attributes := #[] }, { accessFlags := 1, nameIndex := 59, descriptorIndex := 242, attributes := #[] }] 49 271 #[363, 365, 367] #[{ accessFlags := 25, nameIndex := 369, descriptorIndex := 276, attributes := #[] }, { accessFlags := 25, nameIndex := 371, descriptorIndex := 276, attributes := #[] }, { accessFlags := 25, nameIndex := 361, descriptorIndex := 362, attributes := #[] }, { accessFlags := 18, nameIndex := 275, descriptorIndex := 276, attributes := #[] }, { accessFlags := 25, nameIndex := 376, descriptorIndex := 377, attributes := #[] }, { accessFlags := 25, nameIndex := 379, descriptorIndex := 377, attributes := #[] }, { accessFlags := 26, nameIndex := 381, descriptorIndex := 276, attributes := #[] }])
  fields := #[{ name := "MIN_VALUE", type := .long, accessFlags := 25, slot := 0, constantValue := 0 }, { name := "MAX_VALUE", type := .long, accessFlags := 25, slot := 1, constantValue := 0 }, { name := "TYPE", type := (.object "java/lang/Class"), accessFlags := 25, slot := 2, constantValue := 0 }, { name := "value", type := .long, accessFlags := 18, slot := 0, constantValue := 0 }, { name := "SIZE", type := .int, accessFlags := 25, slot := 3, constantValue := 0 }, { name := "BYTES", type := .int, accessFlags := 25, slot := 4, constantValue := 0 }, { name := "serialVersionUID", type := .long, accessFlags := 26, slot := 5, constantValue := 0 }]
  methods := #[k8m0, k8m1]
  instanceTypes := #[.long]
  staticTypes := #[.long, .long, (.object "java/lang/Class"), .int, .int, .long]
  resolved := Array.replicate 524 none
  statics := none }

def pool9 : Array CpInfo := pool [(2, .class_ 4), (1, u "java/lang/Object"), (0, u "<init>"), (0, u "()V"), (0, .class_ 8), (0, u "java/lang/Long"), (7, .class_ 18), (1, u "java/lang/Long$LongCache"), (0, u "$assertionsDisabled"), (0, u "Z"), (8, u "archivedCache"), (0, u "[Ljava/lang/Long;"), (7, u "cache")] 24

def k9m0 : Method := { name := "<init>", desc := "()V", sig := { parameters := [], returnType := none }, accessFlags := 2, code := none }
/-- java/lang/Long$LongCache -/
def k9 : Class := { plain "java/lang/Long$LongCache" (some 0) with
  accessFlags := 48
  interfaces := #[]
  cf := some (fileOf pool9 16 #[.nestHost 7] #[{ accessFlags := 2, nameIndex := 5, descriptorIndex := 6, attributes := #[] }] 48 2 #[] #[{ accessFlags := 24, nameIndex := 38, descriptorIndex := 30, attributes := #[] }, { accessFlags := 8, nameIndex := 29, descriptorIndex := 30, attributes := #[] }, { accessFlags := 4120, nameIndex := 19, descriptorIndex := 20, attributes := #[] }])
  fields := #[{ name := "cache", type := (.array (.object "java/lang/Long")), accessFlags := 24, slot := 0, constantValue := 0 }, { name := "archivedCache", type := (.array (.object "java/lang/Long")), accessFlags := 8, slot := 1, constantValue := 0 }, { name := "$assertionsDisabled", type := .boolean, accessFlags := 4120, slot := 2, constantValue := 0 }]
  methods := #[k9m0]
  instanceTypes := #[]
  staticTypes := #[(.array (.object "java/lang/Long")), (.array (.object "java/lang/Long")), .boolean]
  resolved := Array.replicate 63 none
  statics := some 0 }

def pool10 : Array CpInfo := pool [(1, u "java/lang/Cloneable"), (0, .class_ 1), (0, u "java/lang/Object"), (0, .class_ 3)] 3

/-- java/lang/Cloneable -/
def k10 : Class := { plain "java/lang/Cloneable" (some 0) with
  accessFlags := 1537
  interfaces := #[]
  cf := some (fileOf pool10 2 #[] #[] 1537 4 #[] #[])
  fields := #[]
  methods := #[]
  instanceTypes := #[]
  staticTypes := #[]
  resolved := Array.replicate 8 none
  statics := none }

/-- the primitive byte -/
def k11 : Class := { plain "byte" none with kind := .primitive 'B', accessFlags := 0x411 }
/-- [B -/
def k12 : Class := { plain "[B" (some 0) with kind := .array 11 .byte, interfaces := #[10, 3], accessFlags := 1041 }

/-- the primitive int -/
def k13 : Class := { plain "int" none with kind := .primitive 'I', accessFlags := 0x411 }
/-- [I -/
def k14 : Class := { plain "[I" (some 0) with kind := .array 13 .int, interfaces := #[10, 3], accessFlags := 1041 }

/-- [Ljava/lang/Long; -/
def k15 : Class := { plain "[Ljava/lang/Long;" (some 0) with kind := .array 8 (.object "java/lang/Long"), interfaces := #[10, 3], accessFlags := 1041 }

def heap : Heap := #[{ cls := 9, slots := #[.ref 1, .null, .int 0], vm := .statics 9 },
  { cls := 15, slots := #[.ref 2, .ref 3, .ref 4, .ref 5, .ref 6, .ref 7, .ref 8, .ref 9, .ref 10, .ref 11, .ref 12, .ref 13, .ref 14, .ref 15, .ref 16, .ref 17, .ref 18, .ref 19, .ref 20, .ref 21, .ref 22, .ref 23, .ref 24, .ref 25, .ref 26, .ref 27, .ref 28, .ref 29, .ref 30, .ref 31, .ref 32, .ref 33, .ref 34, .ref 35, .ref 36, .ref 37, .ref 38, .ref 39, .ref 40, .ref 41, .ref 42, .ref 43, .ref 44, .ref 45, .ref 46, .ref 47, .ref 48, .ref 49, .ref 50, .ref 51, .ref 52, .ref 53, .ref 54, .ref 55, .ref 56, .ref 57, .ref 58, .ref 59, .ref 60, .ref 61, .ref 62, .ref 63, .ref 64, .ref 65, .ref 66, .ref 67, .ref 68, .ref 69, .ref 70, .ref 71, .ref 72, .ref 73, .ref 74, .ref 75, .ref 76, .ref 77, .ref 78, .ref 79, .ref 80, .ref 81, .ref 82, .ref 83, .ref 84, .ref 85, .ref 86, .ref 87, .ref 88, .ref 89, .ref 90, .ref 91, .ref 92, .ref 93, .ref 94, .ref 95, .ref 96, .ref 97, .ref 98, .ref 99, .ref 100, .ref 101, .ref 102, .ref 103, .ref 104, .ref 105, .ref 106, .ref 107, .ref 108, .ref 109, .ref 110, .ref 111, .ref 112, .ref 113, .ref 114, .ref 115, .ref 116, .ref 117, .ref 118, .ref 119, .ref 120, .ref 121, .ref 122, .ref 123, .ref 124, .ref 125, .ref 126, .ref 127, .ref 128, .ref 129, .ref 130, .ref 131, .ref 132, .ref 133, .ref 134, .ref 135, .ref 136, .ref 137, .ref 138, .ref 139, .ref 140, .ref 141, .ref 142, .ref 143, .ref 144, .ref 145, .ref 146, .ref 147, .ref 148, .ref 149, .ref 150, .ref 151, .ref 152, .ref 153, .ref 154, .ref 155, .ref 156, .ref 157, .ref 158, .ref 159, .ref 160, .ref 161, .ref 162, .ref 163, .ref 164, .ref 165, .ref 166, .ref 167, .ref 168, .ref 169, .ref 170, .ref 171, .ref 172, .ref 173, .ref 174, .ref 175, .ref 176, .ref 177, .ref 178, .ref 179, .ref 180, .ref 181, .ref 182, .ref 183, .ref 184, .ref 185, .ref 186, .ref 187, .ref 188, .ref 189, .ref 190, .ref 191, .ref 192, .ref 193, .ref 194, .ref 195, .ref 196, .ref 197, .ref 198, .ref 199, .ref 200, .ref 201, .ref 202, .ref 203, .ref 204, .ref 205, .ref 206, .ref 207, .ref 208, .ref 209, .ref 210, .ref 211, .ref 212, .ref 213, .ref 214, .ref 215, .ref 216, .ref 217, .ref 218, .ref 219, .ref 220, .ref 221, .ref 222, .ref 223, .ref 224, .ref 225, .ref 226, .ref 227, .ref 228, .ref 229, .ref 230, .ref 231, .ref 232, .ref 233, .ref 234, .ref 235, .ref 236, .ref 237, .ref 238, .ref 239, .ref 240, .ref 241, .ref 242, .ref 243, .ref 244, .ref 245, .ref 246, .ref 247, .ref 248, .ref 249, .ref 250, .ref 251, .ref 252, .ref 253, .ref 254, .ref 255, .ref 256, .ref 257], vm := .none },
  { cls := 8, slots := #[.long (-128)], vm := .none },
  { cls := 8, slots := #[.long (-127)], vm := .none },
  { cls := 8, slots := #[.long (-126)], vm := .none },
  { cls := 8, slots := #[.long (-125)], vm := .none },
  { cls := 8, slots := #[.long (-124)], vm := .none },
  { cls := 8, slots := #[.long (-123)], vm := .none },
  { cls := 8, slots := #[.long (-122)], vm := .none },
  { cls := 8, slots := #[.long (-121)], vm := .none },
  { cls := 8, slots := #[.long (-120)], vm := .none },
  { cls := 8, slots := #[.long (-119)], vm := .none },
  { cls := 8, slots := #[.long (-118)], vm := .none },
  { cls := 8, slots := #[.long (-117)], vm := .none },
  { cls := 8, slots := #[.long (-116)], vm := .none },
  { cls := 8, slots := #[.long (-115)], vm := .none },
  { cls := 8, slots := #[.long (-114)], vm := .none },
  { cls := 8, slots := #[.long (-113)], vm := .none },
  { cls := 8, slots := #[.long (-112)], vm := .none },
  { cls := 8, slots := #[.long (-111)], vm := .none },
  { cls := 8, slots := #[.long (-110)], vm := .none },
  { cls := 8, slots := #[.long (-109)], vm := .none },
  { cls := 8, slots := #[.long (-108)], vm := .none },
  { cls := 8, slots := #[.long (-107)], vm := .none },
  { cls := 8, slots := #[.long (-106)], vm := .none },
  { cls := 8, slots := #[.long (-105)], vm := .none },
  { cls := 8, slots := #[.long (-104)], vm := .none },
  { cls := 8, slots := #[.long (-103)], vm := .none },
  { cls := 8, slots := #[.long (-102)], vm := .none },
  { cls := 8, slots := #[.long (-101)], vm := .none },
  { cls := 8, slots := #[.long (-100)], vm := .none },
  { cls := 8, slots := #[.long (-99)], vm := .none },
  { cls := 8, slots := #[.long (-98)], vm := .none },
  { cls := 8, slots := #[.long (-97)], vm := .none },
  { cls := 8, slots := #[.long (-96)], vm := .none },
  { cls := 8, slots := #[.long (-95)], vm := .none },
  { cls := 8, slots := #[.long (-94)], vm := .none },
  { cls := 8, slots := #[.long (-93)], vm := .none },
  { cls := 8, slots := #[.long (-92)], vm := .none },
  { cls := 8, slots := #[.long (-91)], vm := .none },
  { cls := 8, slots := #[.long (-90)], vm := .none },
  { cls := 8, slots := #[.long (-89)], vm := .none },
  { cls := 8, slots := #[.long (-88)], vm := .none },
  { cls := 8, slots := #[.long (-87)], vm := .none },
  { cls := 8, slots := #[.long (-86)], vm := .none },
  { cls := 8, slots := #[.long (-85)], vm := .none },
  { cls := 8, slots := #[.long (-84)], vm := .none },
  { cls := 8, slots := #[.long (-83)], vm := .none },
  { cls := 8, slots := #[.long (-82)], vm := .none },
  { cls := 8, slots := #[.long (-81)], vm := .none },
  { cls := 8, slots := #[.long (-80)], vm := .none },
  { cls := 8, slots := #[.long (-79)], vm := .none },
  { cls := 8, slots := #[.long (-78)], vm := .none },
  { cls := 8, slots := #[.long (-77)], vm := .none },
  { cls := 8, slots := #[.long (-76)], vm := .none },
  { cls := 8, slots := #[.long (-75)], vm := .none },
  { cls := 8, slots := #[.long (-74)], vm := .none },
  { cls := 8, slots := #[.long (-73)], vm := .none },
  { cls := 8, slots := #[.long (-72)], vm := .none },
  { cls := 8, slots := #[.long (-71)], vm := .none },
  { cls := 8, slots := #[.long (-70)], vm := .none },
  { cls := 8, slots := #[.long (-69)], vm := .none },
  { cls := 8, slots := #[.long (-68)], vm := .none },
  { cls := 8, slots := #[.long (-67)], vm := .none },
  { cls := 8, slots := #[.long (-66)], vm := .none },
  { cls := 8, slots := #[.long (-65)], vm := .none },
  { cls := 8, slots := #[.long (-64)], vm := .none },
  { cls := 8, slots := #[.long (-63)], vm := .none },
  { cls := 8, slots := #[.long (-62)], vm := .none },
  { cls := 8, slots := #[.long (-61)], vm := .none },
  { cls := 8, slots := #[.long (-60)], vm := .none },
  { cls := 8, slots := #[.long (-59)], vm := .none },
  { cls := 8, slots := #[.long (-58)], vm := .none },
  { cls := 8, slots := #[.long (-57)], vm := .none },
  { cls := 8, slots := #[.long (-56)], vm := .none },
  { cls := 8, slots := #[.long (-55)], vm := .none },
  { cls := 8, slots := #[.long (-54)], vm := .none },
  { cls := 8, slots := #[.long (-53)], vm := .none },
  { cls := 8, slots := #[.long (-52)], vm := .none },
  { cls := 8, slots := #[.long (-51)], vm := .none },
  { cls := 8, slots := #[.long (-50)], vm := .none },
  { cls := 8, slots := #[.long (-49)], vm := .none },
  { cls := 8, slots := #[.long (-48)], vm := .none },
  { cls := 8, slots := #[.long (-47)], vm := .none },
  { cls := 8, slots := #[.long (-46)], vm := .none },
  { cls := 8, slots := #[.long (-45)], vm := .none },
  { cls := 8, slots := #[.long (-44)], vm := .none },
  { cls := 8, slots := #[.long (-43)], vm := .none },
  { cls := 8, slots := #[.long (-42)], vm := .none },
  { cls := 8, slots := #[.long (-41)], vm := .none },
  { cls := 8, slots := #[.long (-40)], vm := .none },
  { cls := 8, slots := #[.long (-39)], vm := .none },
  { cls := 8, slots := #[.long (-38)], vm := .none },
  { cls := 8, slots := #[.long (-37)], vm := .none },
  { cls := 8, slots := #[.long (-36)], vm := .none },
  { cls := 8, slots := #[.long (-35)], vm := .none },
  { cls := 8, slots := #[.long (-34)], vm := .none },
  { cls := 8, slots := #[.long (-33)], vm := .none },
  { cls := 8, slots := #[.long (-32)], vm := .none },
  { cls := 8, slots := #[.long (-31)], vm := .none },
  { cls := 8, slots := #[.long (-30)], vm := .none },
  { cls := 8, slots := #[.long (-29)], vm := .none },
  { cls := 8, slots := #[.long (-28)], vm := .none },
  { cls := 8, slots := #[.long (-27)], vm := .none },
  { cls := 8, slots := #[.long (-26)], vm := .none },
  { cls := 8, slots := #[.long (-25)], vm := .none },
  { cls := 8, slots := #[.long (-24)], vm := .none },
  { cls := 8, slots := #[.long (-23)], vm := .none },
  { cls := 8, slots := #[.long (-22)], vm := .none },
  { cls := 8, slots := #[.long (-21)], vm := .none },
  { cls := 8, slots := #[.long (-20)], vm := .none },
  { cls := 8, slots := #[.long (-19)], vm := .none },
  { cls := 8, slots := #[.long (-18)], vm := .none },
  { cls := 8, slots := #[.long (-17)], vm := .none },
  { cls := 8, slots := #[.long (-16)], vm := .none },
  { cls := 8, slots := #[.long (-15)], vm := .none },
  { cls := 8, slots := #[.long (-14)], vm := .none },
  { cls := 8, slots := #[.long (-13)], vm := .none },
  { cls := 8, slots := #[.long (-12)], vm := .none },
  { cls := 8, slots := #[.long (-11)], vm := .none },
  { cls := 8, slots := #[.long (-10)], vm := .none },
  { cls := 8, slots := #[.long (-9)], vm := .none },
  { cls := 8, slots := #[.long (-8)], vm := .none },
  { cls := 8, slots := #[.long (-7)], vm := .none },
  { cls := 8, slots := #[.long (-6)], vm := .none },
  { cls := 8, slots := #[.long (-5)], vm := .none },
  { cls := 8, slots := #[.long (-4)], vm := .none },
  { cls := 8, slots := #[.long (-3)], vm := .none },
  { cls := 8, slots := #[.long (-2)], vm := .none },
  { cls := 8, slots := #[.long (-1)], vm := .none },
  { cls := 8, slots := #[.long (0)], vm := .none },
  { cls := 8, slots := #[.long (1)], vm := .none },
  { cls := 8, slots := #[.long (2)], vm := .none },
  { cls := 8, slots := #[.long (3)], vm := .none },
  { cls := 8, slots := #[.long (4)], vm := .none },
  { cls := 8, slots := #[.long (5)], vm := .none },
  { cls := 8, slots := #[.long (6)], vm := .none },
  { cls := 8, slots := #[.long (7)], vm := .none },
  { cls := 8, slots := #[.long (8)], vm := .none },
  { cls := 8, slots := #[.long (9)], vm := .none },
  { cls := 8, slots := #[.long (10)], vm := .none },
  { cls := 8, slots := #[.long (11)], vm := .none },
  { cls := 8, slots := #[.long (12)], vm := .none },
  { cls := 8, slots := #[.long (13)], vm := .none },
  { cls := 8, slots := #[.long (14)], vm := .none },
  { cls := 8, slots := #[.long (15)], vm := .none },
  { cls := 8, slots := #[.long (16)], vm := .none },
  { cls := 8, slots := #[.long (17)], vm := .none },
  { cls := 8, slots := #[.long (18)], vm := .none },
  { cls := 8, slots := #[.long (19)], vm := .none },
  { cls := 8, slots := #[.long (20)], vm := .none },
  { cls := 8, slots := #[.long (21)], vm := .none },
  { cls := 8, slots := #[.long (22)], vm := .none },
  { cls := 8, slots := #[.long (23)], vm := .none },
  { cls := 8, slots := #[.long (24)], vm := .none },
  { cls := 8, slots := #[.long (25)], vm := .none },
  { cls := 8, slots := #[.long (26)], vm := .none },
  { cls := 8, slots := #[.long (27)], vm := .none },
  { cls := 8, slots := #[.long (28)], vm := .none },
  { cls := 8, slots := #[.long (29)], vm := .none },
  { cls := 8, slots := #[.long (30)], vm := .none },
  { cls := 8, slots := #[.long (31)], vm := .none },
  { cls := 8, slots := #[.long (32)], vm := .none },
  { cls := 8, slots := #[.long (33)], vm := .none },
  { cls := 8, slots := #[.long (34)], vm := .none },
  { cls := 8, slots := #[.long (35)], vm := .none },
  { cls := 8, slots := #[.long (36)], vm := .none },
  { cls := 8, slots := #[.long (37)], vm := .none },
  { cls := 8, slots := #[.long (38)], vm := .none },
  { cls := 8, slots := #[.long (39)], vm := .none },
  { cls := 8, slots := #[.long (40)], vm := .none },
  { cls := 8, slots := #[.long (41)], vm := .none },
  { cls := 8, slots := #[.long (42)], vm := .none },
  { cls := 8, slots := #[.long (43)], vm := .none },
  { cls := 8, slots := #[.long (44)], vm := .none },
  { cls := 8, slots := #[.long (45)], vm := .none },
  { cls := 8, slots := #[.long (46)], vm := .none },
  { cls := 8, slots := #[.long (47)], vm := .none },
  { cls := 8, slots := #[.long (48)], vm := .none },
  { cls := 8, slots := #[.long (49)], vm := .none },
  { cls := 8, slots := #[.long (50)], vm := .none },
  { cls := 8, slots := #[.long (51)], vm := .none },
  { cls := 8, slots := #[.long (52)], vm := .none },
  { cls := 8, slots := #[.long (53)], vm := .none },
  { cls := 8, slots := #[.long (54)], vm := .none },
  { cls := 8, slots := #[.long (55)], vm := .none },
  { cls := 8, slots := #[.long (56)], vm := .none },
  { cls := 8, slots := #[.long (57)], vm := .none },
  { cls := 8, slots := #[.long (58)], vm := .none },
  { cls := 8, slots := #[.long (59)], vm := .none },
  { cls := 8, slots := #[.long (60)], vm := .none },
  { cls := 8, slots := #[.long (61)], vm := .none },
  { cls := 8, slots := #[.long (62)], vm := .none },
  { cls := 8, slots := #[.long (63)], vm := .none },
  { cls := 8, slots := #[.long (64)], vm := .none },
  { cls := 8, slots := #[.long (65)], vm := .none },
  { cls := 8, slots := #[.long (66)], vm := .none },
  { cls := 8, slots := #[.long (67)], vm := .none },
  { cls := 8, slots := #[.long (68)], vm := .none },
  { cls := 8, slots := #[.long (69)], vm := .none },
  { cls := 8, slots := #[.long (70)], vm := .none },
  { cls := 8, slots := #[.long (71)], vm := .none },
  { cls := 8, slots := #[.long (72)], vm := .none },
  { cls := 8, slots := #[.long (73)], vm := .none },
  { cls := 8, slots := #[.long (74)], vm := .none },
  { cls := 8, slots := #[.long (75)], vm := .none },
  { cls := 8, slots := #[.long (76)], vm := .none },
  { cls := 8, slots := #[.long (77)], vm := .none },
  { cls := 8, slots := #[.long (78)], vm := .none },
  { cls := 8, slots := #[.long (79)], vm := .none },
  { cls := 8, slots := #[.long (80)], vm := .none },
  { cls := 8, slots := #[.long (81)], vm := .none },
  { cls := 8, slots := #[.long (82)], vm := .none },
  { cls := 8, slots := #[.long (83)], vm := .none },
  { cls := 8, slots := #[.long (84)], vm := .none },
  { cls := 8, slots := #[.long (85)], vm := .none },
  { cls := 8, slots := #[.long (86)], vm := .none },
  { cls := 8, slots := #[.long (87)], vm := .none },
  { cls := 8, slots := #[.long (88)], vm := .none },
  { cls := 8, slots := #[.long (89)], vm := .none },
  { cls := 8, slots := #[.long (90)], vm := .none },
  { cls := 8, slots := #[.long (91)], vm := .none },
  { cls := 8, slots := #[.long (92)], vm := .none },
  { cls := 8, slots := #[.long (93)], vm := .none },
  { cls := 8, slots := #[.long (94)], vm := .none },
  { cls := 8, slots := #[.long (95)], vm := .none },
  { cls := 8, slots := #[.long (96)], vm := .none },
  { cls := 8, slots := #[.long (97)], vm := .none },
  { cls := 8, slots := #[.long (98)], vm := .none },
  { cls := 8, slots := #[.long (99)], vm := .none },
  { cls := 8, slots := #[.long (100)], vm := .none },
  { cls := 8, slots := #[.long (101)], vm := .none },
  { cls := 8, slots := #[.long (102)], vm := .none },
  { cls := 8, slots := #[.long (103)], vm := .none },
  { cls := 8, slots := #[.long (104)], vm := .none },
  { cls := 8, slots := #[.long (105)], vm := .none },
  { cls := 8, slots := #[.long (106)], vm := .none },
  { cls := 8, slots := #[.long (107)], vm := .none },
  { cls := 8, slots := #[.long (108)], vm := .none },
  { cls := 8, slots := #[.long (109)], vm := .none },
  { cls := 8, slots := #[.long (110)], vm := .none },
  { cls := 8, slots := #[.long (111)], vm := .none },
  { cls := 8, slots := #[.long (112)], vm := .none },
  { cls := 8, slots := #[.long (113)], vm := .none },
  { cls := 8, slots := #[.long (114)], vm := .none },
  { cls := 8, slots := #[.long (115)], vm := .none },
  { cls := 8, slots := #[.long (116)], vm := .none },
  { cls := 8, slots := #[.long (117)], vm := .none },
  { cls := 8, slots := #[.long (118)], vm := .none },
  { cls := 8, slots := #[.long (119)], vm := .none },
  { cls := 8, slots := #[.long (120)], vm := .none },
  { cls := 8, slots := #[.long (121)], vm := .none },
  { cls := 8, slots := #[.long (122)], vm := .none },
  { cls := 8, slots := #[.long (123)], vm := .none },
  { cls := 8, slots := #[.long (124)], vm := .none },
  { cls := 8, slots := #[.long (125)], vm := .none },
  { cls := 8, slots := #[.long (126)], vm := .none },
  { cls := 8, slots := #[.long (127)], vm := .none }]
def classes : Array Class := #[k0, k1, k2, k3, k4, k5, k6, k7, k8, k9, k10, k11, k12, k13, k14, k15]
def interned : List (Array UInt16 × Addr) := []
def slotsUsed : Nat := 515
def theMethod : MethodId := ⟨1, 1⟩
def args0 : Array Value := #[.long 5, .long 3, .long 2, .int 7, .long 9]
def aboutOver (below : List Frame) : State where
  vm := { classes := classes, interned := interned.toArray }
  heap := heap
  slotsUsed := slotsUsed
  threads := #[{ frames := .invoking theMethod args0 :: below }]
def below0 : List Frame := [.native { method := ⟨0, 0⟩, args := #[] }]
def about1 : State := aboutOver below0
def p0 : Program := .bare "" "" ""
def e0 : Env := launch0.env 0 0 0
theorem w_frames : about1.frames = Frame.invoking theMethod args0 :: below0 := rfl
set_option maxRecDepth 65536 in
theorem w_args : argsFit about1.vm theMethod args0 = true := by decide +kernel
set_option maxRecDepth 65536 in
theorem w_heap : heapFits about1 = true := by decide +kernel
set_option maxRecDepth 65536 in
theorem w_runnable : about1.curStatus? = some .runnable := by decide +kernel
set_option maxRecDepth 65536 in
theorem w_alone : about1.alone = true := by decide +kernel
set_option maxRecDepth 65536 in
theorem w_named : about1.methodNamed? x = some theMethod := by decide +kernel
set_option maxRecDepth 65536 in
theorem w_hears : about1.hears theMethod below0 = true := by decide +kernel
set_option maxRecDepth 65536 in
theorem w_ripe : about1.ripe theMethod args0 below0 = true := by decide +kernel
theorem w_running : about1.status = .running := rfl
set_option maxRecDepth 65536 in
theorem w_room : about1.hasRoom e0.platform room_1 = true :=
  launch0.hasRoom_least _ room_1 (by decide +kernel) (by decide +kernel) (by decide +kernel) (by decide +kernel) (by decide +kernel) (by decide +kernel)
theorem allAtoms_all (ts : List Jvm.Cond) (a : Array Jvm.Value) (st : Jvm.State) : (allAtoms ts).before a st = ts.all (fun c => c.before a st) := by
  induction ts with
  | nil => rfl
  | cons c t ih =>
    show (Jvm.Cond.and c (allAtoms t)).before a st = _
    rw [Jvm.Cond.before_and, ih, List.all_cons]
def words1 : List Jvm.Cond := Jvm.Cond.code x code maxLocals ret :: tables_1
/-- a 'code' word, met by the world's own term for the bytes: nothing is compared byte by byte -/
theorem code_word {y : MethodName} {bytes : ByteArray} {mx : Nat} {rt : Option FieldType} {a : Array Value} {s : State} {m : MethodId} {meth : Method} {c : Code} (h1 : s.methodNamed? y = some m) (h2 : s.vm.method? m = some meth) (h3 : meth.code = some c) (h4 : c.code = bytes)
    (h5 : (c.maxLocals == mx && c.exceptionTable.isEmpty && decide (c.maxStack ≤ mostOperands) && decide (meth.sig.returnType = rt) && !meth.locks && decide (parseMethodDescriptor y.desc = some meth.sig)) = true) : (Jvm.Cond.code y bytes mx rt).before a s = true := by
  simp only [Bool.and_eq_true, beq_iff_eq, Bool.not_eq_true', decide_eq_true_eq] at h5
  obtain ⟨⟨⟨⟨⟨g1, g2⟩, g3⟩, g4⟩, g5⟩, g6⟩ := h5
  simp [Cond.before, Cond.holds, Cond.value, h1, h2, h3, h4, g1, g2, g3, g4, g5, g6]
def isCode : Jvm.Cond → Bool
  | .code _ _ _ _ => true
  | _ => false
theorem all_split {L : List Jvm.Cond} {P : Jvm.Cond → Bool} (h1 : L.all (fun c => isCode c || P c) = true) (h2 : ∀ c ∈ L.filter isCode, P c = true) : L.all P = true := by
  refine List.all_eq_true.mpr fun c hc => ?_
  have h := List.all_eq_true.mp h1 c hc
  rcases Bool.eq_false_or_eq_true (isCode c) with hi | hi
  · exact h2 c (List.mem_filter.mpr ⟨hc, hi⟩)
  · simpa [hi] using h
set_option maxRecDepth 65536 in
theorem w_c0 : (Jvm.Cond.code x code maxLocals ret).before args0 about1 = true := code_word (m := ⟨1, 1⟩) (meth := k1m1) (c := k1c1) (by decide +kernel) rfl rfl rfl (by decide +kernel)
set_option maxRecDepth 65536 in
theorem w_c1 : (Jvm.Cond.code ({ cls := "com/example/bound_quorum/boundquorum/model/Stat", name := "<init>", desc := "(JJJJIIIJIIJ)V" } : Jvm.MethodName) prog_7_method_1_code (18 : Nat) (Option.none : Option Jvm.ClassFile.FieldType)).before args0 about1 = true := code_word (m := ⟨2, 0⟩) (meth := k2m0) (c := k2c0) (by decide +kernel) rfl rfl rfl (by decide +kernel)
set_option maxRecDepth 65536 in
theorem w_c2 : (Jvm.Cond.code ({ cls := "java/lang/Object", name := "<init>", desc := "()V" } : Jvm.MethodName) object_method_1_code (1 : Nat) (Option.none : Option Jvm.ClassFile.FieldType)).before args0 about1 = true := code_word (m := ⟨0, 0⟩) (meth := k0m0) (c := k0c0) (by decide +kernel) rfl rfl rfl (by decide +kernel)
set_option maxRecDepth 65536 in
theorem w_c3 : (Jvm.Cond.code ({ cls := "com/example/bound_quorum/boundquorum/model/Stat", name := "equals", desc := "(Ljava/lang/Object;)Z" } : Jvm.MethodName) prog_7_method_13_code (3 : Nat) (Option.some Jvm.ClassFile.FieldType.boolean)).before args0 about1 = true := code_word (m := ⟨2, 1⟩) (meth := k2m1) (c := k2c1) (by decide +kernel) rfl rfl rfl (by decide +kernel)
set_option maxRecDepth 65536 in
theorem w_c4 : (Jvm.Cond.code ({ cls := "java/lang/Long", name := "valueOf", desc := "(J)Ljava/lang/Long;" } : Jvm.MethodName) jdk_35_method_24_code (3 : Nat) (Option.some (Jvm.ClassFile.FieldType.object "java/lang/Long"))).before args0 about1 = true := code_word (m := ⟨8, 0⟩) (meth := k8m0) (c := k8c0) (by decide +kernel) rfl rfl rfl (by decide +kernel)
set_option maxRecDepth 65536 in
theorem w_c5 : (Jvm.Cond.code ({ cls := "java/lang/Long", name := "<init>", desc := "(J)V" } : Jvm.MethodName) jdk_35_method_26_code (3 : Nat) (Option.none : Option Jvm.ClassFile.FieldType)).before args0 about1 = true := code_word (m := ⟨8, 1⟩) (meth := k8m1) (c := k8c1) (by decide +kernel) rfl rfl rfl (by decide +kernel)
set_option maxRecDepth 65536 in
theorem w_c6 : (Jvm.Cond.code ({ cls := "java/lang/Number", name := "<init>", desc := "()V" } : Jvm.MethodName) jdk_18_method_1_code (1 : Nat) (Option.none : Option Jvm.ClassFile.FieldType)).before args0 about1 = true := code_word (m := ⟨4, 0⟩) (meth := k4m0) (c := k4c0) (by decide +kernel) rfl rfl rfl (by decide +kernel)
def codes1 : List Jvm.Cond := [Jvm.Cond.code x code maxLocals ret, Jvm.Cond.code ({ cls := "com/example/bound_quorum/boundquorum/model/Stat", name := "<init>", desc := "(JJJJIIIJIIJ)V" } : Jvm.MethodName) prog_7_method_1_code (18 : Nat) (Option.none : Option Jvm.ClassFile.FieldType), Jvm.Cond.code ({ cls := "java/lang/Object", name := "<init>", desc := "()V" } : Jvm.MethodName) object_method_1_code (1 : Nat) (Option.none : Option Jvm.ClassFile.FieldType), Jvm.Cond.code ({ cls := "com/example/bound_quorum/boundquorum/model/Stat", name := "equals", desc := "(Ljava/lang/Object;)Z" } : Jvm.MethodName) prog_7_method_13_code (3 : Nat) (Option.some Jvm.ClassFile.FieldType.boolean), Jvm.Cond.code ({ cls := "java/lang/Long", name := "valueOf", desc := "(J)Ljava/lang/Long;" } : Jvm.MethodName) jdk_35_method_24_code (3 : Nat) (Option.some (Jvm.ClassFile.FieldType.object "java/lang/Long")), Jvm.Cond.code ({ cls := "java/lang/Long", name := "<init>", desc := "(J)V" } : Jvm.MethodName) jdk_35_method_26_code (3 : Nat) (Option.none : Option Jvm.ClassFile.FieldType), Jvm.Cond.code ({ cls := "java/lang/Number", name := "<init>", desc := "()V" } : Jvm.MethodName) jdk_18_method_1_code (1 : Nat) (Option.none : Option Jvm.ClassFile.FieldType)]
set_option maxRecDepth 65536 in
theorem codes_eq : words1.filter isCode = codes1 := rfl
theorem w_codes : ∀ c ∈ words1.filter isCode, c.before args0 about1 = true := by
  rw [codes_eq]
  intro c hc
  simp only [codes1, List.mem_cons, List.not_mem_nil, or_false] at hc
  rcases hc with rfl | rfl | rfl | rfl | rfl | rfl | rfl
  · exact w_c0
  · exact w_c1
  · exact w_c2
  · exact w_c3
  · exact w_c4
  · exact w_c5
  · exact w_c6
set_option maxRecDepth 65536 in
theorem w_t1 : (words1.take 24).all (fun c => isCode c || c.before args0 about1) = true := by decide +kernel
set_option maxRecDepth 65536 in
theorem w_t2 : ((words1.drop 24).take 24).all (fun c => isCode c || c.before args0 about1) = true := by decide +kernel
set_option maxRecDepth 65536 in
theorem w_t3 : ((words1.drop 24).drop 24).all (fun c => isCode c || c.before args0 about1) = true := by decide +kernel
theorem w_tables : (allAtoms (Jvm.Cond.code x code maxLocals ret :: tables_1)).before args0 about1 = true := by
  rw [allAtoms_all]
  show words1.all (fun c => c.before args0 about1) = true
  refine all_split ?_ w_codes
  rw [← List.take_append_drop 24 words1, List.all_append, w_t1, ← List.take_append_drop 24 (words1.drop 24), List.all_append, w_t2, w_t3]
  rfl
set_option maxRecDepth 65536 in
theorem w_rest : rest_1_c.before args0 about1 = true := by decide +kernel
set_option maxRecDepth 65536 in
theorem w_case : (Jvm.Cond.and given_1 narrow_1).before args0 about1 = true := by decide +kernel
theorem w_applies : (headSpec (Jvm.Cond.code x code maxLocals ret :: tables_1) room_1).applies x e0.platform about1 = true :=
  (Spec.applies_iff w_frames).mpr ⟨w_running, w_runnable, w_alone, w_named, w_hears, w_ripe, w_room, w_tables⟩
theorem atStart : AtStart classFile x code maxLocals ret World_1 tables_1 room_1 Calls_1 rest_1 Pre_1 launch0 p0 e0 about1 theMethod args0 below0 :=
  ⟨lists_1, trivial, launch0.admits_env _ _ _, launch0.least_env, fairChoices_fair.cas, fairChoices_fair.clock, w_frames, w_args, w_heap, w_applies, trivial, w_rest, w_case⟩
end start1
theorem witness_1 : WitnessClaimed_1 := ⟨start1.p0, start1.e0, start1.about1, start1.theMethod, start1.args0, start1.below0, start1.atStart⟩
end Jvm.Pilot.@@N@@
