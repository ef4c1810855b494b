import JvmDerived
import JvmDerived.Pilot.@@N@@Statement
import JvmDerived.Pilot.@@N@@Code
set_option linter.unusedVariables false
set_option linter.unusedSimpArgs false
namespace Jvm.OwnKit
open Sem ClassFile Op Lib Jvm.Stand Jvm.Free Jvm.LawKit Jvm.RoadKit
/-- from the state A the run comes to an end as the contract asks it -/
def OwnEnd (p : Program) (e : Env) (below : List Frame) (s : State) (Q : Option Value → Heap → List Loc → Prop) (kc ks : Nat) (A : State) : Prop :=
  ∃ (s₂ : State) (o : Outcome), Steps p.tables e below A s₂ ∧ s₂.status = .running ∧ Ended s₂ below o ∧ ∃ v L, o = .returned v ∧ Q v s₂.heap L ∧ FrameEnd s o s₂ L kc ks
section Own
variable {p : Program} {l : Launch} {e : Env} {R : Room} {s : State} {m : MethodId} {args : Array Value} {below : List Frame} {meth : Method} {c : Code} {T : State} {locs : List Loc} {cells slots : Nat} {Z : State} {a0 : Array Value} {h : Heap}
variable {Q : Option Value → Heap → List Loc → Prop} {kc ks : Nat}
theorem go {A B : State} (k : ∀ t, Steps p.tables e below B t → Steps p.tables e below A t) (F : OwnEnd p e below s Q kc ks B) : OwnEnd p e below s Q kc ks A := by
  obtain ⟨s₂, o, h1, r⟩ := F; exact ⟨s₂, o, k _ h1, r⟩
theorem up {cells' slots' : Nat} (X : Stand p l e R s m args below meth c T locs cells slots) (h1 : cells ≤ cells') (h2 : slots ≤ slots') : Stand p l e R s m args below meth c T locs cells' slots' :=
  ⟨X.admits, X.cas, X.clock, X.frames, X.room, X.hears, X.method, X.code, X.here, X.tail, X.warmed, X.limits, X.bytes, X.same.mono h1 h2⟩
theorem done (X : Stand p l e R s m args below meth c T locs cells slots) (hlk : meth.locks = false) {v : Option Value} (hv : meth.sig.returnType = none → v = none) {A : State}
    (st : ∀ fs, (∀ (f : JFrame) (acts : List Action), f.method = m → f.locked = none → f.entered = [] → (doReturn e (T.setTop f) acts v).1 = T.setFrames fs) → Steps p.tables e below A (T.setFrames fs))
    (eT : T.heap = h) (hk : cells ≤ kc) (hs : slots ≤ ks) (hQ : Q v h locs) : OwnEnd p e below s Q kc ks A := by
  obtain ⟨fs, hr, hrun, hended, hW, hsame⟩ := X.leave (v := v) hv hlk
  exact ⟨_, _, st fs hr, hrun, hended, _, _, rfl, (by show Q v T.heap locs; rw [eT]; exact hQ), ⟨_, rfl⟩, hW, hsame.mono hk hs⟩
theorem endI (X : Stand p l e R s m args below meth c T locs cells slots) (hx : p.tables.exec = Jvm.exec) (hlk : meth.locks = false) (hret : meth.sig.returnType = some .int) {pc : Nat} {Ls : Array Slot} {z : Int32} {rest : List Value} (hd : decode c.code pc = .ok (.ireturn, 1))
    (eT : T.heap = h) (hk : cells ≤ kc) (hs : slots ≤ ks) (hQ : Q (some (.int z)) h locs) : OwnEnd p e below s Q kc ks (T.setTop (mkF m pc Ls (.int z :: rest))) :=
  done X hlk (fun q => by rw [hret] at q; cases q) (fun fs hr => retOut X hx (w := .int z) hret rfl (Or.inl ⟨rfl, Or.inl rfl, z, rfl⟩) hd hr) eT hk hs hQ
theorem endN (X : Stand p l e R s m args below meth c T locs cells slots) (hx : p.tables.exec = Jvm.exec) (hlk : meth.locks = false) {t : FieldType} (ht : t = .boolean ∨ t = .byte ∨ t = .char ∨ t = .short) (hret : meth.sig.returnType = some t) {pc : Nat} {Ls : Array Slot} {z : Int32} {rest : List Value} (hd : decode c.code pc = .ok (.ireturn, 1))
    (eT : T.heap = h) (hk : cells ≤ kc) (hs : slots ≤ ks) (hQ : Q (some (.int (nar t z))) h locs) : OwnEnd p e below s Q kc ks (T.setTop (mkF m pc Ls (.int z :: rest))) :=
  done X hlk (fun q => by rw [hret] at q; cases q) (fun fs hr => retN X hx hret ht hd hr) eT hk hs hQ
theorem endJ (X : Stand p l e R s m args below meth c T locs cells slots) (hx : p.tables.exec = Jvm.exec) (hlk : meth.locks = false) (hret : meth.sig.returnType = some .long) {pc : Nat} {Ls : Array Slot} {z : Int64} {rest : List Value} (hd : decode c.code pc = .ok (.lreturn, 1))
    (eT : T.heap = h) (hk : cells ≤ kc) (hs : slots ≤ ks) (hQ : Q (some (.long z)) h locs) : OwnEnd p e below s Q kc ks (T.setTop (mkF m pc Ls (.long z :: rest))) :=
  done X hlk (fun q => by rw [hret] at q; cases q) (fun fs hr => retOut X hx (w := .long z) hret rfl (Or.inr (Or.inl ⟨rfl, rfl, z, rfl⟩)) hd hr) eT hk hs hQ
theorem endA (X : Stand p l e R s m args below meth c T locs cells slots) (hx : p.tables.exec = Jvm.exec) (hlk : meth.locks = false) {t : FieldType} (hret : meth.sig.returnType = some t) (ht : t.isReference = true) {pc : Nat} {Ls : Array Slot} {w : Value} (hw : w.isRef = true) {rest : List Value} (hd : decode c.code pc = .ok (.areturn, 1))
    (eT : T.heap = h) (hk : cells ≤ kc) (hs : slots ≤ ks) (hQ : Q (some w) h locs) : OwnEnd p e below s Q kc ks (T.setTop (mkF m pc Ls (w :: rest))) :=
  done X hlk (fun q => by rw [hret] at q; cases q) (fun fs hr => retOut X hx (w := w) hret (by cases t <;> first | rfl | cases ht) (Or.inr (Or.inr (Or.inr (Or.inr ⟨rfl, ht, hw⟩)))) hd hr) eT hk hs hQ
theorem endV (X : Stand p l e R s m args below meth c T locs cells slots) (hx : p.tables.exec = Jvm.exec) (hlk : meth.locks = false) (hret : meth.sig.returnType = none) {pc : Nat} {Ls : Array Slot} (hd : decode c.code pc = .ok (.return_, 1))
    (eT : T.heap = h) (hk : cells ≤ kc) (hs : slots ≤ ks) (hQ : Q none h locs) : OwnEnd p e below s Q kc ks (T.setTop (mkF m pc Ls [])) :=
  done X hlk (fun _ => rfl) (fun fs hr => X.returnOut hx hret hd hr) eT hk hs hQ
theorem nar01 {P : Prop} [Decidable P] : nar .boolean (if P then (1 : Int32) else 0) = if P then (1 : Int32) else 0 := by split <;> rfl
section Call
variable {own : String} {index : Nat} {y z : MethodName} {bytes : ByteArray} {maxL W : Nat} {ret : Option FieldType} {rm : Room} {as' : Array Value} {Qc : Option Value → Heap → List Loc → Prop} {g : JFrame} {argsL rest : List Value}
theorem callStat (X : Stand p l e R s m args below meth c T locs cells slots) (hx : p.tables.exec = Jvm.exec) (hZ : Z.Warmed39 s.vm) (hown : s.vm.findClass own = some m.cls)
    (w1 : (Cond.methodLink own index y).before a0 Z = true) (w2 : (Cond.static y).before a0 Z = true) (w3 : (Cond.initialized y.cls).before a0 Z = true) (w4 : (Cond.code y bytes maxL ret).before a0 Z = true)
    (hy : y.cls ≠ "java/lang/invoke/MethodHandle" ∧ y.cls ≠ "java/lang/invoke/VarHandle")
    (hM : MetFree l y (head1 [Cond.code y bytes maxL ret] rm) (fun a U => a = as' ∧ Z.Warmed39 U.vm ∧ U.heap = h) (fun _ _ _ _ _ => True) (fun _ U o U' => ∃ v L, o = .returned v ∧ Qc v U'.heap L ∧ FrameEnd U o U' L rm.cells rm.slots))
    (hf : rm.frames + 1 ≤ R.frames) (hl : W + (maxL + 11) + rm.locals ≤ R.locals) (eT : T.heap = h) (hg : g.method = m) (hsize : g.locals.size = c.maxLocals) (ha : argsL.toArray = as')
    (hlen : ∀ sig, parseMethodDescriptor y.desc = some sig → argsL.length = sig.parameters.length) (hstack : g.stack = argsL.reverse ++ rest) (hW : 2 * g.monitorRoom + (rest.map fun v => v.category).sum ≤ W) (hdg : decode c.code g.pc = .ok (.invokestatic index, 3))
    (hc : cells + rm.cells ≤ R.cells) (hs : slots + rm.slots ≤ R.slots) :
    ∃ (v : Option Value) (T' : State) (L : List Loc), Stand p l e R s m args below meth c T' (locs ++ L) (cells + rm.cells) (slots + rm.slots) ∧ Qc v T'.heap L ∧ ∀ target, Steps p.tables e below (T'.setTop { g with pc := g.pc + 3, stack := v.toList ++ rest }) target → Steps p.tables e below (T.setTop g) target := by
  obtain ⟨v, _, ⟨T', L', k', n'⟩, -, X', ⟨L, hQ, l1, l2, l3⟩, st⟩ := Jvm.LawKit.callS X hx hown (mvT hZ w1) (mvT hZ w2) (mvT hZ w3) (mvT hZ w4) hy (backOf (W := W) hM hZ w4 w3 hf hl) (g := g) hg hsize (argsL := argsL) (rest := rest) hlen hstack hW hdg (fun _ _ => ⟨ha, eT, hc, hs⟩)
  dsimp only [Pt.U, Pt.locs, Pt.cells, Pt.slots] at X' l1 l2 l3 st hQ
  subst l1 l2 l3
  exact ⟨v, T', L, X', hQ, st⟩
theorem callInit (X : Stand p l e R s m args below meth c T locs cells slots) (hx : p.tables.exec = Jvm.exec) (hZ : Z.Warmed39 s.vm) (hown : s.vm.findClass own = some m.cls) (hy1 : y.name = "<init>")
    (w1 : (Cond.methodLink own index y).before a0 Z = true) (w2 : (Cond.instanceMethod y).before a0 Z = true) (w3 : (Cond.initialized y.cls).before a0 Z = true) (w4 : (Cond.code y bytes maxL none).before a0 Z = true)
    (hy : y.cls ≠ "java/lang/invoke/MethodHandle" ∧ y.cls ≠ "java/lang/invoke/VarHandle")
    (hM : MetFree l y (head1 [Cond.code y bytes maxL none] rm) (fun a U => a = as' ∧ Z.Warmed39 U.vm ∧ U.heap = h) (fun _ _ _ _ _ => True) (fun _ U o U' => ∃ v L, o = .returned v ∧ Qc v U'.heap L ∧ FrameEnd U o U' L rm.cells rm.slots))
    (hf : rm.frames + 1 ≤ R.frames) (hl : W + (maxL + 11) + rm.locals ≤ R.locals) (eT : T.heap = h) (hg : g.method = m) (hsize : g.locals.size = c.maxLocals) {a : Addr} (ha : (Value.ref a :: argsL).toArray = as')
    (hlen : ∀ sig, parseMethodDescriptor y.desc = some sig → argsL.length = sig.parameters.length) (hstack : g.stack = argsL.reverse ++ .ref a :: rest) (hW : 2 * g.monitorRoom + (rest.map fun v => v.category).sum ≤ W) (hdg : decode c.code g.pc = .ok (.invokespecial index, 3))
    (hc : cells + rm.cells ≤ R.cells) (hs : slots + rm.slots ≤ R.slots) :
    ∃ (v : Option Value) (T' : State) (L : List Loc), Stand p l e R s m args below meth c T' (locs ++ L) (cells + rm.cells) (slots + rm.slots) ∧ Qc v T'.heap L ∧ ∀ target, Steps p.tables e below (T'.setTop { g with pc := g.pc + 3, stack := v.toList ++ rest }) target → Steps p.tables e below (T.setTop g) target := by
  obtain ⟨v, _, ⟨T', L', k', n'⟩, -, X', ⟨L, hQ, l1, l2, l3⟩, st⟩ := X.specialBack hx hy1 hown (mvT hZ w1) (mvT hZ w2) (mvT hZ w4) hy (backOf (W := W) hM hZ w4 w3 hf hl) (g := g) hg hsize (Steps.refl _) (a := a) (argsL := argsL) (rest := rest) hlen hstack hW hdg (fun _ _ => ⟨ha, eT, hc, hs⟩)
  dsimp only [Pt.U, Pt.locs, Pt.cells, Pt.slots] at X' l1 l2 l3 st hQ
  subst l1 l2 l3
  exact ⟨v, T', L, X', hQ, fun _ k => st.trans k⟩
theorem callVirt (X : Stand p l e R s m args below meth c T locs cells slots) (hx : p.tables.exec = Jvm.exec) (hZ : Z.Warmed39 s.vm) (hown : s.vm.findClass own = some m.cls) {C : String}
    (w1 : (Cond.methodLink own index y).before a0 Z = true) (w2 : (Cond.declares y).before a0 Z = true) (hnf : NotFace s y) (w3 : (Cond.selects C y z).before a0 Z = true) (w5 : (Cond.instanceMethod z).before a0 Z = true) (w6 : (Cond.initialized z.cls).before a0 Z = true) (w4 : (Cond.code z bytes maxL ret).before a0 Z = true)
    (hy : y.cls ≠ "java/lang/invoke/MethodHandle" ∧ y.cls ≠ "java/lang/invoke/VarHandle")
    (hM : MetFree l z (head1 [Cond.code z bytes maxL ret] rm) (fun a U => a = as' ∧ Z.Warmed39 U.vm ∧ U.heap = h) (fun _ _ _ _ _ => True) (fun _ U o U' => ∃ v L, o = .returned v ∧ Qc v U'.heap L ∧ FrameEnd U o U' L rm.cells rm.slots))
    (hf : rm.frames + 1 ≤ R.frames) (hl : W + (maxL + 11) + rm.locals ≤ R.locals) (eT : T.heap = h) {a : Addr} (E : Exa Z h a C) (hg : g.method = m) (hsize : g.locals.size = c.maxLocals) (ha : (Value.ref a :: argsL).toArray = as')
    (hlen : ∀ sig, parseMethodDescriptor y.desc = some sig → argsL.length = sig.parameters.length) (hstack : g.stack = argsL.reverse ++ .ref a :: rest) (hW : 2 * g.monitorRoom + (rest.map fun v => v.category).sum ≤ W) (hdg : decode c.code g.pc = .ok (.invokevirtual index, 3))
    (hc : cells + rm.cells ≤ R.cells) (hs : slots + rm.slots ≤ R.slots) :
    ∃ (v : Option Value) (T' : State) (L : List Loc), Stand p l e R s m args below meth c T' (locs ++ L) (cells + rm.cells) (slots + rm.slots) ∧ Qc v T'.heap L ∧ ∀ target, Steps p.tables e below (T'.setTop { g with pc := g.pc + 3, stack := v.toList ++ rest }) target → Steps p.tables e below (T.setTop g) target := by
  obtain ⟨cq, kq, q1, q2, q3⟩ := isOf hZ eT E
  obtain ⟨v, _, ⟨T', L', k', n'⟩, -, X', ⟨L, hQ, l1, l2, l3⟩, st⟩ := X.virtualBack hx hown (mvT hZ w1) (mvT hZ w2) hnf (mvT hZ w3) (mvT hZ w5) hy (backOf (W := W) hM hZ w4 w6 hf hl) q1 q3 (g := g) hg hsize (Steps.refl _) (argsL := argsL) (rest := rest) hlen hstack hW hdg (fun _ _ => ⟨ha, eT, hc, hs⟩)
  dsimp only [Pt.U, Pt.locs, Pt.cells, Pt.slots] at X' l1 l2 l3 st hQ
  subst l1 l2 l3
  exact ⟨v, T', L, X', hQ, fun _ k => st.trans k⟩
theorem callUp (X : Stand p l e R s m args below meth c T locs cells slots) (hx : p.tables.exec = Jvm.exec) (hZ : Z.Warmed39 s.vm) (hown : s.vm.findClass own = some m.cls) {C owner : String}
    (w1 : (Cond.methodLink own index y).before a0 Z = true) (w0 : (Cond.sameMethod y.cls owner y.name y.desc).before a0 Z = true) (w2 : (Cond.declares ⟨owner, y.name, y.desc⟩).before a0 Z = true) (ho : owner ≠ "java/lang/invoke/MethodHandle" ∧ owner ≠ "java/lang/invoke/VarHandle")
    (w3 : (Cond.selects C y z).before a0 Z = true) (w5 : (Cond.instanceMethod z).before a0 Z = true) (w6 : (Cond.initialized z.cls).before a0 Z = true) (w4 : (Cond.code z bytes maxL ret).before a0 Z = true)
    (hM : MetFree l z (head1 [Cond.code z bytes maxL ret] rm) (fun a U => a = as' ∧ Z.Warmed39 U.vm ∧ U.heap = h) (fun _ _ _ _ _ => True) (fun _ U o U' => ∃ v L, o = .returned v ∧ Qc v U'.heap L ∧ FrameEnd U o U' L rm.cells rm.slots))
    (hf : rm.frames + 1 ≤ R.frames) (hl : W + (maxL + 11) + rm.locals ≤ R.locals) (eT : T.heap = h) {a : Addr} (E : Exa Z h a C) (hg : g.method = m) (hsize : g.locals.size = c.maxLocals) (ha : (Value.ref a :: argsL).toArray = as')
    (hlen : ∀ sig, parseMethodDescriptor y.desc = some sig → argsL.length = sig.parameters.length) (hstack : g.stack = argsL.reverse ++ .ref a :: rest) (hW : 2 * g.monitorRoom + (rest.map fun v => v.category).sum ≤ W) (hdg : decode c.code g.pc = .ok (.invokevirtual index, 3))
    (hc : cells + rm.cells ≤ R.cells) (hs : slots + rm.slots ≤ R.slots) :
    ∃ (v : Option Value) (T' : State) (L : List Loc), Stand p l e R s m args below meth c T' (locs ++ L) (cells + rm.cells) (slots + rm.slots) ∧ Qc v T'.heap L ∧ ∀ target, Steps p.tables e below (T'.setTop { g with pc := g.pc + 3, stack := v.toList ++ rest }) target → Steps p.tables e below (T.setTop g) target := by
  obtain ⟨cq, kq, q1, q2, q3⟩ := isOf hZ eT E
  obtain ⟨v, _, ⟨T', L', k', n'⟩, -, X', ⟨L, hQ, l1, l2, l3⟩, st⟩ := X.virtualBackUp hx hown (mvT hZ w1) (mvT hZ w0) (mvT hZ w2) ho (mvT hZ w3) (mvT hZ w5) (backOf (W := W) hM hZ w4 w6 hf hl) q1 q3 (g := g) hg hsize (Steps.refl _) (argsL := argsL) (rest := rest) hlen hstack hW hdg (fun _ _ => ⟨ha, eT, hc, hs⟩)
  dsimp only [Pt.U, Pt.locs, Pt.cells, Pt.slots] at X' l1 l2 l3 st hQ
  subst l1 l2 l3
  exact ⟨v, T', L, X', hQ, fun _ k => st.trans k⟩
theorem callPriv (X : Stand p l e R s m args below meth c T locs cells slots) (hx : p.tables.exec = Jvm.exec) (hZ : Z.Warmed39 s.vm) (hown : s.vm.findClass own = some m.cls) {C : String} {kk : Nat}
    (w1 : (Cond.methodLink own index y).before a0 Z = true) (w2 : (Cond.instanceMethod y).before a0 Z = true) (wp : (Cond.privateMethod y).before a0 Z = true) (wi : (Cond.instantiable y.cls kk).before a0 Z = true) (w6 : (Cond.initialized y.cls).before a0 Z = true) (w4 : (Cond.code y bytes maxL ret).before a0 Z = true)
    (hy : y.cls ≠ "java/lang/invoke/MethodHandle" ∧ y.cls ≠ "java/lang/invoke/VarHandle")
    (hM : MetFree l y (head1 [Cond.code y bytes maxL ret] rm) (fun a U => a = as' ∧ Z.Warmed39 U.vm ∧ U.heap = h) (fun _ _ _ _ _ => True) (fun _ U o U' => ∃ v L, o = .returned v ∧ Qc v U'.heap L ∧ FrameEnd U o U' L rm.cells rm.slots))
    (hf : rm.frames + 1 ≤ R.frames) (hl : W + (maxL + 11) + rm.locals ≤ R.locals) (eT : T.heap = h) {a : Addr} (E : Exa Z h a C) (hg : g.method = m) (hsize : g.locals.size = c.maxLocals) (ha : (Value.ref a :: argsL).toArray = as')
    (hlen : ∀ sig, parseMethodDescriptor y.desc = some sig → argsL.length = sig.parameters.length) (hstack : g.stack = argsL.reverse ++ .ref a :: rest) (hW : 2 * g.monitorRoom + (rest.map fun v => v.category).sum ≤ W) (hdg : decode c.code g.pc = .ok (.invokevirtual index, 3))
    (hc : cells + rm.cells ≤ R.cells) (hs : slots + rm.slots ≤ R.slots) :
    ∃ (v : Option Value) (T' : State) (L : List Loc), Stand p l e R s m args below meth c T' (locs ++ L) (cells + rm.cells) (slots + rm.slots) ∧ Qc v T'.heap L ∧ ∀ target, Steps p.tables e below (T'.setTop { g with pc := g.pc + 3, stack := v.toList ++ rest }) target → Steps p.tables e below (T.setTop g) target := by
  obtain ⟨c2, k2, i1, i2, -, i4, -⟩ := Cond.instantiable_spec (mvT hZ wi (args := args))
  simp only [Bool.or_eq_false_iff] at i4
  have hpriv := Cond.privateMethod_at (mvP hZ wp (args := args))
  have hsel := selects_self_of_private (args := args) i1 i2 i4.1 hpriv (mvT hZ w2) hy
  obtain ⟨cl, q1, q2⟩ := E.cell
  obtain ⟨v, _, ⟨T', L', k', n'⟩, -, X', ⟨L, hQ, l1, l2, l3⟩, st⟩ := X.privateBack hx hown (mvT hZ w1) (mvT hZ w2) hsel hpriv (mvT hZ w4) hy (backOf (W := W) hM hZ w4 w6 hf hl) (g := g) hg hsize (Steps.refl _) (a := a) (cell := cl) (by rw [eT]; exact q1) q2 (argsL := argsL) (rest := rest) hlen hstack hW hdg (fun _ _ => ⟨ha, eT, hc, hs⟩)
  dsimp only [Pt.U, Pt.locs, Pt.cells, Pt.slots] at X' l1 l2 l3 st hQ
  subst l1 l2 l3
  exact ⟨v, T', L, X', hQ, fun _ k => st.trans k⟩
theorem callFace (X : Stand p l e R s m args below meth c T locs cells slots) (hx : p.tables.exec = Jvm.exec) (hZ : Z.Warmed39 s.vm) (hown : s.vm.findClass own = some m.cls) {C : String} {count : Nat}
    (w1 : (Cond.methodLink own index y).before a0 Z = true) (w2 : (Cond.declares y).before a0 Z = true) (wf : (Cond.interfaceMethod y.cls y.cls y.name y.desc).before args s = true) (w3 : (Cond.selects C y z).before a0 Z = true) (w5 : (Cond.instanceMethod z).before a0 Z = true) (wu : (Cond.publicMethod z).before a0 Z = true) (wh : (Cond.unhidden C y.name y.desc).before a0 Z = true) (wk : (Cond.castable C y.cls).before a0 Z = true) (w6 : (Cond.initialized z.cls).before a0 Z = true) (w4 : (Cond.code z bytes maxL ret).before a0 Z = true)
    (hy : y.cls ≠ "java/lang/invoke/MethodHandle" ∧ y.cls ≠ "java/lang/invoke/VarHandle")
    (hM : MetFree l z (head1 [Cond.code z bytes maxL ret] rm) (fun a U => a = as' ∧ Z.Warmed39 U.vm ∧ U.heap = h) (fun _ _ _ _ _ => True) (fun _ U o U' => ∃ v L, o = .returned v ∧ Qc v U'.heap L ∧ FrameEnd U o U' L rm.cells rm.slots))
    (hf : rm.frames + 1 ≤ R.frames) (hl : W + (maxL + 11) + rm.locals ≤ R.locals) (eT : T.heap = h) {a : Addr} (E : Exa Z h a C) (hg : g.method = m) (hsize : g.locals.size = c.maxLocals) (ha : (Value.ref a :: argsL).toArray = as')
    (hlen : ∀ sig, parseMethodDescriptor y.desc = some sig → argsL.length = sig.parameters.length) (hstack : g.stack = argsL.reverse ++ .ref a :: rest) (hW : 2 * g.monitorRoom + (rest.map fun v => v.category).sum ≤ W) (hdg : decode c.code g.pc = .ok (.invokeinterface index count, 5))
    (hc : cells + rm.cells ≤ R.cells) (hs : slots + rm.slots ≤ R.slots) :
    ∃ (v : Option Value) (T' : State) (L : List Loc), Stand p l e R s m args below meth c T' (locs ++ L) (cells + rm.cells) (slots + rm.slots) ∧ Qc v T'.heap L ∧ ∀ target, Steps p.tables e below (T'.setTop { g with pc := g.pc + 5, stack := v.toList ++ rest }) target → Steps p.tables e below (T.setTop g) target := by
  obtain ⟨cq, kq, q1, q2, q3⟩ := isOf hZ eT E
  obtain ⟨v, _, ⟨T', L', k', n'⟩, -, X', ⟨L, hQ, l1, l2, l3⟩, st⟩ := X.interfaceBack hx hown (mvT hZ w1) (mvT hZ w2) wf (mvT hZ w3) (mvT hZ w5) (mvT hZ wu) (mvT hZ wh) (mvT hZ wk) hy (backOf (W := W) hM hZ w4 w6 hf hl) q1 q2 q3 (g := g) hg hsize (Steps.refl _) (argsL := argsL) (rest := rest) hlen hstack hW hdg (fun _ _ => ⟨ha, eT, hc, hs⟩)
  dsimp only [Pt.U, Pt.locs, Pt.cells, Pt.slots] at X' l1 l2 l3 st hQ
  subst l1 l2 l3
  exact ⟨v, T', L, X', hQ, fun _ k => st.trans k⟩
end Call
/-- an object of C is none of K (K a class that can be made) -/
theorem NSroot {O K : String} {kk : Nat} (w : (Cond.noSuperclass O).before a0 Z = true) (wk : (Cond.instantiable K kk).before a0 Z = true) (hn : O ≠ K) : NS Z O K := by
  obtain ⟨c, k, h1, h2, h3, -, -⟩ := Cond.noSuperclass_spec w
  obtain ⟨t, kt, g1, -⟩ := Cond.instantiable_spec wk
  have ne := ids_ne h1 g1 hn
  refine ⟨c, t, h1, g1, fun fuel => ?_⟩
  cases fuel with
  | zero => rfl
  | succ f => simp [Vm.isSubclassAux, ne, h2, h3]
theorem NSno {C S K : String} {kk : Nat} (w : (Cond.superclass C S).before a0 Z = true) (wk : (Cond.instantiable K kk).before a0 Z = true) (n : NS Z C K) (hn : C ≠ K) : ∃ c t, Z.vm.findClass C = some c ∧ Z.vm.findClass K = some t ∧ Z.vm.assignable c t = false := by
  obtain ⟨c, t, h0, g0, n3⟩ := n
  obtain ⟨p, k, kp, h1, h2, h3, h4, h5, -, h7⟩ := Cond.superclass_spec h0 w
  obtain ⟨t', k', g1, g2, g5, g7, -⟩ := Cond.instantiable_spec wk
  cases g0.symm.trans g1
  simp only [Bool.or_eq_false_iff] at g7
  have ne := ids_ne h0 g0 hn
  refine ⟨c, t, h0, g0, ?_⟩
  show Z.vm.assignableAux (255 + 1) c t = false
  simp [Vm.assignableAux, ne, h2, g2, h5, g5, g7.1, Vm.isSubclass, n3]
end Own
end Jvm.OwnKit
namespace Jvm.Pilot.@@N@@
open Jvm Jvm.ClassFile Sem Op Lib Jvm.Free Jvm.Stand Jvm.LawKit Jvm.RoadKit Bundle Jvm.OwnKit Jvm.Pilot.@@N@@.Jvm.D

abbrev own_bt (l1 : Int32) (e1 z1 : Int64) (l2 : Int32) (e2 z2 : Int64) : Prop := e2 < e1 ∨ (e1 = e2 ∧ (z2 < z1 ∨ (z1 = z2 ∧ l2 < l1)))
theorem own_irr (l : Int32) (e z : Int64) : ¬ own_bt l e z l e z := by
  simp only [own_bt, Int64.lt_iff_toInt_lt, Int32.lt_iff_toInt_lt]; omega
abbrev fL0 (y0 : Addr) (y1 : Int32) (y2 : Int64) (y3 : Int64) : Array Slot := #[.val (.ref y0), .val (.int y1), .val (.long y2), .second, .val (.long y3), .second]
abbrev fL1 (y0 : Int32) (y1 : Int64) (y2 : Int64) (y3 : Int32) (y4 : Int64) (y5 : Int64) : Array Slot := #[.val (.int y0), .val (.long y1), .second, .val (.long y2), .second, .val (.int y3), .val (.long y4), .second, .val (.long y5), .second]
abbrev fL2 (y0 : Int32) (y1 : Int64) (y2 : Int64) (y3 : Int32) (y4 : Int64) (y5 : Int64) : Array Slot := #[.val (.int y0), .val (.long y1), .second, .val (.long y2), .second, .val (.int y3), .val (.long y4), .second, .val (.long y5), .second, .unset, .unset, .unset, .unset, .unset, .unset, .unset, .unset, .unset]
abbrev fL3 (y0 : Int32) (y1 : Int64) (y2 : Int64) (y3 : Int32) (y4 : Int64) (y5 : Int64) (y6 : Int64) : Array Slot := #[.val (.int y0), .val (.long y1), .second, .val (.long y2), .second, .val (.int y3), .val (.long y4), .second, .val (.long y5), .second, .val (.long y6), .second, .unset, .unset, .unset, .unset, .unset, .unset, .unset]
abbrev fL4 (y0 : Int32) (y1 : Int64) (y2 : Int64) (y3 : Int32) (y4 : Int64) (y5 : Int64) (y6 : Int64) (y7 : Int64) : Array Slot := #[.val (.int y0), .val (.long y1), .second, .val (.long y2), .second, .val (.int y3), .val (.long y4), .second, .val (.long y5), .second, .val (.long y6), .second, .val (.long y7), .second, .unset, .unset, .unset, .unset, .unset]
abbrev fL5 (y0 : Int32) (y1 : Int64) (y2 : Int64) (y3 : Int32) (y4 : Int64) (y5 : Int64) (y6 : Int64) (y7 : Int64) (y8 : Addr) : Array Slot := #[.val (.int y0), .val (.long y1), .second, .val (.long y2), .second, .val (.int y3), .val (.long y4), .second, .val (.long y5), .second, .val (.long y6), .second, .val (.long y7), .second, .val (.ref y8), .unset, .unset, .unset, .unset]
abbrev fL6 (y0 : Int32) (y1 : Int64) (y2 : Int64) (y3 : Int32) (y4 : Int64) (y5 : Int64) (y6 : Int64) (y7 : Int64) (y8 : Addr) (y9 : Addr) : Array Slot := #[.val (.int y0), .val (.long y1), .second, .val (.long y2), .second, .val (.int y3), .val (.long y4), .second, .val (.long y5), .second, .val (.long y6), .second, .val (.long y7), .second, .val (.ref y8), .val (.ref y9), .unset, .unset, .unset]
abbrev fL7 (y0 : Int32) (y1 : Int64) (y2 : Int64) (y3 : Int32) (y4 : Int64) (y5 : Int64) (y6 : Int64) (y7 : Int64) (y8 : Addr) (y9 : Addr) (y10 : Int32) : Array Slot := #[.val (.int y0), .val (.long y1), .second, .val (.long y2), .second, .val (.int y3), .val (.long y4), .second, .val (.long y5), .second, .val (.long y6), .second, .val (.long y7), .second, .val (.ref y8), .val (.ref y9), .val (.int y10), .unset, .unset]
abbrev fL8 (y0 : Int32) (y1 : Int64) (y2 : Int64) (y3 : Int32) (y4 : Int64) (y5 : Int64) (y6 : Int64) (y7 : Int64) (y8 : Addr) (y9 : Addr) (y10 : Int32) (y11 : Int32) : Array Slot := #[.val (.int y0), .val (.long y1), .second, .val (.long y2), .second, .val (.int y3), .val (.long y4), .second, .val (.long y5), .second, .val (.long y6), .second, .val (.long y7), .second, .val (.ref y8), .val (.ref y9), .val (.int y10), .val (.int y11), .unset]
abbrev fL9 (y0 : Int32) (y1 : Int64) (y2 : Int64) (y3 : Int32) (y4 : Int64) (y5 : Int64) (y6 : Int64) (y7 : Int64) (y8 : Addr) (y9 : Addr) (y10 : Int32) (y11 : Int32) (y12 : Int32) : Array Slot := #[.val (.int y0), .val (.long y1), .second, .val (.long y2), .second, .val (.int y3), .val (.long y4), .second, .val (.long y5), .second, .val (.long y6), .second, .val (.long y7), .second, .val (.ref y8), .val (.ref y9), .val (.int y10), .val (.int y11), .val (.int y12)]
theorem d_prog_29_method_1_code_0 : decode prog_29_method_1_code 0 = .ok (.aload_n 0, 1) := by decide +kernel
theorem d_prog_29_method_1_code_1 : decode prog_29_method_1_code 1 = .ok (.invokespecial 1, 3) := by decide +kernel
theorem d_prog_29_method_1_code_4 : decode prog_29_method_1_code 4 = .ok (.aload_n 0, 1) := by decide +kernel
theorem d_prog_29_method_1_code_5 : decode prog_29_method_1_code 5 = .ok (.iload_n 1, 1) := by decide +kernel
theorem d_prog_29_method_1_code_6 : decode prog_29_method_1_code 6 = .ok (.putfield 7, 3) := by decide +kernel
theorem d_prog_29_method_1_code_9 : decode prog_29_method_1_code 9 = .ok (.aload_n 0, 1) := by decide +kernel
theorem d_prog_29_method_1_code_10 : decode prog_29_method_1_code 10 = .ok (.lload_n 2, 1) := by decide +kernel
theorem d_prog_29_method_1_code_11 : decode prog_29_method_1_code 11 = .ok (.putfield 13, 3) := by decide +kernel
theorem d_prog_29_method_1_code_14 : decode prog_29_method_1_code 14 = .ok (.aload_n 0, 1) := by decide +kernel
theorem d_prog_29_method_1_code_15 : decode prog_29_method_1_code 15 = .ok (.lload 4, 2) := by decide +kernel
theorem d_prog_29_method_1_code_17 : decode prog_29_method_1_code 17 = .ok (.putfield 17, 3) := by decide +kernel
theorem d_prog_29_method_1_code_20 : decode prog_29_method_1_code 20 = .ok (.return_, 1) := by decide +kernel
theorem pn_com_example_bound_quorum_boundquorum_replication_Vote : plainName "com/example/bound_quorum/boundquorum/replication/Vote" = true := by first | (simp [plainName, overriddenIn]; done) | decide +kernel
theorem ef_rm_ini (m : MethodId) (y0 : Addr) (y1 : Int32) (y2 : Int64) (y3 : Int64) : entryFrame m #[(.ref y0), (.int y1), (.long y2), (.long y3)] 6 = mkF m 0 #[.val (.ref y0), .val (.int y1), .val (.long y2), .second, .val (.long y3), .second] [] := by first | (simp [entryFrame, mkF, argsToLocals, Value.category]; done) | rfl
def Q_rm_ini (Z : State) (a0' : Addr) (p1 : Int32) (q2 : Int64) (q3 : Int64) (h0 : Heap) (n0 : Nat) (v : Option Value) (h : Heap) (L : List Loc) : Prop := v = none ∧ Fr n0 L ∧ Keep h0 h [a0'] ∧ Exa Z h a0' "com/example/bound_quorum/boundquorum/replication/Vote" ∧ Fld Z h a0' "com/example/bound_quorum/boundquorum/replication/Vote" "leader" "I" (.int p1) ∧ Fld Z h a0' "com/example/bound_quorum/boundquorum/replication/Vote" "epoch" "J" (.long q2) ∧ Fld Z h a0' "com/example/bound_quorum/boundquorum/replication/Vote" "zxid" "J" (.long q3)
set_option maxRecDepth 65536 in
set_option maxHeartbeats 40000000 in
theorem rm_ini (l : Launch) (Z : State) (a0 : Array Value) (hw : ∀ d ∈ tables_1, d.before a0 Z = true) (ws : List Jvm.Cond) (a0' : Addr) (p1 : Int32) (q2 : Int64) (q3 : Int64) (h0 : Heap) (n0 : Nat) (ga : n0 ≤ a0') (EA : Exa Z h0 a0' "com/example/bound_quorum/boundquorum/replication/Vote") (F_leader : Fld Z h0 a0' "com/example/bound_quorum/boundquorum/replication/Vote" "leader" "I" (.int (0 : Int32))) (F_epoch : Fld Z h0 a0' "com/example/bound_quorum/boundquorum/replication/Vote" "epoch" "J" (.long (0 : Int64))) (F_zxid : Fld Z h0 a0' "com/example/bound_quorum/boundquorum/replication/Vote" "zxid" "J" (.long (0 : Int64))) :
    MetFree l (⟨"com/example/bound_quorum/boundquorum/replication/Vote", "<init>", "(IJJ)V"⟩ : MethodName) (head1 (Jvm.Cond.code (⟨"com/example/bound_quorum/boundquorum/replication/Vote", "<init>", "(IJJ)V"⟩ : MethodName) prog_29_method_1_code 6 none :: ws) ({ frames := 1, cells := 0, slots := 0, locals := 12 } : Room)) (fun a U => a = #[(.ref a0'), (.int p1), (.long q2), (.long q3)] ∧ Z.Warmed39 U.vm ∧ U.heap = h0) (fun _ _ _ _ _ => True) (fun _ U o U' => ∃ v L, o = .returned v ∧ Q_rm_ini Z a0' p1 q2 q3 h0 n0 v U'.heap L ∧ FrameEnd U o U' L 0 0) := by
  refine MetFree.of_bodySF (plainFor_of_name pn_com_example_bound_quorum_boundquorum_replication_Vote) hisR ?_
  intro p e s m args below meth c s₁ Bd hml0 hP hK
  obtain ⟨rfl, hZ, hh⟩ := hP
  have hx := Bd.exec
  have hby := Bd.bytes
  have hlk := Bd.notSynchronized
  have hml : c.maxLocals = 6 := hml0
  have hown : s.vm.findClass "com/example/bound_quorum/boundquorum/replication/Vote" = some m.cls := findClass_of_methodNamed Bd.named
  have hnm := (name_of_methodNamed Bd.named Bd.method).1
  have X0 : Stand p l e ({ frames := 1, cells := 0, slots := 0, locals := 12 } : Room) s m #[(.ref a0'), (.int p1), (.long q2), (.long q3)] below meth c s₁ [] 0 0 := Stand.of_body Bd
  have e0 : s₁.heap = h0 := by rw [← hh, Bd.state]; rfl
  have N0 := Fr.nil n0
  show OwnEnd p e below s (Q_rm_ini Z a0' p1 q2 q3 h0 n0) 0 0 (s₁.setTop (entryFrame m #[(.ref a0'), (.int p1), (.long q2), (.long q3)] 6))
  refine go (fun t k => castTop (ef_rm_ini m a0' p1 q2 q3) k) ?_
  have KK := Keep.refl h0 [a0']
  show OwnEnd _ _ _ _ _ _ _ (s₁.setTop (mkF m 0 (fL0 a0' p1 q2 q3) []))
  refine go (fun _ k => by refine XS.aloadN X0.here hx rfl (hb hby d_prog_29_method_1_code_0) rfl rfl ?_; exact k) ?_
  show OwnEnd _ _ _ _ _ _ _ (s₁.setTop (mkF m 1 (fL0 a0' p1 q2 q3) [(.ref a0')]))
  obtain ⟨T1, X1, e1, st1⟩ := initO X0 hx hZ hown (hw _ (List.mem_of_getElem? (i := 6) rfl)) (hw _ (List.mem_of_getElem? (i := 7) rfl)) (hw _ (List.mem_of_getElem? (i := 8) rfl)) e0 (g := (mkF m 1 (fL0 a0' p1 q2 q3) [(.ref a0')])) rfl (by rw [hml]; rfl) rfl (hb hby d_prog_29_method_1_code_1) (by decide) (W := 0) (by show 2 * 0 + _ ≤ _; exact Nat.le_of_eq rfl) (by decide)
  refine go st1 ?_
  refine go (fun _ k => by refine XS.aloadN X1.here hx rfl (hb hby d_prog_29_method_1_code_4) rfl rfl ?_; exact k) ?_
  refine go (fun _ k => by refine XS.iloadN X1.here hx rfl (hb hby d_prog_29_method_1_code_5) rfl ?_; exact k) ?_
  show OwnEnd _ _ _ _ _ _ _ (T1.setTop (mkF m 6 (fL0 a0' p1 q2 q3) [(.int p1), (.ref a0')]))
  obtain ⟨T2, h2, X2, e2, W2, st2⟩ := putF X1 hx hZ hown (host := "") (Or.inl (hw _ (List.mem_of_getElem? (i := 9) rfl))) Via.refl e1 F_leader EA (Or.inr ⟨(hw _ (List.mem_of_getElem? (i := 10) rfl)), rfl, hnm⟩) (hw _ (List.mem_of_getElem? (i := 1) rfl)) (ty := .int) (by decide) rfl rfl (g := (mkF m 6 (fL0 a0' p1 q2 q3) [(.int p1), (.ref a0')])) rfl rfl (hb hby d_prog_29_method_1_code_6)
  have N2 := Fr.snoc X2 N0 ga
  have EA := EA.wr W2
  have KK := Keep.wr KK W2 (Or.inl (List.mem_of_getElem? (i := 0) rfl))
  have F_epoch := F_epoch.other W2 (Or.inr (slot_ne (Or.inr (hw _ (List.mem_of_getElem? (i := 12) rfl))) (Or.inr (hw _ (List.mem_of_getElem? (i := 10) rfl))) (by decide) (t := .long) (t' := .int) (by decide) (by decide)))
  have F_zxid := F_zxid.other W2 (Or.inr (slot_ne (Or.inr (hw _ (List.mem_of_getElem? (i := 14) rfl))) (Or.inr (hw _ (List.mem_of_getElem? (i := 10) rfl))) (by decide) (t := .long) (t' := .int) (by decide) (by decide)))
  have F_leader := F_leader.same W2
  refine go st2 ?_
  refine go (fun _ k => by refine XS.aloadN X2.here hx rfl (hb hby d_prog_29_method_1_code_9) rfl rfl ?_; exact k) ?_
  refine go (fun _ k => by refine XS.lloadN X2.here hx rfl (hb hby d_prog_29_method_1_code_10) rfl ?_; exact k) ?_
  show OwnEnd _ _ _ _ _ _ _ (T2.setTop (mkF m 11 (fL0 a0' p1 q2 q3) [(.long q2), (.ref a0')]))
  obtain ⟨T3, h3, X3, e3, W3, st3⟩ := putF X2 hx hZ hown (host := "") (Or.inl (hw _ (List.mem_of_getElem? (i := 11) rfl))) Via.refl e2 F_epoch EA (Or.inr ⟨(hw _ (List.mem_of_getElem? (i := 12) rfl)), rfl, hnm⟩) (hw _ (List.mem_of_getElem? (i := 1) rfl)) (ty := .long) (by decide) rfl rfl (g := (mkF m 11 (fL0 a0' p1 q2 q3) [(.long q2), (.ref a0')])) rfl rfl (hb hby d_prog_29_method_1_code_11)
  have N3 := Fr.snoc X3 N2 ga
  have EA := EA.wr W3
  have KK := Keep.wr KK W3 (Or.inl (List.mem_of_getElem? (i := 0) rfl))
  have F_leader := F_leader.other W3 (Or.inr (slot_ne (Or.inr (hw _ (List.mem_of_getElem? (i := 10) rfl))) (Or.inr (hw _ (List.mem_of_getElem? (i := 12) rfl))) (by decide) (t := .int) (t' := .long) (by decide) (by decide)))
  have F_zxid := F_zxid.other W3 (Or.inr (slot_ne (Or.inr (hw _ (List.mem_of_getElem? (i := 14) rfl))) (Or.inr (hw _ (List.mem_of_getElem? (i := 12) rfl))) (by decide) (t := .long) (t' := .long) (by decide) (by decide)))
  have F_epoch := F_epoch.same W3
  refine go st3 ?_
  refine go (fun _ k => by refine XS.aloadN X3.here hx rfl (hb hby d_prog_29_method_1_code_14) rfl rfl ?_; exact k) ?_
  refine go (fun _ k => by refine XS.lload X3.here hx rfl (hb hby d_prog_29_method_1_code_15) rfl ?_; exact k) ?_
  show OwnEnd _ _ _ _ _ _ _ (T3.setTop (mkF m 17 (fL0 a0' p1 q2 q3) [(.long q3), (.ref a0')]))
  obtain ⟨T4, h4, X4, e4, W4, st4⟩ := putF X3 hx hZ hown (host := "") (Or.inl (hw _ (List.mem_of_getElem? (i := 13) rfl))) Via.refl e3 F_zxid EA (Or.inr ⟨(hw _ (List.mem_of_getElem? (i := 14) rfl)), rfl, hnm⟩) (hw _ (List.mem_of_getElem? (i := 1) rfl)) (ty := .long) (by decide) rfl rfl (g := (mkF m 17 (fL0 a0' p1 q2 q3) [(.long q3), (.ref a0')])) rfl rfl (hb hby d_prog_29_method_1_code_17)
  have N4 := Fr.snoc X4 N3 ga
  have EA := EA.wr W4
  have KK := Keep.wr KK W4 (Or.inl (List.mem_of_getElem? (i := 0) rfl))
  have F_leader := F_leader.other W4 (Or.inr (slot_ne (Or.inr (hw _ (List.mem_of_getElem? (i := 10) rfl))) (Or.inr (hw _ (List.mem_of_getElem? (i := 14) rfl))) (by decide) (t := .int) (t' := .long) (by decide) (by decide)))
  have F_epoch := F_epoch.other W4 (Or.inr (slot_ne (Or.inr (hw _ (List.mem_of_getElem? (i := 12) rfl))) (Or.inr (hw _ (List.mem_of_getElem? (i := 14) rfl))) (by decide) (t := .long) (t' := .long) (by decide) (by decide)))
  have F_zxid := F_zxid.same W4
  refine go st4 ?_
  show OwnEnd _ _ _ _ _ _ _ (T4.setTop (mkF m 20 (fL0 a0' p1 q2 q3) []))
  refine endV X4 hx hlk Bd.returns (hb hby d_prog_29_method_1_code_20) e4 (by decide) (by decide) ?_
  exact ⟨rfl, N4, KK, EA, F_leader, F_epoch, F_zxid⟩
theorem d_prog_29_method_5_code_0 : decode prog_29_method_5_code 0 = .ok (.aload_n 0, 1) := by decide +kernel
theorem d_prog_29_method_5_code_1 : decode prog_29_method_5_code 1 = .ok (.getfield 13, 3) := by decide +kernel
theorem d_prog_29_method_5_code_4 : decode prog_29_method_5_code 4 = .ok (.aload_n 1, 1) := by decide +kernel
theorem d_prog_29_method_5_code_5 : decode prog_29_method_5_code 5 = .ok (.getfield 13, 3) := by decide +kernel
theorem d_prog_29_method_5_code_8 : decode prog_29_method_5_code 8 = .ok (.lcmp, 1) := by decide +kernel
theorem d_prog_29_method_5_code_9 : decode prog_29_method_5_code 9 = .ok (.ifCond .eq 24, 3) := by decide +kernel
theorem d_prog_29_method_5_code_33 : decode prog_29_method_5_code 33 = .ok (.aload_n 0, 1) := by decide +kernel
theorem d_prog_29_method_5_code_34 : decode prog_29_method_5_code 34 = .ok (.getfield 17, 3) := by decide +kernel
theorem d_prog_29_method_5_code_37 : decode prog_29_method_5_code 37 = .ok (.aload_n 1, 1) := by decide +kernel
theorem d_prog_29_method_5_code_38 : decode prog_29_method_5_code 38 = .ok (.getfield 17, 3) := by decide +kernel
theorem d_prog_29_method_5_code_41 : decode prog_29_method_5_code 41 = .ok (.lcmp, 1) := by decide +kernel
theorem d_prog_29_method_5_code_42 : decode prog_29_method_5_code 42 = .ok (.ifCond .eq 24, 3) := by decide +kernel
theorem d_prog_29_method_5_code_66 : decode prog_29_method_5_code 66 = .ok (.aload_n 0, 1) := by decide +kernel
theorem d_prog_29_method_5_code_67 : decode prog_29_method_5_code 67 = .ok (.getfield 7, 3) := by decide +kernel
theorem d_prog_29_method_5_code_70 : decode prog_29_method_5_code 70 = .ok (.aload_n 1, 1) := by decide +kernel
theorem d_prog_29_method_5_code_71 : decode prog_29_method_5_code 71 = .ok (.getfield 7, 3) := by decide +kernel
theorem d_prog_29_method_5_code_74 : decode prog_29_method_5_code 74 = .ok (.if_icmp .le 7, 3) := by decide +kernel
theorem d_prog_29_method_5_code_77 : decode prog_29_method_5_code 77 = .ok (.iconst 1, 1) := by decide +kernel
theorem d_prog_29_method_5_code_78 : decode prog_29_method_5_code 78 = .ok (.goto 4, 3) := by decide +kernel
theorem d_prog_29_method_5_code_82 : decode prog_29_method_5_code 82 = .ok (.istore_n 2, 1) := by decide +kernel
theorem d_prog_29_method_5_code_83 : decode prog_29_method_5_code 83 = .ok (.iload_n 2, 1) := by decide +kernel
theorem d_prog_29_method_5_code_84 : decode prog_29_method_5_code 84 = .ok (.ireturn, 1) := by decide +kernel
theorem d_prog_29_method_5_code_81 : decode prog_29_method_5_code 81 = .ok (.iconst 0, 1) := by decide +kernel
theorem d_prog_29_method_5_code_45 : decode prog_29_method_5_code 45 = .ok (.aload_n 0, 1) := by decide +kernel
theorem d_prog_29_method_5_code_46 : decode prog_29_method_5_code 46 = .ok (.getfield 17, 3) := by decide +kernel
theorem d_prog_29_method_5_code_49 : decode prog_29_method_5_code 49 = .ok (.aload_n 1, 1) := by decide +kernel
theorem d_prog_29_method_5_code_50 : decode prog_29_method_5_code 50 = .ok (.getfield 17, 3) := by decide +kernel
theorem d_prog_29_method_5_code_53 : decode prog_29_method_5_code 53 = .ok (.lcmp, 1) := by decide +kernel
theorem d_prog_29_method_5_code_54 : decode prog_29_method_5_code 54 = .ok (.ifCond .le 7, 3) := by decide +kernel
theorem d_prog_29_method_5_code_57 : decode prog_29_method_5_code 57 = .ok (.iconst 1, 1) := by decide +kernel
theorem d_prog_29_method_5_code_58 : decode prog_29_method_5_code 58 = .ok (.goto 4, 3) := by decide +kernel
theorem d_prog_29_method_5_code_62 : decode prog_29_method_5_code 62 = .ok (.istore_n 2, 1) := by decide +kernel
theorem d_prog_29_method_5_code_63 : decode prog_29_method_5_code 63 = .ok (.goto 20, 3) := by decide +kernel
theorem d_prog_29_method_5_code_61 : decode prog_29_method_5_code 61 = .ok (.iconst 0, 1) := by decide +kernel
theorem d_prog_29_method_5_code_12 : decode prog_29_method_5_code 12 = .ok (.aload_n 0, 1) := by decide +kernel
theorem d_prog_29_method_5_code_13 : decode prog_29_method_5_code 13 = .ok (.getfield 13, 3) := by decide +kernel
theorem d_prog_29_method_5_code_16 : decode prog_29_method_5_code 16 = .ok (.aload_n 1, 1) := by decide +kernel
theorem d_prog_29_method_5_code_17 : decode prog_29_method_5_code 17 = .ok (.getfield 13, 3) := by decide +kernel
theorem d_prog_29_method_5_code_20 : decode prog_29_method_5_code 20 = .ok (.lcmp, 1) := by decide +kernel
theorem d_prog_29_method_5_code_21 : decode prog_29_method_5_code 21 = .ok (.ifCond .le 7, 3) := by decide +kernel
theorem d_prog_29_method_5_code_24 : decode prog_29_method_5_code 24 = .ok (.iconst 1, 1) := by decide +kernel
theorem d_prog_29_method_5_code_25 : decode prog_29_method_5_code 25 = .ok (.goto 4, 3) := by decide +kernel
theorem d_prog_29_method_5_code_29 : decode prog_29_method_5_code 29 = .ok (.istore_n 2, 1) := by decide +kernel
theorem d_prog_29_method_5_code_30 : decode prog_29_method_5_code 30 = .ok (.goto 53, 3) := by decide +kernel
theorem d_prog_29_method_5_code_28 : decode prog_29_method_5_code 28 = .ok (.iconst 0, 1) := by decide +kernel
theorem ef_rm_bet (m : MethodId) (y0 : Addr) (y1 : Addr) : entryFrame m #[(.ref y0), (.ref y1)] 3 = mkF m 0 #[.val (.ref y0), .val (.ref y1), .unset] [] := by first | (simp [entryFrame, mkF, argsToLocals, Value.category]; done) | rfl
def Q_rm_bet (Z : State) (a0' : Addr) (a1' : Addr) (le1 : Int32) (ep1 : Int64) (zx1 : Int64) (le2 : Int32) (ep2 : Int64) (zx2 : Int64) (h0 : Heap) (n0 : Nat) (v : Option Value) (h : Heap) (L : List Loc) : Prop := v = some (.int (if own_bt le1 ep1 zx1 le2 ep2 zx2 then (1 : Int32) else 0)) ∧ Fr n0 L ∧ h = h0
set_option maxRecDepth 65536 in
set_option maxHeartbeats 40000000 in
theorem rm_bet (l : Launch) (Z : State) (a0 : Array Value) (hw : ∀ d ∈ tables_1, d.before a0 Z = true) (ws : List Jvm.Cond) (a0' : Addr) (a1' : Addr) (le1 : Int32) (ep1 : Int64) (zx1 : Int64) (le2 : Int32) (ep2 : Int64) (zx2 : Int64) (h0 : Heap) (n0 : Nat) (G0 : Fld Z h0 a0' "com/example/bound_quorum/boundquorum/replication/Vote" "leader" "I" (.int le1)) (G1 : Fld Z h0 a0' "com/example/bound_quorum/boundquorum/replication/Vote" "epoch" "J" (.long ep1)) (G2 : Fld Z h0 a0' "com/example/bound_quorum/boundquorum/replication/Vote" "zxid" "J" (.long zx1)) (G3 : Fld Z h0 a1' "com/example/bound_quorum/boundquorum/replication/Vote" "leader" "I" (.int le2)) (G4 : Fld Z h0 a1' "com/example/bound_quorum/boundquorum/replication/Vote" "epoch" "J" (.long ep2)) (G5 : Fld Z h0 a1' "com/example/bound_quorum/boundquorum/replication/Vote" "zxid" "J" (.long zx2)) :
    MetFree l (⟨"com/example/bound_quorum/boundquorum/replication/Vote", "isBetterThan", "(Lcom/example/bound_quorum/boundquorum/replication/Vote;)Z"⟩ : MethodName) (head1 (Jvm.Cond.code (⟨"com/example/bound_quorum/boundquorum/replication/Vote", "isBetterThan", "(Lcom/example/bound_quorum/boundquorum/replication/Vote;)Z"⟩ : MethodName) prog_29_method_5_code 3 (some .boolean) :: ws) ({ frames := 0, cells := 0, slots := 0, locals := 0 } : Room)) (fun a U => a = #[(.ref a0'), (.ref a1')] ∧ Z.Warmed39 U.vm ∧ U.heap = h0) (fun _ _ _ _ _ => True) (fun _ U o U' => ∃ v L, o = .returned v ∧ Q_rm_bet Z a0' a1' le1 ep1 zx1 le2 ep2 zx2 h0 n0 v U'.heap L ∧ FrameEnd U o U' L 0 0) := by
  refine MetFree.of_bodySF (plainFor_of_name pn_com_example_bound_quorum_boundquorum_replication_Vote) hisR ?_
  intro p e s m args below meth c s₁ Bd hml0 hP hK
  obtain ⟨rfl, hZ, hh⟩ := hP
  have hx := Bd.exec
  have hby := Bd.bytes
  have hlk := Bd.notSynchronized
  have hml : c.maxLocals = 3 := hml0
  have hown : s.vm.findClass "com/example/bound_quorum/boundquorum/replication/Vote" = some m.cls := findClass_of_methodNamed Bd.named
  have hnm := (name_of_methodNamed Bd.named Bd.method).1
  have X0 : Stand p l e ({ frames := 0, cells := 0, slots := 0, locals := 0 } : Room) s m #[(.ref a0'), (.ref a1')] below meth c s₁ [] 0 0 := Stand.of_body Bd
  have e0 : s₁.heap = h0 := by rw [← hh, Bd.state]; rfl
  have N0 := Fr.nil n0
  show OwnEnd p e below s (Q_rm_bet Z a0' a1' le1 ep1 zx1 le2 ep2 zx2 h0 n0) 0 0 (s₁.setTop (entryFrame m #[(.ref a0'), (.ref a1')] 3))
  refine go (fun t k => castTop (ef_rm_bet m a0' a1') k) ?_
  show OwnEnd _ _ _ _ _ _ _ (s₁.setTop (mkF m 0 #[.val (.ref a0'), .val (.ref a1'), .unset] []))
  refine go (fun _ k => by refine XS.aloadN X0.here hx rfl (hb hby d_prog_29_method_5_code_0) rfl rfl ?_; exact k) ?_
  show OwnEnd _ _ _ _ _ _ _ (s₁.setTop (mkF m 1 #[.val (.ref a0'), .val (.ref a1'), .unset] [(.ref a0')]))
  obtain ⟨T1, X1, e1, st1⟩ := getF X0 hx hZ hown (host := "") (Or.inl (hw _ (List.mem_of_getElem? (i := 11) rfl))) Via.refl e0 G1 (g := (mkF m 1 #[.val (.ref a0'), .val (.ref a1'), .unset] [(.ref a0')])) rfl rfl (hb hby d_prog_29_method_5_code_1)
  refine go st1 ?_
  refine go (fun _ k => by refine XS.aloadN X1.here hx rfl (hb hby d_prog_29_method_5_code_4) rfl rfl ?_; exact k) ?_
  show OwnEnd _ _ _ _ _ _ _ (T1.setTop (mkF m 5 #[.val (.ref a0'), .val (.ref a1'), .unset] [(.ref a1'), (.long ep1)]))
  obtain ⟨T2, X2, e2, st2⟩ := getF X1 hx hZ hown (host := "") (Or.inl (hw _ (List.mem_of_getElem? (i := 11) rfl))) Via.refl e1 G4 (g := (mkF m 5 #[.val (.ref a0'), .val (.ref a1'), .unset] [(.ref a1'), (.long ep1)])) rfl rfl (hb hby d_prog_29_method_5_code_5)
  refine go st2 ?_
  refine go (fun _ k => by refine XS.lcmp X2.here hx rfl (hb hby d_prog_29_method_5_code_8) rfl ?_; exact k) ?_
  show OwnEnd _ _ _ _ _ _ _ (T2.setTop (mkF m 9 #[.val (.ref a0'), .val (.ref a1'), .unset] [(.int (lcmpW ep1 ep2))]))
  by_cases hc9_3 : ep1 = ep2
  · refine go (fun _ k => by refine XS.ifYes X2.here hx rfl (pc0 := 9) (pc' := 33) rfl (hb hby d_prog_29_method_5_code_9) rfl ((if0 _ _).trans (teq ((lw_eq _ _).mpr hc9_3)).1) (by decide) (by decide) ?_; exact k) ?_
    show OwnEnd _ _ _ _ _ _ _ (T2.setTop (mkF m 33 #[.val (.ref a0'), .val (.ref a1'), .unset] []))
    refine go (fun _ k => by refine XS.aloadN X2.here hx rfl (hb hby d_prog_29_method_5_code_33) rfl rfl ?_; exact k) ?_
    show OwnEnd _ _ _ _ _ _ _ (T2.setTop (mkF m 34 #[.val (.ref a0'), .val (.ref a1'), .unset] [(.ref a0')]))
    obtain ⟨T4, X4, e4, st4⟩ := getF X2 hx hZ hown (host := "") (Or.inl (hw _ (List.mem_of_getElem? (i := 13) rfl))) Via.refl e2 G2 (g := (mkF m 34 #[.val (.ref a0'), .val (.ref a1'), .unset] [(.ref a0')])) rfl rfl (hb hby d_prog_29_method_5_code_34)
    refine go st4 ?_
    refine go (fun _ k => by refine XS.aloadN X4.here hx rfl (hb hby d_prog_29_method_5_code_37) rfl rfl ?_; exact k) ?_
    show OwnEnd _ _ _ _ _ _ _ (T4.setTop (mkF m 38 #[.val (.ref a0'), .val (.ref a1'), .unset] [(.ref a1'), (.long zx1)]))
    obtain ⟨T5, X5, e5, st5⟩ := getF X4 hx hZ hown (host := "") (Or.inl (hw _ (List.mem_of_getElem? (i := 13) rfl))) Via.refl e4 G5 (g := (mkF m 38 #[.val (.ref a0'), .val (.ref a1'), .unset] [(.ref a1'), (.long zx1)])) rfl rfl (hb hby d_prog_29_method_5_code_38)
    refine go st5 ?_
    refine go (fun _ k => by refine XS.lcmp X5.here hx rfl (hb hby d_prog_29_method_5_code_41) rfl ?_; exact k) ?_
    show OwnEnd _ _ _ _ _ _ _ (T5.setTop (mkF m 42 #[.val (.ref a0'), .val (.ref a1'), .unset] [(.int (lcmpW zx1 zx2))]))
    by_cases hc42_6 : zx1 = zx2
    · refine go (fun _ k => by refine XS.ifYes X5.here hx rfl (pc0 := 42) (pc' := 66) rfl (hb hby d_prog_29_method_5_code_42) rfl ((if0 _ _).trans (teq ((lw_eq _ _).mpr hc42_6)).1) (by decide) (by decide) ?_; exact k) ?_
      show OwnEnd _ _ _ _ _ _ _ (T5.setTop (mkF m 66 #[.val (.ref a0'), .val (.ref a1'), .unset] []))
      refine go (fun _ k => by refine XS.aloadN X5.here hx rfl (hb hby d_prog_29_method_5_code_66) rfl rfl ?_; exact k) ?_
      show OwnEnd _ _ _ _ _ _ _ (T5.setTop (mkF m 67 #[.val (.ref a0'), .val (.ref a1'), .unset] [(.ref a0')]))
      obtain ⟨T7, X7, e7, st7⟩ := getF X5 hx hZ hown (host := "") (Or.inl (hw _ (List.mem_of_getElem? (i := 9) rfl))) Via.refl e5 G0 (g := (mkF m 67 #[.val (.ref a0'), .val (.ref a1'), .unset] [(.ref a0')])) rfl rfl (hb hby d_prog_29_method_5_code_67)
      refine go st7 ?_
      refine go (fun _ k => by refine XS.aloadN X7.here hx rfl (hb hby d_prog_29_method_5_code_70) rfl rfl ?_; exact k) ?_
      show OwnEnd _ _ _ _ _ _ _ (T7.setTop (mkF m 71 #[.val (.ref a0'), .val (.ref a1'), .unset] [(.ref a1'), (.int le1)]))
      obtain ⟨T8, X8, e8, st8⟩ := getF X7 hx hZ hown (host := "") (Or.inl (hw _ (List.mem_of_getElem? (i := 9) rfl))) Via.refl e7 G3 (g := (mkF m 71 #[.val (.ref a0'), .val (.ref a1'), .unset] [(.ref a1'), (.int le1)])) rfl rfl (hb hby d_prog_29_method_5_code_71)
      refine go st8 ?_
      show OwnEnd _ _ _ _ _ _ _ (T8.setTop (mkF m 74 #[.val (.ref a0'), .val (.ref a1'), .unset] [(.int le2), (.int le1)]))
      by_cases hc74_9 : le2 < le1
      · refine go (fun _ k => by refine XS.icmpNo X8.here hx rfl (hb hby d_prog_29_method_5_code_74) rfl (tlt hc74_9).2.2.2 ?_; exact k) ?_
        show OwnEnd _ _ _ _ _ _ _ (T8.setTop (mkF m 77 #[.val (.ref a0'), .val (.ref a1'), .unset] []))
        refine go (fun _ k => by refine XS.iconst X8.here hx rfl (hb hby d_prog_29_method_5_code_77) ?_; exact k) ?_
        refine go (fun _ k => by refine XS.goto X8.here hx rfl (pc0 := 78) (pc' := 82) rfl (hb hby d_prog_29_method_5_code_78) (by decide) (by decide) ?_; exact k) ?_
        refine go (fun _ k => by refine XS.istoreN X8.here hx rfl (hb hby d_prog_29_method_5_code_82) rfl (l' := #[.val (.ref a0'), .val (.ref a1'), .val (.int (1 : Int32))]) rfl ?_; exact k) ?_
        refine go (fun _ k => by refine XS.iloadN X8.here hx rfl (hb hby d_prog_29_method_5_code_83) rfl ?_; exact k) ?_
        show OwnEnd _ _ _ _ _ _ _ (T8.setTop (mkF m 84 #[.val (.ref a0'), .val (.ref a1'), .val (.int (1 : Int32))] [(.int (1 : Int32))]))
        refine endN X8 hx hlk (t := .boolean) (by simp) Bd.returns (hb hby d_prog_29_method_5_code_84) e8 (by decide) (by decide) ?_
        exact ⟨by rw [if_pos (by simp only [own_bt, Int64.lt_iff_toInt_lt, ← Int64.toInt_inj, Int32.lt_iff_toInt_lt, ← Int32.toInt_inj, Int32.reduceToInt, Int64.reduceToInt] at *; omega)]; rfl, N0, rfl⟩
      · refine go (fun _ k => by refine XS.icmpYes X8.here hx rfl (pc0 := 74) (pc' := 81) rfl (hb hby d_prog_29_method_5_code_74) rfl (flt hc74_9).2.2.2 (by decide) (by decide) ?_; exact k) ?_
        show OwnEnd _ _ _ _ _ _ _ (T8.setTop (mkF m 81 #[.val (.ref a0'), .val (.ref a1'), .unset] []))
        refine go (fun _ k => by refine XS.iconst X8.here hx rfl (hb hby d_prog_29_method_5_code_81) ?_; exact k) ?_
        refine go (fun _ k => by refine XS.istoreN X8.here hx rfl (hb hby d_prog_29_method_5_code_82) rfl (l' := #[.val (.ref a0'), .val (.ref a1'), .val (.int (0 : Int32))]) rfl ?_; exact k) ?_
        refine go (fun _ k => by refine XS.iloadN X8.here hx rfl (hb hby d_prog_29_method_5_code_83) rfl ?_; exact k) ?_
        show OwnEnd _ _ _ _ _ _ _ (T8.setTop (mkF m 84 #[.val (.ref a0'), .val (.ref a1'), .val (.int (0 : Int32))] [(.int (0 : Int32))]))
        refine endN X8 hx hlk (t := .boolean) (by simp) Bd.returns (hb hby d_prog_29_method_5_code_84) e8 (by decide) (by decide) ?_
        exact ⟨by rw [if_neg (by simp only [own_bt, Int64.lt_iff_toInt_lt, ← Int64.toInt_inj, Int32.lt_iff_toInt_lt, ← Int32.toInt_inj, Int32.reduceToInt, Int64.reduceToInt] at *; omega)]; rfl, N0, rfl⟩
    · refine go (fun _ k => by refine XS.ifNo X5.here hx rfl (hb hby d_prog_29_method_5_code_42) rfl ((if0 _ _).trans (feq (fun q => hc42_6 ((lw_eq _ _).mp q))).1) ?_; exact k) ?_
      show OwnEnd _ _ _ _ _ _ _ (T5.setTop (mkF m 45 #[.val (.ref a0'), .val (.ref a1'), .unset] []))
      refine go (fun _ k => by refine XS.aloadN X5.here hx rfl (hb hby d_prog_29_method_5_code_45) rfl rfl ?_; exact k) ?_
      show OwnEnd _ _ _ _ _ _ _ (T5.setTop (mkF m 46 #[.val (.ref a0'), .val (.ref a1'), .unset] [(.ref a0')]))
      obtain ⟨T10, X10, e10, st10⟩ := getF X5 hx hZ hown (host := "") (Or.inl (hw _ (List.mem_of_getElem? (i := 13) rfl))) Via.refl e5 G2 (g := (mkF m 46 #[.val (.ref a0'), .val (.ref a1'), .unset] [(.ref a0')])) rfl rfl (hb hby d_prog_29_method_5_code_46)
      refine go st10 ?_
      refine go (fun _ k => by refine XS.aloadN X10.here hx rfl (hb hby d_prog_29_method_5_code_49) rfl rfl ?_; exact k) ?_
      show OwnEnd _ _ _ _ _ _ _ (T10.setTop (mkF m 50 #[.val (.ref a0'), .val (.ref a1'), .unset] [(.ref a1'), (.long zx1)]))
      obtain ⟨T11, X11, e11, st11⟩ := getF X10 hx hZ hown (host := "") (Or.inl (hw _ (List.mem_of_getElem? (i := 13) rfl))) Via.refl e10 G5 (g := (mkF m 50 #[.val (.ref a0'), .val (.ref a1'), .unset] [(.ref a1'), (.long zx1)])) rfl rfl (hb hby d_prog_29_method_5_code_50)
      refine go st11 ?_
      refine go (fun _ k => by refine XS.lcmp X11.here hx rfl (hb hby d_prog_29_method_5_code_53) rfl ?_; exact k) ?_
      show OwnEnd _ _ _ _ _ _ _ (T11.setTop (mkF m 54 #[.val (.ref a0'), .val (.ref a1'), .unset] [(.int (lcmpW zx1 zx2))]))
      by_cases hc54_12 : zx2 < zx1
      · refine go (fun _ k => by refine XS.ifNo X11.here hx rfl (hb hby d_prog_29_method_5_code_54) rfl ((if0 _ _).trans (tlt ((lw_gt _ _).mpr hc54_12)).2.2.2) ?_; exact k) ?_
        show OwnEnd _ _ _ _ _ _ _ (T11.setTop (mkF m 57 #[.val (.ref a0'), .val (.ref a1'), .unset] []))
        refine go (fun _ k => by refine XS.iconst X11.here hx rfl (hb hby d_prog_29_method_5_code_57) ?_; exact k) ?_
        refine go (fun _ k => by refine XS.goto X11.here hx rfl (pc0 := 58) (pc' := 62) rfl (hb hby d_prog_29_method_5_code_58) (by decide) (by decide) ?_; exact k) ?_
        refine go (fun _ k => by refine XS.istoreN X11.here hx rfl (hb hby d_prog_29_method_5_code_62) rfl (l' := #[.val (.ref a0'), .val (.ref a1'), .val (.int (1 : Int32))]) rfl ?_; exact k) ?_
        refine go (fun _ k => by refine XS.goto X11.here hx rfl (pc0 := 63) (pc' := 83) rfl (hb hby d_prog_29_method_5_code_63) (by decide) (by decide) ?_; exact k) ?_
        show OwnEnd _ _ _ _ _ _ _ (T11.setTop (mkF m 83 #[.val (.ref a0'), .val (.ref a1'), .val (.int (1 : Int32))] []))
        refine go (fun _ k => by refine XS.iloadN X11.here hx rfl (hb hby d_prog_29_method_5_code_83) rfl ?_; exact k) ?_
        show OwnEnd _ _ _ _ _ _ _ (T11.setTop (mkF m 84 #[.val (.ref a0'), .val (.ref a1'), .val (.int (1 : Int32))] [(.int (1 : Int32))]))
        refine endN X11 hx hlk (t := .boolean) (by simp) Bd.returns (hb hby d_prog_29_method_5_code_84) e11 (by decide) (by decide) ?_
        exact ⟨by rw [if_pos (by simp only [own_bt, Int64.lt_iff_toInt_lt, ← Int64.toInt_inj, Int32.lt_iff_toInt_lt, ← Int32.toInt_inj, Int32.reduceToInt, Int64.reduceToInt] at *; omega)]; rfl, N0, rfl⟩
      · refine go (fun _ k => by refine XS.ifYes X11.here hx rfl (pc0 := 54) (pc' := 61) rfl (hb hby d_prog_29_method_5_code_54) rfl ((if0 _ _).trans (flt (fun q => hc54_12 ((lw_gt _ _).mp q))).2.2.2) (by decide) (by decide) ?_; exact k) ?_
        show OwnEnd _ _ _ _ _ _ _ (T11.setTop (mkF m 61 #[.val (.ref a0'), .val (.ref a1'), .unset] []))
        refine go (fun _ k => by refine XS.iconst X11.here hx rfl (hb hby d_prog_29_method_5_code_61) ?_; exact k) ?_
        refine go (fun _ k => by refine XS.istoreN X11.here hx rfl (hb hby d_prog_29_method_5_code_62) rfl (l' := #[.val (.ref a0'), .val (.ref a1'), .val (.int (0 : Int32))]) rfl ?_; exact k) ?_
        refine go (fun _ k => by refine XS.goto X11.here hx rfl (pc0 := 63) (pc' := 83) rfl (hb hby d_prog_29_method_5_code_63) (by decide) (by decide) ?_; exact k) ?_
        refine go (fun _ k => by refine XS.iloadN X11.here hx rfl (hb hby d_prog_29_method_5_code_83) rfl ?_; exact k) ?_
        show OwnEnd _ _ _ _ _ _ _ (T11.setTop (mkF m 84 #[.val (.ref a0'), .val (.ref a1'), .val (.int (0 : Int32))] [(.int (0 : Int32))]))
        refine endN X11 hx hlk (t := .boolean) (by simp) Bd.returns (hb hby d_prog_29_method_5_code_84) e11 (by decide) (by decide) ?_
        exact ⟨by rw [if_neg (by simp only [own_bt, Int64.lt_iff_toInt_lt, ← Int64.toInt_inj, Int32.lt_iff_toInt_lt, ← Int32.toInt_inj, Int32.reduceToInt, Int64.reduceToInt] at *; omega)]; rfl, N0, rfl⟩
  · refine go (fun _ k => by refine XS.ifNo X2.here hx rfl (hb hby d_prog_29_method_5_code_9) rfl ((if0 _ _).trans (feq (fun q => hc9_3 ((lw_eq _ _).mp q))).1) ?_; exact k) ?_
    show OwnEnd _ _ _ _ _ _ _ (T2.setTop (mkF m 12 #[.val (.ref a0'), .val (.ref a1'), .unset] []))
    refine go (fun _ k => by refine XS.aloadN X2.here hx rfl (hb hby d_prog_29_method_5_code_12) rfl rfl ?_; exact k) ?_
    show OwnEnd _ _ _ _ _ _ _ (T2.setTop (mkF m 13 #[.val (.ref a0'), .val (.ref a1'), .unset] [(.ref a0')]))
    obtain ⟨T13, X13, e13, st13⟩ := getF X2 hx hZ hown (host := "") (Or.inl (hw _ (List.mem_of_getElem? (i := 11) rfl))) Via.refl e2 G1 (g := (mkF m 13 #[.val (.ref a0'), .val (.ref a1'), .unset] [(.ref a0')])) rfl rfl (hb hby d_prog_29_method_5_code_13)
    refine go st13 ?_
    refine go (fun _ k => by refine XS.aloadN X13.here hx rfl (hb hby d_prog_29_method_5_code_16) rfl rfl ?_; exact k) ?_
    show OwnEnd _ _ _ _ _ _ _ (T13.setTop (mkF m 17 #[.val (.ref a0'), .val (.ref a1'), .unset] [(.ref a1'), (.long ep1)]))
    obtain ⟨T14, X14, e14, st14⟩ := getF X13 hx hZ hown (host := "") (Or.inl (hw _ (List.mem_of_getElem? (i := 11) rfl))) Via.refl e13 G4 (g := (mkF m 17 #[.val (.ref a0'), .val (.ref a1'), .unset] [(.ref a1'), (.long ep1)])) rfl rfl (hb hby d_prog_29_method_5_code_17)
    refine go st14 ?_
    refine go (fun _ k => by refine XS.lcmp X14.here hx rfl (hb hby d_prog_29_method_5_code_20) rfl ?_; exact k) ?_
    show OwnEnd _ _ _ _ _ _ _ (T14.setTop (mkF m 21 #[.val (.ref a0'), .val (.ref a1'), .unset] [(.int (lcmpW ep1 ep2))]))
    by_cases hc21_15 : ep2 < ep1
    · refine go (fun _ k => by refine XS.ifNo X14.here hx rfl (hb hby d_prog_29_method_5_code_21) rfl ((if0 _ _).trans (tlt ((lw_gt _ _).mpr hc21_15)).2.2.2) ?_; exact k) ?_
      show OwnEnd _ _ _ _ _ _ _ (T14.setTop (mkF m 24 #[.val (.ref a0'), .val (.ref a1'), .unset] []))
      refine go (fun _ k => by refine XS.iconst X14.here hx rfl (hb hby d_prog_29_method_5_code_24) ?_; exact k) ?_
      refine go (fun _ k => by refine XS.goto X14.here hx rfl (pc0 := 25) (pc' := 29) rfl (hb hby d_prog_29_method_5_code_25) (by decide) (by decide) ?_; exact k) ?_
      refine go (fun _ k => by refine XS.istoreN X14.here hx rfl (hb hby d_prog_29_method_5_code_29) rfl (l' := #[.val (.ref a0'), .val (.ref a1'), .val (.int (1 : Int32))]) rfl ?_; exact k) ?_
      refine go (fun _ k => by refine XS.goto X14.here hx rfl (pc0 := 30) (pc' := 83) rfl (hb hby d_prog_29_method_5_code_30) (by decide) (by decide) ?_; exact k) ?_
      show OwnEnd _ _ _ _ _ _ _ (T14.setTop (mkF m 83 #[.val (.ref a0'), .val (.ref a1'), .val (.int (1 : Int32))] []))
      refine go (fun _ k => by refine XS.iloadN X14.here hx rfl (hb hby d_prog_29_method_5_code_83) rfl ?_; exact k) ?_
      show OwnEnd _ _ _ _ _ _ _ (T14.setTop (mkF m 84 #[.val (.ref a0'), .val (.ref a1'), .val (.int (1 : Int32))] [(.int (1 : Int32))]))
      refine endN X14 hx hlk (t := .boolean) (by simp) Bd.returns (hb hby d_prog_29_method_5_code_84) e14 (by decide) (by decide) ?_
      exact ⟨by rw [if_pos (by simp only [own_bt, Int64.lt_iff_toInt_lt, ← Int64.toInt_inj, Int32.lt_iff_toInt_lt, ← Int32.toInt_inj, Int32.reduceToInt, Int64.reduceToInt] at *; omega)]; rfl, N0, rfl⟩
    · refine go (fun _ k => by refine XS.ifYes X14.here hx rfl (pc0 := 21) (pc' := 28) rfl (hb hby d_prog_29_method_5_code_21) rfl ((if0 _ _).trans (flt (fun q => hc21_15 ((lw_gt _ _).mp q))).2.2.2) (by decide) (by decide) ?_; exact k) ?_
      show OwnEnd _ _ _ _ _ _ _ (T14.setTop (mkF m 28 #[.val (.ref a0'), .val (.ref a1'), .unset] []))
      refine go (fun _ k => by refine XS.iconst X14.here hx rfl (hb hby d_prog_29_method_5_code_28) ?_; exact k) ?_
      refine go (fun _ k => by refine XS.istoreN X14.here hx rfl (hb hby d_prog_29_method_5_code_29) rfl (l' := #[.val (.ref a0'), .val (.ref a1'), .val (.int (0 : Int32))]) rfl ?_; exact k) ?_
      refine go (fun _ k => by refine XS.goto X14.here hx rfl (pc0 := 30) (pc' := 83) rfl (hb hby d_prog_29_method_5_code_30) (by decide) (by decide) ?_; exact k) ?_
      refine go (fun _ k => by refine XS.iloadN X14.here hx rfl (hb hby d_prog_29_method_5_code_83) rfl ?_; exact k) ?_
      show OwnEnd _ _ _ _ _ _ _ (T14.setTop (mkF m 84 #[.val (.ref a0'), .val (.ref a1'), .val (.int (0 : Int32))] [(.int (0 : Int32))]))
      refine endN X14 hx hlk (t := .boolean) (by simp) Bd.returns (hb hby d_prog_29_method_5_code_84) e14 (by decide) (by decide) ?_
      exact ⟨by rw [if_neg (by simp only [own_bt, Int64.lt_iff_toInt_lt, ← Int64.toInt_inj, Int32.lt_iff_toInt_lt, ← Int32.toInt_inj, Int32.reduceToInt, Int64.reduceToInt] at *; omega)]; rfl, N0, rfl⟩
theorem d_method_2_code_0 : decode method_2_code 0 = .ok (.lload_n 1, 1) := by decide +kernel
theorem d_method_2_code_1 : decode method_2_code 1 = .ok (.lload 6, 2) := by decide +kernel
theorem d_method_2_code_3 : decode method_2_code 3 = .ok (.lcmp, 1) := by decide +kernel
theorem d_method_2_code_4 : decode method_2_code 4 = .ok (.ifCond .gt 30, 3) := by decide +kernel
theorem d_method_2_code_34 : decode method_2_code 34 = .ok (.iconst 1, 1) := by decide +kernel
theorem d_method_2_code_35 : decode method_2_code 35 = .ok (.goto 4, 3) := by decide +kernel
theorem d_method_2_code_39 : decode method_2_code 39 = .ok (.ireturn, 1) := by decide +kernel
theorem d_method_2_code_7 : decode method_2_code 7 = .ok (.lload_n 1, 1) := by decide +kernel
theorem d_method_2_code_8 : decode method_2_code 8 = .ok (.lload 6, 2) := by decide +kernel
theorem d_method_2_code_10 : decode method_2_code 10 = .ok (.lcmp, 1) := by decide +kernel
theorem d_method_2_code_11 : decode method_2_code 11 = .ok (.ifCond .ne 27, 3) := by decide +kernel
theorem d_method_2_code_14 : decode method_2_code 14 = .ok (.lload_n 3, 1) := by decide +kernel
theorem d_method_2_code_15 : decode method_2_code 15 = .ok (.lload 8, 2) := by decide +kernel
theorem d_method_2_code_17 : decode method_2_code 17 = .ok (.lcmp, 1) := by decide +kernel
theorem d_method_2_code_18 : decode method_2_code 18 = .ok (.ifCond .gt 16, 3) := by decide +kernel
theorem d_method_2_code_21 : decode method_2_code 21 = .ok (.lload_n 3, 1) := by decide +kernel
theorem d_method_2_code_22 : decode method_2_code 22 = .ok (.lload 8, 2) := by decide +kernel
theorem d_method_2_code_24 : decode method_2_code 24 = .ok (.lcmp, 1) := by decide +kernel
theorem d_method_2_code_25 : decode method_2_code 25 = .ok (.ifCond .ne 13, 3) := by decide +kernel
theorem d_method_2_code_28 : decode method_2_code 28 = .ok (.iload_n 0, 1) := by decide +kernel
theorem d_method_2_code_29 : decode method_2_code 29 = .ok (.iload 5, 2) := by decide +kernel
theorem d_method_2_code_31 : decode method_2_code 31 = .ok (.if_icmp .le 7, 3) := by decide +kernel
theorem d_method_2_code_38 : decode method_2_code 38 = .ok (.iconst 0, 1) := by decide +kernel
theorem pn_com_example_bound_quorum_boundquorum_replication_VoteIsBetterThanPinLaw : plainName "com/example/bound_quorum/boundquorum/replication/VoteIsBetterThanPinLaw" = true := by first | (simp [plainName, overriddenIn]; done) | decide +kernel
theorem ef_rm_ref (m : MethodId) (y0 : Int32) (y1 : Int64) (y2 : Int64) (y3 : Int32) (y4 : Int64) (y5 : Int64) : entryFrame m #[(.int y0), (.long y1), (.long y2), (.int y3), (.long y4), (.long y5)] 10 = mkF m 0 #[.val (.int y0), .val (.long y1), .second, .val (.long y2), .second, .val (.int y3), .val (.long y4), .second, .val (.long y5), .second] [] := by first | (simp [entryFrame, mkF, argsToLocals, Value.category]; done) | rfl
def Q_rm_ref (Z : State) (le1 : Int32) (ep1 : Int64) (zx1 : Int64) (le2 : Int32) (ep2 : Int64) (zx2 : Int64) (h0 : Heap) (n0 : Nat) (v : Option Value) (h : Heap) (L : List Loc) : Prop := v = some (.int (if own_bt le1 ep1 zx1 le2 ep2 zx2 then (1 : Int32) else 0)) ∧ Fr n0 L ∧ h = h0
set_option maxRecDepth 65536 in
set_option maxHeartbeats 40000000 in
theorem rm_ref (l : Launch) (Z : State) (a0 : Array Value) (hw : ∀ d ∈ tables_1, d.before a0 Z = true) (ws : List Jvm.Cond) (le1 : Int32) (ep1 : Int64) (zx1 : Int64) (le2 : Int32) (ep2 : Int64) (zx2 : Int64) (h0 : Heap) (n0 : Nat) :
    MetFree l (⟨"com/example/bound_quorum/boundquorum/replication/VoteIsBetterThanPinLaw", "ref", "(IJJIJJ)Z"⟩ : MethodName) (head1 (Jvm.Cond.code (⟨"com/example/bound_quorum/boundquorum/replication/VoteIsBetterThanPinLaw", "ref", "(IJJIJJ)Z"⟩ : MethodName) method_2_code 10 (some .boolean) :: ws) ({ frames := 0, cells := 0, slots := 0, locals := 0 } : Room)) (fun a U => a = #[(.int le1), (.long ep1), (.long zx1), (.int le2), (.long ep2), (.long zx2)] ∧ Z.Warmed39 U.vm ∧ U.heap = h0) (fun _ _ _ _ _ => True) (fun _ U o U' => ∃ v L, o = .returned v ∧ Q_rm_ref Z le1 ep1 zx1 le2 ep2 zx2 h0 n0 v U'.heap L ∧ FrameEnd U o U' L 0 0) := by
  refine MetFree.of_bodySF (plainFor_of_name pn_com_example_bound_quorum_boundquorum_replication_VoteIsBetterThanPinLaw) hisR ?_
  intro p e s m args below meth c s₁ Bd hml0 hP hK
  obtain ⟨rfl, hZ, hh⟩ := hP
  have hx := Bd.exec
  have hby := Bd.bytes
  have hlk := Bd.notSynchronized
  have hml : c.maxLocals = 10 := hml0
  have hown : s.vm.findClass "com/example/bound_quorum/boundquorum/replication/VoteIsBetterThanPinLaw" = some m.cls := findClass_of_methodNamed Bd.named
  have hnm := (name_of_methodNamed Bd.named Bd.method).1
  have X0 : Stand p l e ({ frames := 0, cells := 0, slots := 0, locals := 0 } : Room) s m #[(.int le1), (.long ep1), (.long zx1), (.int le2), (.long ep2), (.long zx2)] below meth c s₁ [] 0 0 := Stand.of_body Bd
  have e0 : s₁.heap = h0 := by rw [← hh, Bd.state]; rfl
  have N0 := Fr.nil n0
  show OwnEnd p e below s (Q_rm_ref Z le1 ep1 zx1 le2 ep2 zx2 h0 n0) 0 0 (s₁.setTop (entryFrame m #[(.int le1), (.long ep1), (.long zx1), (.int le2), (.long ep2), (.long zx2)] 10))
  refine go (fun t k => castTop (ef_rm_ref m le1 ep1 zx1 le2 ep2 zx2) k) ?_
  show OwnEnd _ _ _ _ _ _ _ (s₁.setTop (mkF m 0 (fL1 le1 ep1 zx1 le2 ep2 zx2) []))
  refine go (fun _ k => by refine XS.lloadN X0.here hx rfl (hb hby d_method_2_code_0) rfl ?_; exact k) ?_
  refine go (fun _ k => by refine XS.lload X0.here hx rfl (hb hby d_method_2_code_1) rfl ?_; exact k) ?_
  refine go (fun _ k => by refine XS.lcmp X0.here hx rfl (hb hby d_method_2_code_3) rfl ?_; exact k) ?_
  show OwnEnd _ _ _ _ _ _ _ (s₁.setTop (mkF m 4 (fL1 le1 ep1 zx1 le2 ep2 zx2) [(.int (lcmpW ep1 ep2))]))
  by_cases hc4_1 : ep2 < ep1
  · refine go (fun _ k => by refine XS.ifYes X0.here hx rfl (pc0 := 4) (pc' := 34) rfl (hb hby d_method_2_code_4) rfl ((if0 _ _).trans (tlt ((lw_gt _ _).mpr hc4_1)).2.2.1) (by decide) (by decide) ?_; exact k) ?_
    show OwnEnd _ _ _ _ _ _ _ (s₁.setTop (mkF m 34 (fL1 le1 ep1 zx1 le2 ep2 zx2) []))
    refine go (fun _ k => by refine XS.iconst X0.here hx rfl (hb hby d_method_2_code_34) ?_; exact k) ?_
    refine go (fun _ k => by refine XS.goto X0.here hx rfl (pc0 := 35) (pc' := 39) rfl (hb hby d_method_2_code_35) (by decide) (by decide) ?_; exact k) ?_
    show OwnEnd _ _ _ _ _ _ _ (s₁.setTop (mkF m 39 (fL1 le1 ep1 zx1 le2 ep2 zx2) [(.int (1 : Int32))]))
    refine endN X0 hx hlk (t := .boolean) (by simp) Bd.returns (hb hby d_method_2_code_39) e0 (by decide) (by decide) ?_
    exact ⟨by rw [if_pos (by simp only [own_bt, Int64.lt_iff_toInt_lt, ← Int64.toInt_inj, Int32.lt_iff_toInt_lt, ← Int32.toInt_inj, Int32.reduceToInt, Int64.reduceToInt] at *; omega)]; rfl, N0, rfl⟩
  · refine go (fun _ k => by refine XS.ifNo X0.here hx rfl (hb hby d_method_2_code_4) rfl ((if0 _ _).trans (flt (fun q => hc4_1 ((lw_gt _ _).mp q))).2.2.1) ?_; exact k) ?_
    show OwnEnd _ _ _ _ _ _ _ (s₁.setTop (mkF m 7 (fL1 le1 ep1 zx1 le2 ep2 zx2) []))
    refine go (fun _ k => by refine XS.lloadN X0.here hx rfl (hb hby d_method_2_code_7) rfl ?_; exact k) ?_
    refine go (fun _ k => by refine XS.lload X0.here hx rfl (hb hby d_method_2_code_8) rfl ?_; exact k) ?_
    refine go (fun _ k => by refine XS.lcmp X0.here hx rfl (hb hby d_method_2_code_10) rfl ?_; exact k) ?_
    show OwnEnd _ _ _ _ _ _ _ (s₁.setTop (mkF m 11 (fL1 le1 ep1 zx1 le2 ep2 zx2) [(.int (lcmpW ep1 ep2))]))
    by_cases hc11_2 : ep1 = ep2
    · refine go (fun _ k => by refine XS.ifNo X0.here hx rfl (hb hby d_method_2_code_11) rfl ((if0 _ _).trans (teq ((lw_eq _ _).mpr hc11_2)).2) ?_; exact k) ?_
      show OwnEnd _ _ _ _ _ _ _ (s₁.setTop (mkF m 14 (fL1 le1 ep1 zx1 le2 ep2 zx2) []))
      refine go (fun _ k => by refine XS.lloadN X0.here hx rfl (hb hby d_method_2_code_14) rfl ?_; exact k) ?_
      refine go (fun _ k => by refine XS.lload X0.here hx rfl (hb hby d_method_2_code_15) rfl ?_; exact k) ?_
      refine go (fun _ k => by refine XS.lcmp X0.here hx rfl (hb hby d_method_2_code_17) rfl ?_; exact k) ?_
      show OwnEnd _ _ _ _ _ _ _ (s₁.setTop (mkF m 18 (fL1 le1 ep1 zx1 le2 ep2 zx2) [(.int (lcmpW zx1 zx2))]))
      by_cases hc18_3 : zx2 < zx1
      · refine go (fun _ k => by refine XS.ifYes X0.here hx rfl (pc0 := 18) (pc' := 34) rfl (hb hby d_method_2_code_18) rfl ((if0 _ _).trans (tlt ((lw_gt _ _).mpr hc18_3)).2.2.1) (by decide) (by decide) ?_; exact k) ?_
        show OwnEnd _ _ _ _ _ _ _ (s₁.setTop (mkF m 34 (fL1 le1 ep1 zx1 le2 ep2 zx2) []))
        refine go (fun _ k => by refine XS.iconst X0.here hx rfl (hb hby d_method_2_code_34) ?_; exact k) ?_
        refine go (fun _ k => by refine XS.goto X0.here hx rfl (pc0 := 35) (pc' := 39) rfl (hb hby d_method_2_code_35) (by decide) (by decide) ?_; exact k) ?_
        show OwnEnd _ _ _ _ _ _ _ (s₁.setTop (mkF m 39 (fL1 le1 ep1 zx1 le2 ep2 zx2) [(.int (1 : Int32))]))
        refine endN X0 hx hlk (t := .boolean) (by simp) Bd.returns (hb hby d_method_2_code_39) e0 (by decide) (by decide) ?_
        exact ⟨by rw [if_pos (by simp only [own_bt, Int64.lt_iff_toInt_lt, ← Int64.toInt_inj, Int32.lt_iff_toInt_lt, ← Int32.toInt_inj, Int32.reduceToInt, Int64.reduceToInt] at *; omega)]; rfl, N0, rfl⟩
      · refine go (fun _ k => by refine XS.ifNo X0.here hx rfl (hb hby d_method_2_code_18) rfl ((if0 _ _).trans (flt (fun q => hc18_3 ((lw_gt _ _).mp q))).2.2.1) ?_; exact k) ?_
        show OwnEnd _ _ _ _ _ _ _ (s₁.setTop (mkF m 21 (fL1 le1 ep1 zx1 le2 ep2 zx2) []))
        refine go (fun _ k => by refine XS.lloadN X0.here hx rfl (hb hby d_method_2_code_21) rfl ?_; exact k) ?_
        refine go (fun _ k => by refine XS.lload X0.here hx rfl (hb hby d_method_2_code_22) rfl ?_; exact k) ?_
        refine go (fun _ k => by refine XS.lcmp X0.here hx rfl (hb hby d_method_2_code_24) rfl ?_; exact k) ?_
        show OwnEnd _ _ _ _ _ _ _ (s₁.setTop (mkF m 25 (fL1 le1 ep1 zx1 le2 ep2 zx2) [(.int (lcmpW zx1 zx2))]))
        by_cases hc25_4 : zx1 = zx2
        · refine go (fun _ k => by refine XS.ifNo X0.here hx rfl (hb hby d_method_2_code_25) rfl ((if0 _ _).trans (teq ((lw_eq _ _).mpr hc25_4)).2) ?_; exact k) ?_
          show OwnEnd _ _ _ _ _ _ _ (s₁.setTop (mkF m 28 (fL1 le1 ep1 zx1 le2 ep2 zx2) []))
          refine go (fun _ k => by refine XS.iloadN X0.here hx rfl (hb hby d_method_2_code_28) rfl ?_; exact k) ?_
          refine go (fun _ k => by refine XS.iload X0.here hx rfl (hb hby d_method_2_code_29) rfl ?_; exact k) ?_
          show OwnEnd _ _ _ _ _ _ _ (s₁.setTop (mkF m 31 (fL1 le1 ep1 zx1 le2 ep2 zx2) [(.int le2), (.int le1)]))
          by_cases hc31_5 : le2 < le1
          · refine go (fun _ k => by refine XS.icmpNo X0.here hx rfl (hb hby d_method_2_code_31) rfl (tlt hc31_5).2.2.2 ?_; exact k) ?_
            show OwnEnd _ _ _ _ _ _ _ (s₁.setTop (mkF m 34 (fL1 le1 ep1 zx1 le2 ep2 zx2) []))
            refine go (fun _ k => by refine XS.iconst X0.here hx rfl (hb hby d_method_2_code_34) ?_; exact k) ?_
            refine go (fun _ k => by refine XS.goto X0.here hx rfl (pc0 := 35) (pc' := 39) rfl (hb hby d_method_2_code_35) (by decide) (by decide) ?_; exact k) ?_
            show OwnEnd _ _ _ _ _ _ _ (s₁.setTop (mkF m 39 (fL1 le1 ep1 zx1 le2 ep2 zx2) [(.int (1 : Int32))]))
            refine endN X0 hx hlk (t := .boolean) (by simp) Bd.returns (hb hby d_method_2_code_39) e0 (by decide) (by decide) ?_
            exact ⟨by rw [if_pos (by simp only [own_bt, Int64.lt_iff_toInt_lt, ← Int64.toInt_inj, Int32.lt_iff_toInt_lt, ← Int32.toInt_inj, Int32.reduceToInt, Int64.reduceToInt] at *; omega)]; rfl, N0, rfl⟩
          · refine go (fun _ k => by refine XS.icmpYes X0.here hx rfl (pc0 := 31) (pc' := 38) rfl (hb hby d_method_2_code_31) rfl (flt hc31_5).2.2.2 (by decide) (by decide) ?_; exact k) ?_
            show OwnEnd _ _ _ _ _ _ _ (s₁.setTop (mkF m 38 (fL1 le1 ep1 zx1 le2 ep2 zx2) []))
            refine go (fun _ k => by refine XS.iconst X0.here hx rfl (hb hby d_method_2_code_38) ?_; exact k) ?_
            show OwnEnd _ _ _ _ _ _ _ (s₁.setTop (mkF m 39 (fL1 le1 ep1 zx1 le2 ep2 zx2) [(.int (0 : Int32))]))
            refine endN X0 hx hlk (t := .boolean) (by simp) Bd.returns (hb hby d_method_2_code_39) e0 (by decide) (by decide) ?_
            exact ⟨by rw [if_neg (by simp only [own_bt, Int64.lt_iff_toInt_lt, ← Int64.toInt_inj, Int32.lt_iff_toInt_lt, ← Int32.toInt_inj, Int32.reduceToInt, Int64.reduceToInt] at *; omega)]; rfl, N0, rfl⟩
        · refine go (fun _ k => by refine XS.ifYes X0.here hx rfl (pc0 := 25) (pc' := 38) rfl (hb hby d_method_2_code_25) rfl ((if0 _ _).trans (feq (fun q => hc25_4 ((lw_eq _ _).mp q))).2) (by decide) (by decide) ?_; exact k) ?_
          show OwnEnd _ _ _ _ _ _ _ (s₁.setTop (mkF m 38 (fL1 le1 ep1 zx1 le2 ep2 zx2) []))
          refine go (fun _ k => by refine XS.iconst X0.here hx rfl (hb hby d_method_2_code_38) ?_; exact k) ?_
          show OwnEnd _ _ _ _ _ _ _ (s₁.setTop (mkF m 39 (fL1 le1 ep1 zx1 le2 ep2 zx2) [(.int (0 : Int32))]))
          refine endN X0 hx hlk (t := .boolean) (by simp) Bd.returns (hb hby d_method_2_code_39) e0 (by decide) (by decide) ?_
          exact ⟨by rw [if_neg (by simp only [own_bt, Int64.lt_iff_toInt_lt, ← Int64.toInt_inj, Int32.lt_iff_toInt_lt, ← Int32.toInt_inj, Int32.reduceToInt, Int64.reduceToInt] at *; omega)]; rfl, N0, rfl⟩
    · refine go (fun _ k => by refine XS.ifYes X0.here hx rfl (pc0 := 11) (pc' := 38) rfl (hb hby d_method_2_code_11) rfl ((if0 _ _).trans (feq (fun q => hc11_2 ((lw_eq _ _).mp q))).2) (by decide) (by decide) ?_; exact k) ?_
      show OwnEnd _ _ _ _ _ _ _ (s₁.setTop (mkF m 38 (fL1 le1 ep1 zx1 le2 ep2 zx2) []))
      refine go (fun _ k => by refine XS.iconst X0.here hx rfl (hb hby d_method_2_code_38) ?_; exact k) ?_
      show OwnEnd _ _ _ _ _ _ _ (s₁.setTop (mkF m 39 (fL1 le1 ep1 zx1 le2 ep2 zx2) [(.int (0 : Int32))]))
      refine endN X0 hx hlk (t := .boolean) (by simp) Bd.returns (hb hby d_method_2_code_39) e0 (by decide) (by decide) ?_
      exact ⟨by rw [if_neg (by simp only [own_bt, Int64.lt_iff_toInt_lt, ← Int64.toInt_inj, Int32.lt_iff_toInt_lt, ← Int32.toInt_inj, Int32.reduceToInt, Int64.reduceToInt] at *; omega)]; rfl, N0, rfl⟩
theorem pd__IJJ_V : parseMethodDescriptor "(IJJ)V" = some ⟨[.int, .long, .long], none⟩ := by decide +kernel
theorem pd__Lcom_example_bound_quorum_boundquorum_replication_Vote__Z : parseMethodDescriptor "(Lcom/example/bound_quorum/boundquorum/replication/Vote;)Z" = some ⟨[(.object "com/example/bound_quorum/boundquorum/replication/Vote")], some .boolean⟩ := by decide +kernel
theorem pd__IJJIJJ_Z : parseMethodDescriptor "(IJJIJJ)Z" = some ⟨[.int, .long, .long, .int, .long, .long], some .boolean⟩ := by decide +kernel
theorem ef_rm_law (m : MethodId) (y0 : Int32) (y1 : Int64) (y2 : Int64) (y3 : Int32) (y4 : Int64) (y5 : Int64) : entryFrame m #[(.int y0), (.long y1), (.long y2), (.int y3), (.long y4), (.long y5)] maxLocals = mkF m 0 #[.val (.int y0), .val (.long y1), .second, .val (.long y2), .second, .val (.int y3), .val (.long y4), .second, .val (.long y5), .second, .unset, .unset, .unset, .unset, .unset, .unset, .unset, .unset, .unset] [] := by first | (simp [entryFrame, mkF, argsToLocals, Value.category, maxLocals]; done) | rfl
def Q_rm_law (Z : State) (p0 : Int32) (q1 : Int64) (q2 : Int64) (p3 : Int32) (q4 : Int64) (q5 : Int64) (h0 : Heap) (n0 : Nat) (v : Option Value) (h : Heap) (L : List Loc) : Prop := v = some (.int 1) ∧ Fr n0 L
set_option maxRecDepth 65536 in
set_option maxHeartbeats 40000000 in
theorem rm_law (l : Launch) (Z : State) (a0 : Array Value) (hw : ∀ d ∈ tables_1, d.before a0 Z = true) (ws : List Jvm.Cond) (p0 : Int32) (q1 : Int64) (q2 : Int64) (p3 : Int32) (q4 : Int64) (q5 : Int64) (h0 : Heap) (n0 : Nat) (Z0 : n0 ≤ h0.size) :
    MetFree l x (head1 (Jvm.Cond.code x code maxLocals ret :: ws) room_1) (fun a U => a = #[(.int p0), (.long q1), (.long q2), (.int p3), (.long q4), (.long q5)] ∧ Z.Warmed39 U.vm ∧ U.heap = h0) (fun _ _ _ _ _ => True) (fun _ U o U' => ∃ v L, o = .returned v ∧ Q_rm_law Z p0 q1 q2 p3 q4 q5 h0 n0 v U'.heap L ∧ FrameEnd U o U' L 16 128) := by
  refine MetFree.of_bodySF (plainFor_of_name pn_com_example_bound_quorum_boundquorum_replication_VoteIsBetterThanPinLaw) hisR ?_
  intro p e s m args below meth c s₁ Bd hml0 hP hK
  obtain ⟨rfl, hZ, hh⟩ := hP
  have hx := Bd.exec
  have hby := Bd.bytes
  have hlk := Bd.notSynchronized
  have hml : c.maxLocals = 19 := hml0
  have hown : s.vm.findClass "com/example/bound_quorum/boundquorum/replication/VoteIsBetterThanPinLaw" = some m.cls := findClass_of_methodNamed Bd.named
  have hnm := (name_of_methodNamed Bd.named Bd.method).1
  have X0 : Stand p l e room_1 s m #[(.int p0), (.long q1), (.long q2), (.int p3), (.long q4), (.long q5)] below meth c s₁ [] 0 0 := Stand.of_body Bd
  have e0 : s₁.heap = h0 := by rw [← hh, Bd.state]; rfl
  have N0 := Fr.nil n0
  show OwnEnd p e below s (Q_rm_law Z p0 q1 q2 p3 q4 q5 h0 n0) 16 128 (s₁.setTop (entryFrame m #[(.int p0), (.long q1), (.long q2), (.int p3), (.long q4), (.long q5)] maxLocals))
  refine go (fun t k => castTop (ef_rm_law m p0 q1 q2 p3 q4 q5) k) ?_
  show OwnEnd _ _ _ _ _ _ _ (s₁.setTop (mkF m 0 (fL2 p0 q1 q2 p3 q4 q5) []))
  refine go (fun _ k => by refine XS.iload X0.here hx rfl (hb hby at_0) rfl ?_; exact k) ?_
  refine go (fun _ k => by refine XS.iconst X0.here hx rfl (hb hby at_2) ?_; exact k) ?_
  refine go (fun _ k => by refine XS.iand X0.here hx rfl (hb hby at_3) rfl ?_; exact k) ?_
  show OwnEnd _ _ _ _ _ _ _ (s₁.setTop (mkF m 4 (fL2 p0 q1 q2 p3 q4 q5) [(.int (p3 &&& (1 : Int32)))]))
  have J2 : ∀ (x2_s0 : Int64) (qx2_s0 : x2_s0 = (if (p3 &&& (1 : Int32)) = (0 : Int32) then q4 else q1)), OwnEnd p e below s (Q_rm_law Z p0 q1 q2 p3 q4 q5 h0 n0) 16 128 (s₁.setTop (mkF m 13 (fL2 p0 q1 q2 p3 q4 q5) [(.long x2_s0)])) := by
    intro x2_s0 qx2_s0
    show OwnEnd _ _ _ _ _ _ _ (s₁.setTop (mkF m 13 (fL2 p0 q1 q2 p3 q4 q5) [(.long x2_s0)]))
    refine go (fun _ k => by refine XS.lstore X0.here hx rfl (hb hby at_13) rfl (l' := (fL3 p0 q1 q2 p3 q4 q5 x2_s0)) rfl ?_; exact k) ?_
    refine go (fun _ k => by refine XS.iload X0.here hx rfl (hb hby at_15) rfl ?_; exact k) ?_
    refine go (fun _ k => by refine XS.iconst X0.here hx rfl (hb hby at_17) ?_; exact k) ?_
    refine go (fun _ k => by refine XS.iand X0.here hx rfl (hb hby at_18) rfl ?_; exact k) ?_
    show OwnEnd _ _ _ _ _ _ _ (s₁.setTop (mkF m 19 (fL3 p0 q1 q2 p3 q4 q5 x2_s0) [(.int (p3 &&& (2 : Int32)))]))
    have J4 : ∀ (x4_s0 : Int64) (qx4_s0 : x4_s0 = (if (p3 &&& (2 : Int32)) = (0 : Int32) then q5 else q2)), OwnEnd p e below s (Q_rm_law Z p0 q1 q2 p3 q4 q5 h0 n0) 16 128 (s₁.setTop (mkF m 28 (fL3 p0 q1 q2 p3 q4 q5 x2_s0) [(.long x4_s0)])) := by
      intro x4_s0 qx4_s0
      show OwnEnd _ _ _ _ _ _ _ (s₁.setTop (mkF m 28 (fL3 p0 q1 q2 p3 q4 q5 x2_s0) [(.long x4_s0)]))
      refine go (fun _ k => by refine XS.lstore X0.here hx rfl (hb hby at_28) rfl (l' := (fL4 p0 q1 q2 p3 q4 q5 x2_s0 x4_s0)) rfl ?_; exact k) ?_
      show OwnEnd _ _ _ _ _ _ _ (s₁.setTop (mkF m 30 (fL4 p0 q1 q2 p3 q4 q5 x2_s0 x4_s0) []))
      obtain ⟨T5, h5, X5, e5, E5, A5, D5, -, st5⟩ := newO X0 hx hZ hown (hw _ (List.mem_of_getElem? (i := 0) rfl)) (hw _ (List.mem_of_getElem? (i := 1) rfl)) (hw _ (List.mem_of_getElem? (i := 2) rfl)) e0 (g := (mkF m 30 (fL4 p0 q1 q2 p3 q4 q5 x2_s0 x4_s0) [])) rfl (hb hby at_30) (by decide) (by decide)
      obtain ⟨b5, g5⟩ : ∃ z, z = h0.size := ⟨_, rfl⟩
      rw [← g5] at A5 D5 st5
      have g_b5 : n0 ≤ b5 := Nat.le_trans Z0 (Nat.le_of_eq g5.symm)
      have Z0 := Nat.le_trans Z0 E5.1
      have F_leader_b5 : Fld Z h5 b5 "com/example/bound_quorum/boundquorum/replication/Vote" "leader" "I" (.int (0 : Int32)) := D5 (Or.inr (hw _ (List.mem_of_getElem? (i := 10) rfl))) (ty := .int) (by decide)
      have F_epoch_b5 : Fld Z h5 b5 "com/example/bound_quorum/boundquorum/replication/Vote" "epoch" "J" (.long (0 : Int64)) := D5 (Or.inr (hw _ (List.mem_of_getElem? (i := 12) rfl))) (ty := .long) (by decide)
      have F_zxid_b5 : Fld Z h5 b5 "com/example/bound_quorum/boundquorum/replication/Vote" "zxid" "J" (.long (0 : Int64)) := D5 (Or.inr (hw _ (List.mem_of_getElem? (i := 14) rfl))) (ty := .long) (by decide)
      have E_b5 := A5
      refine go st5 ?_
      refine go (fun _ k => by refine XS.dup X5.here hx rfl (hb hby at_33) rfl rfl ?_; exact k) ?_
      refine go (fun _ k => by refine XS.iloadN X5.here hx rfl (hb hby at_34) rfl ?_; exact k) ?_
      refine go (fun _ k => by refine XS.lloadN X5.here hx rfl (hb hby at_35) rfl ?_; exact k) ?_
      show OwnEnd _ _ _ _ _ _ _ (T5.setTop (mkF m 36 (fL4 p0 q1 q2 p3 q4 q5 x2_s0 x4_s0) [(.long q1), (.int p0), (.ref b5), (.ref b5)]))
      refine go (fun _ k => by refine XS.lloadN X5.here hx rfl (hb hby at_36) rfl ?_; exact k) ?_
      show OwnEnd _ _ _ _ _ _ _ (T5.setTop (mkF m 37 (fL4 p0 q1 q2 p3 q4 q5 x2_s0 x4_s0) [(.long q2), (.long q1), (.int p0), (.ref b5), (.ref b5)]))
      obtain ⟨_, T6, L6, X6, hQ6, st6⟩ := callInit X5 hx hZ hown rfl (hw _ (List.mem_of_getElem? (i := 3) rfl)) (hw _ (List.mem_of_getElem? (i := 4) rfl)) (hw _ (List.mem_of_getElem? (i := 2) rfl)) (hw _ (List.mem_of_getElem? (i := 5) rfl)) (by decide) (rm_ini l Z a0 hw [] b5 p0 q1 q2 h5 n0 g_b5 E_b5 F_leader_b5 F_epoch_b5 F_zxid_b5) (W := 1) (by decide) (by decide) e5 (g := (mkF m 37 (fL4 p0 q1 q2 p3 q4 q5 x2_s0 x4_s0) [(.long q2), (.long q1), (.int p0), (.ref b5), (.ref b5)])) rfl (by rw [hml]; rfl) (argsL := [(.int p0), (.long q1), (.long q2)]) (rest := [(.ref b5)]) rfl (lenOf pd__IJJ_V rfl) rfl (by show 2 * 0 + _ ≤ _; exact Nat.le_of_eq rfl) (hb hby at_37) (by decide) (by decide)
      obtain ⟨rfl, Nq6, K6, E_b5, F_leader_b5, F_epoch_b5, F_zxid_b5⟩ := hQ6
      have N6 := Fr.app N0 Nq6
      have Z0 := Nat.le_trans Z0 K6.1
      refine go st6 ?_
      refine go (fun _ k => by refine XS.astore X6.here hx rfl (hb hby at_40) rfl rfl (l' := (fL5 p0 q1 q2 p3 q4 q5 x2_s0 x4_s0 b5)) rfl ?_; exact k) ?_
      show OwnEnd _ _ _ _ _ _ _ (T6.setTop (mkF m 42 (fL5 p0 q1 q2 p3 q4 q5 x2_s0 x4_s0 b5) []))
      obtain ⟨T7, h7, X7, e7, E7, A7, D7, -, st7⟩ := newO X6 hx hZ hown (hw _ (List.mem_of_getElem? (i := 0) rfl)) (hw _ (List.mem_of_getElem? (i := 1) rfl)) (hw _ (List.mem_of_getElem? (i := 2) rfl)) rfl (g := (mkF m 42 (fL5 p0 q1 q2 p3 q4 q5 x2_s0 x4_s0 b5) [])) rfl (hb hby at_42) (by decide) (by decide)
      obtain ⟨b7, g7⟩ : ∃ z, z = T6.heap.size := ⟨_, rfl⟩
      rw [← g7] at A7 D7 st7
      have ne_b5_b7 : b5 ≠ b7 := fun q => absurd E_b5.lt (by rw [q, g7]; exact Nat.lt_irrefl _)
      have g_b7 : n0 ≤ b7 := Nat.le_trans Z0 (Nat.le_of_eq g7.symm)
      have Z0 := Nat.le_trans Z0 E7.1
      have E_b5 := E_b5.ext E7
      have F_leader_b5 := F_leader_b5.ext E7
      have F_epoch_b5 := F_epoch_b5.ext E7
      have F_zxid_b5 := F_zxid_b5.ext E7
      have F_leader_b7 : Fld Z h7 b7 "com/example/bound_quorum/boundquorum/replication/Vote" "leader" "I" (.int (0 : Int32)) := D7 (Or.inr (hw _ (List.mem_of_getElem? (i := 10) rfl))) (ty := .int) (by decide)
      have F_epoch_b7 : Fld Z h7 b7 "com/example/bound_quorum/boundquorum/replication/Vote" "epoch" "J" (.long (0 : Int64)) := D7 (Or.inr (hw _ (List.mem_of_getElem? (i := 12) rfl))) (ty := .long) (by decide)
      have F_zxid_b7 : Fld Z h7 b7 "com/example/bound_quorum/boundquorum/replication/Vote" "zxid" "J" (.long (0 : Int64)) := D7 (Or.inr (hw _ (List.mem_of_getElem? (i := 14) rfl))) (ty := .long) (by decide)
      have E_b7 := A7
      refine go st7 ?_
      refine go (fun _ k => by refine XS.dup X7.here hx rfl (hb hby at_45) rfl rfl ?_; exact k) ?_
      refine go (fun _ k => by refine XS.iload X7.here hx rfl (hb hby at_46) rfl ?_; exact k) ?_
      refine go (fun _ k => by refine XS.lload X7.here hx rfl (hb hby at_48) rfl ?_; exact k) ?_
      show OwnEnd _ _ _ _ _ _ _ (T7.setTop (mkF m 50 (fL5 p0 q1 q2 p3 q4 q5 x2_s0 x4_s0 b5) [(.long x2_s0), (.int p3), (.ref b7), (.ref b7)]))
      refine go (fun _ k => by refine XS.lload X7.here hx rfl (hb hby at_50) rfl ?_; exact k) ?_
      show OwnEnd _ _ _ _ _ _ _ (T7.setTop (mkF m 52 (fL5 p0 q1 q2 p3 q4 q5 x2_s0 x4_s0 b5) [(.long x4_s0), (.long x2_s0), (.int p3), (.ref b7), (.ref b7)]))
      obtain ⟨_, T8, L8, X8, hQ8, st8⟩ := callInit X7 hx hZ hown rfl (hw _ (List.mem_of_getElem? (i := 3) rfl)) (hw _ (List.mem_of_getElem? (i := 4) rfl)) (hw _ (List.mem_of_getElem? (i := 2) rfl)) (hw _ (List.mem_of_getElem? (i := 5) rfl)) (by decide) (rm_ini l Z a0 hw [] b7 p3 x2_s0 x4_s0 h7 n0 g_b7 E_b7 F_leader_b7 F_epoch_b7 F_zxid_b7) (W := 1) (by decide) (by decide) e7 (g := (mkF m 52 (fL5 p0 q1 q2 p3 q4 q5 x2_s0 x4_s0 b5) [(.long x4_s0), (.long x2_s0), (.int p3), (.ref b7), (.ref b7)])) rfl (by rw [hml]; rfl) (argsL := [(.int p3), (.long x2_s0), (.long x4_s0)]) (rest := [(.ref b7)]) rfl (lenOf pd__IJJ_V rfl) rfl (by show 2 * 0 + _ ≤ _; exact Nat.le_of_eq rfl) (hb hby at_52) (by decide) (by decide)
      obtain ⟨rfl, Nq8, K8, E_b7, F_leader_b7, F_epoch_b7, F_zxid_b7⟩ := hQ8
      have N8 := Fr.app N6 Nq8
      have Z0 := Nat.le_trans Z0 K8.1
      have E_b5 := E_b5.keep K8
      have F_leader_b5 := F_leader_b5.keep K8 (ninS ne_b5_b7 nin0)
      have F_epoch_b5 := F_epoch_b5.keep K8 (ninS ne_b5_b7 nin0)
      have F_zxid_b5 := F_zxid_b5.keep K8 (ninS ne_b5_b7 nin0)
      refine go st8 ?_
      refine go (fun _ k => by refine XS.astore X8.here hx rfl (hb hby at_55) rfl rfl (l' := (fL6 p0 q1 q2 p3 q4 q5 x2_s0 x4_s0 b5 b7)) rfl ?_; exact k) ?_
      refine go (fun _ k => by refine XS.aload X8.here hx rfl (hb hby at_57) rfl rfl ?_; exact k) ?_
      refine go (fun _ k => by refine XS.aload X8.here hx rfl (hb hby at_59) rfl rfl ?_; exact k) ?_
      show OwnEnd _ _ _ _ _ _ _ (T8.setTop (mkF m 61 (fL6 p0 q1 q2 p3 q4 q5 x2_s0 x4_s0 b5 b7) [(.ref b7), (.ref b5)]))
      obtain ⟨_, T9, L9, X9, hQ9, st9⟩ := callVirt X8 hx hZ hown (hw _ (List.mem_of_getElem? (i := 15) rfl)) (hw _ (List.mem_of_getElem? (i := 16) rfl)) (notFace_of_selects (args := #[]) (mvT hZ (hw _ (List.mem_of_getElem? (i := 18) rfl)))) (hw _ (List.mem_of_getElem? (i := 18) rfl)) (hw _ (List.mem_of_getElem? (i := 17) rfl)) (hw _ (List.mem_of_getElem? (i := 2) rfl)) (hw _ (List.mem_of_getElem? (i := 19) rfl)) (by decide) (rm_bet l Z a0 hw [] b5 b7 p0 q1 q2 p3 x2_s0 x4_s0 T8.heap n0 F_leader_b5 F_epoch_b5 F_zxid_b5 F_leader_b7 F_epoch_b7 F_zxid_b7) (W := 0) (by decide) (by decide) rfl E_b5 (g := (mkF m 61 (fL6 p0 q1 q2 p3 q4 q5 x2_s0 x4_s0 b5 b7) [(.ref b7), (.ref b5)])) rfl (by rw [hml]; rfl) (argsL := [(.ref b7)]) (rest := []) rfl (lenOf pd__Lcom_example_bound_quorum_boundquorum_replication_Vote__Z rfl) rfl (by show 2 * 0 + _ ≤ _; exact Nat.le_of_eq rfl) (hb hby at_61) (by decide) (by decide)
      obtain ⟨rfl, Nq9, eq9⟩ := hQ9
      have N9 := Fr.app N8 Nq9
      refine go st9 ?_
      refine go (fun _ k => by refine XS.istore X9.here hx rfl (hb hby at_64) rfl (l' := (fL7 p0 q1 q2 p3 q4 q5 x2_s0 x4_s0 b5 b7 (if own_bt p0 q1 q2 p3 x2_s0 x4_s0 then (1 : Int32) else 0))) rfl ?_; exact k) ?_
      show OwnEnd _ _ _ _ _ _ _ (T9.setTop (mkF m 66 (fL7 p0 q1 q2 p3 q4 q5 x2_s0 x4_s0 b5 b7 (if own_bt p0 q1 q2 p3 x2_s0 x4_s0 then (1 : Int32) else 0)) []))
      generalize qx10 : (if own_bt p0 q1 q2 p3 x2_s0 x4_s0 then (1 : Int32) else 0) = x10
      refine go (fun _ k => by refine XS.aload X9.here hx rfl (hb hby at_66) rfl rfl ?_; exact k) ?_
      refine go (fun _ k => by refine XS.aload X9.here hx rfl (hb hby at_68) rfl rfl ?_; exact k) ?_
      show OwnEnd _ _ _ _ _ _ _ (T9.setTop (mkF m 70 (fL7 p0 q1 q2 p3 q4 q5 x2_s0 x4_s0 b5 b7 x10) [(.ref b5), (.ref b7)]))
      obtain ⟨_, T11, L11, X11, hQ11, st11⟩ := callVirt X9 hx hZ hown (hw _ (List.mem_of_getElem? (i := 15) rfl)) (hw _ (List.mem_of_getElem? (i := 16) rfl)) (notFace_of_selects (args := #[]) (mvT hZ (hw _ (List.mem_of_getElem? (i := 18) rfl)))) (hw _ (List.mem_of_getElem? (i := 18) rfl)) (hw _ (List.mem_of_getElem? (i := 17) rfl)) (hw _ (List.mem_of_getElem? (i := 2) rfl)) (hw _ (List.mem_of_getElem? (i := 19) rfl)) (by decide) (rm_bet l Z a0 hw [] b7 b5 p3 x2_s0 x4_s0 p0 q1 q2 T8.heap n0 F_leader_b7 F_epoch_b7 F_zxid_b7 F_leader_b5 F_epoch_b5 F_zxid_b5) (W := 0) (by decide) (by decide) eq9 E_b7 (g := (mkF m 70 (fL7 p0 q1 q2 p3 q4 q5 x2_s0 x4_s0 b5 b7 x10) [(.ref b5), (.ref b7)])) rfl (by rw [hml]; rfl) (argsL := [(.ref b5)]) (rest := []) rfl (lenOf pd__Lcom_example_bound_quorum_boundquorum_replication_Vote__Z rfl) rfl (by show 2 * 0 + _ ≤ _; exact Nat.le_of_eq rfl) (hb hby at_70) (by decide) (by decide)
      obtain ⟨rfl, Nq11, eq11⟩ := hQ11
      have N11 := Fr.app N9 Nq11
      refine go st11 ?_
      refine go (fun _ k => by refine XS.istore X11.here hx rfl (hb hby at_73) rfl (l' := (fL8 p0 q1 q2 p3 q4 q5 x2_s0 x4_s0 b5 b7 x10 (if own_bt p3 x2_s0 x4_s0 p0 q1 q2 then (1 : Int32) else 0))) rfl ?_; exact k) ?_
      show OwnEnd _ _ _ _ _ _ _ (T11.setTop (mkF m 75 (fL8 p0 q1 q2 p3 q4 q5 x2_s0 x4_s0 b5 b7 x10 (if own_bt p3 x2_s0 x4_s0 p0 q1 q2 then (1 : Int32) else 0)) []))
      generalize qx12 : (if own_bt p3 x2_s0 x4_s0 p0 q1 q2 then (1 : Int32) else 0) = x12
      refine go (fun _ k => by refine XS.aload X11.here hx rfl (hb hby at_75) rfl rfl ?_; exact k) ?_
      refine go (fun _ k => by refine XS.aload X11.here hx rfl (hb hby at_77) rfl rfl ?_; exact k) ?_
      show OwnEnd _ _ _ _ _ _ _ (T11.setTop (mkF m 79 (fL8 p0 q1 q2 p3 q4 q5 x2_s0 x4_s0 b5 b7 x10 x12) [(.ref b5), (.ref b5)]))
      obtain ⟨_, T13, L13, X13, hQ13, st13⟩ := callVirt X11 hx hZ hown (hw _ (List.mem_of_getElem? (i := 15) rfl)) (hw _ (List.mem_of_getElem? (i := 16) rfl)) (notFace_of_selects (args := #[]) (mvT hZ (hw _ (List.mem_of_getElem? (i := 18) rfl)))) (hw _ (List.mem_of_getElem? (i := 18) rfl)) (hw _ (List.mem_of_getElem? (i := 17) rfl)) (hw _ (List.mem_of_getElem? (i := 2) rfl)) (hw _ (List.mem_of_getElem? (i := 19) rfl)) (by decide) (rm_bet l Z a0 hw [] b5 b5 p0 q1 q2 p0 q1 q2 T8.heap n0 F_leader_b5 F_epoch_b5 F_zxid_b5 F_leader_b5 F_epoch_b5 F_zxid_b5) (W := 0) (by decide) (by decide) eq11 E_b5 (g := (mkF m 79 (fL8 p0 q1 q2 p3 q4 q5 x2_s0 x4_s0 b5 b7 x10 x12) [(.ref b5), (.ref b5)])) rfl (by rw [hml]; rfl) (argsL := [(.ref b5)]) (rest := []) rfl (lenOf pd__Lcom_example_bound_quorum_boundquorum_replication_Vote__Z rfl) rfl (by show 2 * 0 + _ ≤ _; exact Nat.le_of_eq rfl) (hb hby at_79) (by decide) (by decide)
      obtain ⟨rfl, Nq13, eq13⟩ := hQ13
      have N13 := Fr.app N11 Nq13
      refine go st13 ?_
      refine go (fun _ k => by refine XS.istore X13.here hx rfl (hb hby at_82) rfl (l' := (fL9 p0 q1 q2 p3 q4 q5 x2_s0 x4_s0 b5 b7 x10 x12 (if own_bt p0 q1 q2 p0 q1 q2 then (1 : Int32) else 0))) rfl ?_; exact k) ?_
      show OwnEnd _ _ _ _ _ _ _ (T13.setTop (mkF m 84 (fL9 p0 q1 q2 p3 q4 q5 x2_s0 x4_s0 b5 b7 x10 x12 (if own_bt p0 q1 q2 p0 q1 q2 then (1 : Int32) else 0)) []))
      generalize qx14 : (if own_bt p0 q1 q2 p0 q1 q2 then (1 : Int32) else 0) = x14
      refine go (fun _ k => by refine XS.iload X13.here hx rfl (hb hby at_84) rfl ?_; exact k) ?_
      refine go (fun _ k => by refine XS.iloadN X13.here hx rfl (hb hby at_86) rfl ?_; exact k) ?_
      show OwnEnd _ _ _ _ _ _ _ (T13.setTop (mkF m 87 (fL9 p0 q1 q2 p3 q4 q5 x2_s0 x4_s0 b5 b7 x10 x12 x14) [(.int p0), (.int x10)]))
      refine go (fun _ k => by refine XS.lloadN X13.here hx rfl (hb hby at_87) rfl ?_; exact k) ?_
      refine go (fun _ k => by refine XS.lloadN X13.here hx rfl (hb hby at_88) rfl ?_; exact k) ?_
      refine go (fun _ k => by refine XS.iload X13.here hx rfl (hb hby at_89) rfl ?_; exact k) ?_
      refine go (fun _ k => by refine XS.lload X13.here hx rfl (hb hby at_91) rfl ?_; exact k) ?_
      show OwnEnd _ _ _ _ _ _ _ (T13.setTop (mkF m 93 (fL9 p0 q1 q2 p3 q4 q5 x2_s0 x4_s0 b5 b7 x10 x12 x14) [(.long x2_s0), (.int p3), (.long q2), (.long q1), (.int p0), (.int x10)]))
      refine go (fun _ k => by refine XS.lload X13.here hx rfl (hb hby at_93) rfl ?_; exact k) ?_
      show OwnEnd _ _ _ _ _ _ _ (T13.setTop (mkF m 95 (fL9 p0 q1 q2 p3 q4 q5 x2_s0 x4_s0 b5 b7 x10 x12 x14) [(.long x4_s0), (.long x2_s0), (.int p3), (.long q2), (.long q1), (.int p0), (.int x10)]))
      obtain ⟨_, T15, L15, X15, hQ15, st15⟩ := callStat X13 hx hZ hown (hw _ (List.mem_of_getElem? (i := 20) rfl)) (hw _ (List.mem_of_getElem? (i := 21) rfl)) (hw _ (List.mem_of_getElem? (i := 22) rfl)) (hw _ (List.mem_of_getElem? (i := 23) rfl)) (by decide) (rm_ref l Z a0 hw [] p0 q1 q2 p3 x2_s0 x4_s0 T8.heap n0 ) (W := 1) (by decide) (by decide) eq13 (g := (mkF m 95 (fL9 p0 q1 q2 p3 q4 q5 x2_s0 x4_s0 b5 b7 x10 x12 x14) [(.long x4_s0), (.long x2_s0), (.int p3), (.long q2), (.long q1), (.int p0), (.int x10)])) rfl (by rw [hml]; rfl) (argsL := [(.int p0), (.long q1), (.long q2), (.int p3), (.long x2_s0), (.long x4_s0)]) (rest := [(.int x10)]) rfl (lenOf pd__IJJIJJ_Z rfl) rfl (by show 2 * 0 + _ ≤ _; exact Nat.le_of_eq rfl) (hb hby at_95) (by decide) (by decide)
      obtain ⟨rfl, Nq15, eq15⟩ := hQ15
      have N15 := Fr.app N13 Nq15
      refine go st15 ?_
      show OwnEnd _ _ _ _ _ _ _ (T15.setTop (mkF m 98 (fL9 p0 q1 q2 p3 q4 q5 x2_s0 x4_s0 b5 b7 x10 x12 x14) [(.int (if own_bt p0 q1 q2 p3 x2_s0 x4_s0 then (1 : Int32) else 0)), (.int x10)]))
      by_cases hc98_16 : x10 = (if own_bt p0 q1 q2 p3 x2_s0 x4_s0 then (1 : Int32) else 0)
      · refine go (fun _ k => by refine XS.icmpNo X15.here hx rfl (hb hby at_98) rfl (teq hc98_16).2 ?_; exact k) ?_
        show OwnEnd _ _ _ _ _ _ _ (T15.setTop (mkF m 101 (fL9 p0 q1 q2 p3 q4 q5 x2_s0 x4_s0 b5 b7 x10 x12 x14) []))
        refine go (fun _ k => by refine XS.iload X15.here hx rfl (hb hby at_101) rfl ?_; exact k) ?_
        refine go (fun _ k => by refine XS.iload X15.here hx rfl (hb hby at_103) rfl ?_; exact k) ?_
        refine go (fun _ k => by refine XS.lload X15.here hx rfl (hb hby at_105) rfl ?_; exact k) ?_
        refine go (fun _ k => by refine XS.lload X15.here hx rfl (hb hby at_107) rfl ?_; exact k) ?_
        show OwnEnd _ _ _ _ _ _ _ (T15.setTop (mkF m 109 (fL9 p0 q1 q2 p3 q4 q5 x2_s0 x4_s0 b5 b7 x10 x12 x14) [(.long x4_s0), (.long x2_s0), (.int p3), (.int x12)]))
        refine go (fun _ k => by refine XS.iloadN X15.here hx rfl (hb hby at_109) rfl ?_; exact k) ?_
        refine go (fun _ k => by refine XS.lloadN X15.here hx rfl (hb hby at_110) rfl ?_; exact k) ?_
        refine go (fun _ k => by refine XS.lloadN X15.here hx rfl (hb hby at_111) rfl ?_; exact k) ?_
        show OwnEnd _ _ _ _ _ _ _ (T15.setTop (mkF m 112 (fL9 p0 q1 q2 p3 q4 q5 x2_s0 x4_s0 b5 b7 x10 x12 x14) [(.long q2), (.long q1), (.int p0), (.long x4_s0), (.long x2_s0), (.int p3), (.int x12)]))
        obtain ⟨_, T17, L17, X17, hQ17, st17⟩ := callStat X15 hx hZ hown (hw _ (List.mem_of_getElem? (i := 20) rfl)) (hw _ (List.mem_of_getElem? (i := 21) rfl)) (hw _ (List.mem_of_getElem? (i := 22) rfl)) (hw _ (List.mem_of_getElem? (i := 23) rfl)) (by decide) (rm_ref l Z a0 hw [] p3 x2_s0 x4_s0 p0 q1 q2 T8.heap n0 ) (W := 1) (by decide) (by decide) eq15 (g := (mkF m 112 (fL9 p0 q1 q2 p3 q4 q5 x2_s0 x4_s0 b5 b7 x10 x12 x14) [(.long q2), (.long q1), (.int p0), (.long x4_s0), (.long x2_s0), (.int p3), (.int x12)])) rfl (by rw [hml]; rfl) (argsL := [(.int p3), (.long x2_s0), (.long x4_s0), (.int p0), (.long q1), (.long q2)]) (rest := [(.int x12)]) rfl (lenOf pd__IJJIJJ_Z rfl) rfl (by show 2 * 0 + _ ≤ _; exact Nat.le_of_eq rfl) (hb hby at_112) (by decide) (by decide)
        obtain ⟨rfl, Nq17, eq17⟩ := hQ17
        have N17 := Fr.app N15 Nq17
        refine go st17 ?_
        show OwnEnd _ _ _ _ _ _ _ (T17.setTop (mkF m 115 (fL9 p0 q1 q2 p3 q4 q5 x2_s0 x4_s0 b5 b7 x10 x12 x14) [(.int (if own_bt p3 x2_s0 x4_s0 p0 q1 q2 then (1 : Int32) else 0)), (.int x12)]))
        by_cases hc115_18 : x12 = (if own_bt p3 x2_s0 x4_s0 p0 q1 q2 then (1 : Int32) else 0)
        · refine go (fun _ k => by refine XS.icmpNo X17.here hx rfl (hb hby at_115) rfl (teq hc115_18).2 ?_; exact k) ?_
          show OwnEnd _ _ _ _ _ _ _ (T17.setTop (mkF m 118 (fL9 p0 q1 q2 p3 q4 q5 x2_s0 x4_s0 b5 b7 x10 x12 x14) []))
          refine go (fun _ k => by refine XS.iload X17.here hx rfl (hb hby at_118) rfl ?_; exact k) ?_
          show OwnEnd _ _ _ _ _ _ _ (T17.setTop (mkF m 120 (fL9 p0 q1 q2 p3 q4 q5 x2_s0 x4_s0 b5 b7 x10 x12 x14) [(.int x14)]))
          by_cases hc120_19 : x14 = (0 : Int32)
          · refine go (fun _ k => by refine XS.ifNo X17.here hx rfl (hb hby at_120) rfl ((if0 _ _).trans (teq hc120_19).2) ?_; exact k) ?_
            show OwnEnd _ _ _ _ _ _ _ (T17.setTop (mkF m 123 (fL9 p0 q1 q2 p3 q4 q5 x2_s0 x4_s0 b5 b7 x10 x12 x14) []))
            refine go (fun _ k => by refine XS.iconst X17.here hx rfl (hb hby at_123) ?_; exact k) ?_
            refine go (fun _ k => by refine XS.goto X17.here hx rfl (pc0 := 124) (pc' := 128) rfl (hb hby at_124) (by decide) (by decide) ?_; exact k) ?_
            show OwnEnd _ _ _ _ _ _ _ (T17.setTop (mkF m 128 (fL9 p0 q1 q2 p3 q4 q5 x2_s0 x4_s0 b5 b7 x10 x12 x14) [(.int (1 : Int32))]))
            refine endN X17 hx hlk (t := .boolean) (by simp) Bd.returns (hb hby at_128) eq17 (by decide) (by decide) ?_
            exact ⟨rfl, N17⟩
          · refine go (fun _ k => by refine XS.ifYes X17.here hx rfl (pc0 := 120) (pc' := 127) rfl (hb hby at_120) rfl ((if0 _ _).trans (feq hc120_19).2) (by decide) (by decide) ?_; exact k) ?_
            show OwnEnd _ _ _ _ _ _ _ (T17.setTop (mkF m 127 (fL9 p0 q1 q2 p3 q4 q5 x2_s0 x4_s0 b5 b7 x10 x12 x14) []))
            refine go (fun _ k => by refine XS.iconst X17.here hx rfl (hb hby at_127) ?_; exact k) ?_
            show OwnEnd _ _ _ _ _ _ _ (T17.setTop (mkF m 128 (fL9 p0 q1 q2 p3 q4 q5 x2_s0 x4_s0 b5 b7 x10 x12 x14) [(.int (0 : Int32))]))
            refine endN X17 hx hlk (t := .boolean) (by simp) Bd.returns (hb hby at_128) eq17 (by decide) (by decide) ?_
            exfalso
            simp_all [own_irr]
        · refine go (fun _ k => by refine XS.icmpYes X17.here hx rfl (pc0 := 115) (pc' := 127) rfl (hb hby at_115) rfl (feq hc115_18).2 (by decide) (by decide) ?_; exact k) ?_
          show OwnEnd _ _ _ _ _ _ _ (T17.setTop (mkF m 127 (fL9 p0 q1 q2 p3 q4 q5 x2_s0 x4_s0 b5 b7 x10 x12 x14) []))
          refine go (fun _ k => by refine XS.iconst X17.here hx rfl (hb hby at_127) ?_; exact k) ?_
          show OwnEnd _ _ _ _ _ _ _ (T17.setTop (mkF m 128 (fL9 p0 q1 q2 p3 q4 q5 x2_s0 x4_s0 b5 b7 x10 x12 x14) [(.int (0 : Int32))]))
          refine endN X17 hx hlk (t := .boolean) (by simp) Bd.returns (hb hby at_128) eq17 (by decide) (by decide) ?_
          exfalso
          simp_all [own_irr]
      · refine go (fun _ k => by refine XS.icmpYes X15.here hx rfl (pc0 := 98) (pc' := 127) rfl (hb hby at_98) rfl (feq hc98_16).2 (by decide) (by decide) ?_; exact k) ?_
        show OwnEnd _ _ _ _ _ _ _ (T15.setTop (mkF m 127 (fL9 p0 q1 q2 p3 q4 q5 x2_s0 x4_s0 b5 b7 x10 x12 x14) []))
        refine go (fun _ k => by refine XS.iconst X15.here hx rfl (hb hby at_127) ?_; exact k) ?_
        show OwnEnd _ _ _ _ _ _ _ (T15.setTop (mkF m 128 (fL9 p0 q1 q2 p3 q4 q5 x2_s0 x4_s0 b5 b7 x10 x12 x14) [(.int (0 : Int32))]))
        refine endN X15 hx hlk (t := .boolean) (by simp) Bd.returns (hb hby at_128) eq15 (by decide) (by decide) ?_
        exfalso
        simp_all [own_irr]
    by_cases hc19_3 : (p3 &&& (2 : Int32)) = (0 : Int32)
    · refine go (fun _ k => by refine XS.ifYes X0.here hx rfl (pc0 := 19) (pc' := 26) rfl (hb hby at_19) rfl ((if0 _ _).trans (teq hc19_3).1) (by decide) (by decide) ?_; exact k) ?_
      show OwnEnd _ _ _ _ _ _ _ (s₁.setTop (mkF m 26 (fL3 p0 q1 q2 p3 q4 q5 x2_s0) []))
      refine go (fun _ k => by refine XS.lload X0.here hx rfl (hb hby at_26) rfl ?_; exact k) ?_
      exact J4 _ (by rw [if_pos hc19_3])
    · refine go (fun _ k => by refine XS.ifNo X0.here hx rfl (hb hby at_19) rfl ((if0 _ _).trans (feq hc19_3).1) ?_; exact k) ?_
      show OwnEnd _ _ _ _ _ _ _ (s₁.setTop (mkF m 22 (fL3 p0 q1 q2 p3 q4 q5 x2_s0) []))
      refine go (fun _ k => by refine XS.lloadN X0.here hx rfl (hb hby at_22) rfl ?_; exact k) ?_
      refine go (fun _ k => by refine XS.goto X0.here hx rfl (pc0 := 23) (pc' := 28) rfl (hb hby at_23) (by decide) (by decide) ?_; exact k) ?_
      exact J4 _ (by rw [if_neg hc19_3])
  by_cases hc4_1 : (p3 &&& (1 : Int32)) = (0 : Int32)
  · refine go (fun _ k => by refine XS.ifYes X0.here hx rfl (pc0 := 4) (pc' := 11) rfl (hb hby at_4) rfl ((if0 _ _).trans (teq hc4_1).1) (by decide) (by decide) ?_; exact k) ?_
    show OwnEnd _ _ _ _ _ _ _ (s₁.setTop (mkF m 11 (fL2 p0 q1 q2 p3 q4 q5) []))
    refine go (fun _ k => by refine XS.lload X0.here hx rfl (hb hby at_11) rfl ?_; exact k) ?_
    exact J2 _ (by rw [if_pos hc4_1])
  · refine go (fun _ k => by refine XS.ifNo X0.here hx rfl (hb hby at_4) rfl ((if0 _ _).trans (feq hc4_1).1) ?_; exact k) ?_
    show OwnEnd _ _ _ _ _ _ _ (s₁.setTop (mkF m 7 (fL2 p0 q1 q2 p3 q4 q5) []))
    refine go (fun _ k => by refine XS.lloadN X0.here hx rfl (hb hby at_7) rfl ?_; exact k) ?_
    refine go (fun _ k => by refine XS.goto X0.here hx rfl (pc0 := 8) (pc' := 13) rfl (hb hby at_8) (by decide) (by decide) ?_; exact k) ?_
    exact J2 _ (by rw [if_neg hc4_1])
set_option maxRecDepth 65536 in
set_option maxHeartbeats 40000000 in
theorem comes_1 {Post : Tables → Env → Array Value → State → Outcome → State → Prop} (hpost : ∀ tb e args s v u, (limb_1_1.after args s (.returned v) u = true ∧ limb_1_2.after args s (.returned v) u = true ∧ True) → FrameEnd s (.returned v) u (Jvm.fieldLocs frame_1_writes args s ++ Jvm.arrayLocs frame_1_arrays args s ++ Jvm.staticLocs frame_1_statics s) 16 128 → Post tb e args s (.returned v) u) :
    ArmFor flags0 classFile x code maxLocals ret World_1 tables_1 room_1 Calls_1 rest_1 Pre_1 Post := by
  intro l hfl _ _ p e ha hc hk s m args below hf hA hF happ hP
  obtain ⟨hcalls, hrest, hpre⟩ := hP
  obtain ⟨-, -, -, hnamed, -, -, -, hat⟩ := (Spec.applies_iff hf).mp happ
  obtain ⟨hg, hn⟩ := and_e (Cond.before_iff.mp (show (Jvm.Cond.and given_1 narrow_1).before args s = true from hpre))
  obtain ⟨gv1, gv2⟩ := and_e hg
  obtain ⟨gv3, gv4⟩ := and_e gv2
  obtain ⟨gv5, gv6⟩ := and_e gv4
  obtain ⟨gv7, gv8⟩ := and_e gv6
  obtain ⟨gv9, gv10⟩ := and_e gv8
  obtain ⟨gv11, gv12⟩ := and_e gv10
  obtain ⟨w0, w1, w2, w3, w4, w5, rfl⟩ : ∃ w0 w1 w2 w3 w4 w5 : Value, args = #[w0, w1, w2, w3, w4, w5] := by
    have hs : args.size = 6 := by simpa [Cond.value, given_1] using gv1
    obtain ⟨L⟩ := args
    match L, hs with
    | [w0, w1, w2, w3, w4, w5], _ => exact ⟨w0, w1, w2, w3, w4, w5, rfl⟩
  have hw := fun d (hd : d ∈ tables_1) => atoms_spec (ws := Jvm.Cond.code x code maxLocals ret :: tables_1) hat d (List.mem_cons_of_mem _ hd)
  have hfit : Fit s := fun {y c} hc i hi => by
    obtain ⟨ha, rfl⟩ := Array.getElem?_eq_some_iff.mp hc
    have q := List.all_eq_true.mp ((Array.all_eq_true_iff_forall_mem.mp hF) _ (Array.getElem_mem ha)) i (List.mem_range.mpr hi)
    simpa [Array.getElem?_eq_getElem hi] using q
  obtain ⟨i0, ei0⟩ := is_v gv3
  obtain rfl : w0 = (.int i0) := Option.some.inj ei0
  obtain ⟨i1, ei1⟩ := isL_v gv5
  obtain rfl : w1 = (.long i1) := Option.some.inj ei1
  obtain ⟨i2, ei2⟩ := isL_v gv7
  obtain rfl : w2 = (.long i2) := Option.some.inj ei2
  obtain ⟨i3, ei3⟩ := is_v gv9
  obtain rfl : w3 = (.int i3) := Option.some.inj ei3
  obtain ⟨i4, ei4⟩ := isL_v gv11
  obtain rfl : w4 = (.long i4) := Option.some.inj ei4
  obtain ⟨i5, ei5⟩ := isL_v gv12
  obtain rfl : w5 = (.long i5) := Option.some.inj ei5
  obtain ⟨n, o, h1, h2, h3, _, L, rfl, ⟨rfl, N⟩, hq⟩ := rm_law l s _ hw tables_1 i0 i1 i2 i3 i4 i5  s.heap s.heap.size (Nat.le_refl _) p e ha hc hk s m _ below hf ((Spec.applies_iff_loose hf).mp happ).1 ⟨rfl, State.Warmed39.refl s, rfl⟩ trivial
  refine ⟨n, _, h1, h2, h3, hpost _ _ _ _ _ _ ⟨Cond.after_iff.mpr rfl, Cond.after_iff.mpr (eq_i res_at (Term.int_eval (1)) rfl), trivial⟩ ⟨hq.1, hq.2.1, (hq.2.2.sift fun y hy => Or.inr (N y hy)).mono (by decide) (by decide)⟩⟩
theorem main_1_1 : Claimed_1_1 := comes_1 fun _ _ _ _ _ _ h hF => ⟨h.1, hF⟩
theorem main_1_2 : Claimed_1_2 := comes_1 fun _ _ _ _ _ _ h hF => ⟨h.2.1, hF⟩
end Jvm.Pilot.@@N@@
namespace Jvm.Pilot.@@N@@
open Jvm Jvm.ClassFile Sem Op Lib Jvm.Free Jvm.Stand Jvm.Pilot.@@N@@.Jvm.D
/-! MADE BY PROGRAM (witnessworld.py) out of the Statement's table words and the real class files: 9 classes; the members and pool entries that the words name. The judged class is class 1, her method 2. -/
namespace start1
open Jvm.ClassFile
def u (s : String) : CpInfo := .utf8 (stringToUtf16 s)
/-- a pool by its gaps: so many unusable entries, then the entry; so many at the end -/
def gap : Nat → List CpInfo → List CpInfo
  | 0, r => r
  | n + 1, r => .unusable :: gap n r
def poolList (es : List (Nat × CpInfo)) (last : Nat) : List CpInfo := es.foldr (fun e r => gap e.1 (e.2 :: r)) (gap last [])
def pool (es : List (Nat × CpInfo)) (last : Nat) : Array CpInfo := ⟨poolList es last⟩
def fileOf (pool : Array CpInfo) (this : Nat) (attrs : Array Attribute := #[]) (ms : Array MethodInfo := #[]) (fl : Nat := 33) (sup : Nat := 0) (ifs : Array Nat := #[]) (fds : Array FieldInfo := #[]) : ClassFile where
  minorVersion := 0
  majorVersion := 65
  constantPool := pool
  accessFlags := fl
  thisClass := this
  superClass := sup
  interfaces := ifs
  fields := fds
  methods := ms
  attributes := attrs
def plain (name : String) (sup : Option ClassId) : Class where
  name := name
  kind := .ordinary
  loader := none
  accessFlags := 33
  super := sup
  interfaces := #[]
  cf := none
  fields := #[]
  methods := #[]
  instanceTypes := #[]
  staticTypes := #[]
  resolved := #[]
  callSites := []
  init := .initialized
  statics := none
  mirror := none

def pool0 : Array CpInfo := pool [(5, u "<init>"), (0, u "()V"), (1, .class_ 10), (1, u "java/lang/Object")] 113

def k0c0 : Code := { maxStack := 0, maxLocals := 1, code := object_method_1_code, exceptionTable := #[], attributes := #[] }
def k0m0 : Method := { name := "<init>", desc := "()V", sig := { parameters := [], returnType := none }, accessFlags := 1, code := some k0c0 }
/-- java/lang/Object -/
def k0 : Class := { plain "java/lang/Object" none with
  accessFlags := 33
  interfaces := #[]
  cf := some (fileOf pool0 8 #[] #[{ accessFlags := 1, nameIndex := 5, descriptorIndex := 6, attributes := #[] }] 33 0 #[] #[])
  fields := #[]
  methods := #[k0m0]
  instanceTypes := #[]
  staticTypes := #[]
  resolved := Array.replicate 124 none
  statics := none }

def pool1 : Array CpInfo := pool [(2, .class_ 4), (1, u "java/lang/Object"), (0, u "<init>"), (0, u "()V"), (0, .class_ 8), (0, u "com/example/bound_quorum/boundquorum/replication/Vote"), (0, .methodref 7 10), (0, .nameAndType 5 11), (0, u "(IJJ)V"), (0, .methodref 7 13), (0, .nameAndType 14 15), (0, u "isBetterThan"), (0, u "(Lcom/example/bound_quorum/boundquorum/replication/Vote;)Z"), (0, .methodref 17 18), (0, .class_ 19), (0, .nameAndType 20 21), (0, u "com/example/bound_quorum/boundquorum/replication/VoteIsBetterThanPinLaw"), (0, u "ref"), (0, u "(IJJIJJ)Z"), (3, u "law")] 2

def k1m0 : Method := { name := "<init>", desc := "()V", sig := { parameters := [], returnType := none }, accessFlags := 1, code := none }
def k1c1 : Code := { maxStack := 4, maxLocals := 10, code := method_2_code, exceptionTable := #[], attributes := #[] }
def k1m1 : Method := { name := "ref", desc := "(IJJIJJ)Z", sig := { parameters := [.int, .long, .long, .int, .long, .long], returnType := some .boolean }, accessFlags := 10, code := some k1c1 }
def k1c2 : Code := { maxStack := 11, maxLocals := 19, code := code, exceptionTable := #[], attributes := #[] }
def k1m2 : Method := { name := "law", desc := "(IJJIJJ)Z", sig := { parameters := [.int, .long, .long, .int, .long, .long], returnType := some .boolean }, accessFlags := 9, code := some k1c2 }
/-- com/example/bound_quorum/boundquorum/replication/VoteIsBetterThanPinLaw -/
def k1 : Class := { plain "com/example/bound_quorum/boundquorum/replication/VoteIsBetterThanPinLaw" (some 0) with
  accessFlags := 49
  interfaces := #[]
  cf := some (fileOf pool1 17 #[] #[{ accessFlags := 1, nameIndex := 5, descriptorIndex := 6, attributes := #[] }, { accessFlags := 10, nameIndex := 20, descriptorIndex := 21, attributes := #[] }, { accessFlags := 9, nameIndex := 25, descriptorIndex := 21, attributes := #[] }] 49 2 #[] #[])
  fields := #[]
  methods := #[k1m0, k1m1, k1m2]
  instanceTypes := #[]
  staticTypes := #[]
  resolved := Array.replicate 28 none
  statics := none }

def pool2 : Array CpInfo := pool [(1, .methodref 2 3), (0, .class_ 4), (0, .nameAndType 5 6), (0, u "java/lang/Object"), (0, u "<init>"), (0, u "()V"), (0, .fieldref 8 9), (0, .class_ 10), (0, .nameAndType 11 12), (0, u "com/example/bound_quorum/boundquorum/replication/Vote"), (0, u "leader"), (0, u "I"), (0, .fieldref 8 14), (0, .nameAndType 15 16), (0, u "epoch"), (0, u "J"), (0, .fieldref 8 18), (0, .nameAndType 19 16), (0, u "zxid"), (25, u "(IJJ)V"), (4, u "isBetterThan"), (0, u "(Lcom/example/bound_quorum/boundquorum/replication/Vote;)Z")] 10

def k2c0 : Code := { maxStack := 3, maxLocals := 6, code := prog_29_method_1_code, exceptionTable := #[], attributes := #[] }
def k2m0 : Method := { name := "<init>", desc := "(IJJ)V", sig := { parameters := [.int, .long, .long], returnType := none }, accessFlags := 0, code := some k2c0 }
def k2c1 : Code := { maxStack := 4, maxLocals := 3, code := prog_29_method_5_code, exceptionTable := #[], attributes := #[] }
def k2m1 : Method := { name := "isBetterThan", desc := "(Lcom/example/bound_quorum/boundquorum/replication/Vote;)Z", sig := { parameters := [(.object "com/example/bound_quorum/boundquorum/replication/Vote")], returnType := some .boolean }, accessFlags := 0, code := some k2c1 }
/-- com/example/bound_quorum/boundquorum/replication/Vote -/
def k2 : Class := { plain "com/example/bound_quorum/boundquorum/replication/Vote" (some 0) with
  accessFlags := 48
  interfaces := #[]
  cf := some (fileOf pool2 8 #[] #[{ accessFlags := 0, nameIndex := 5, descriptorIndex := 45, attributes := #[] }, { accessFlags := 0, nameIndex := 50, descriptorIndex := 51, attributes := #[] }] 48 2 #[] #[{ accessFlags := 18, nameIndex := 11, descriptorIndex := 12, attributes := #[] }, { accessFlags := 18, nameIndex := 15, descriptorIndex := 16, attributes := #[] }, { accessFlags := 18, nameIndex := 19, descriptorIndex := 16, attributes := #[] }])
  fields := #[{ name := "leader", type := .int, accessFlags := 18, slot := 0, constantValue := 0 }, { name := "epoch", type := .long, accessFlags := 18, slot := 1, constantValue := 0 }, { name := "zxid", type := .long, accessFlags := 18, slot := 2, constantValue := 0 }]
  methods := #[k2m0, k2m1]
  instanceTypes := #[.int, .long, .long]
  staticTypes := #[]
  resolved := Array.replicate 62 none
  statics := none }

def pool3 : Array CpInfo := pool [(1, u "java/lang/Cloneable"), (0, .class_ 1), (0, u "java/lang/Object"), (0, .class_ 3)] 3

/-- java/lang/Cloneable -/
def k3 : Class := { plain "java/lang/Cloneable" (some 0) with
  accessFlags := 1537
  interfaces := #[]
  cf := some (fileOf pool3 2 #[] #[] 1537 4 #[] #[])
  fields := #[]
  methods := #[]
  instanceTypes := #[]
  staticTypes := #[]
  resolved := Array.replicate 8 none
  statics := none }

def pool4 : Array CpInfo := pool [(1, u "java/io/Serializable"), (0, .class_ 1), (0, u "java/lang/Object"), (0, .class_ 3)] 3

/-- java/io/Serializable -/
def k4 : Class := { plain "java/io/Serializable" (some 0) with
  accessFlags := 1537
  interfaces := #[]
  cf := some (fileOf pool4 2 #[] #[] 1537 4 #[] #[])
  fields := #[]
  methods := #[]
  instanceTypes := #[]
  staticTypes := #[]
  resolved := Array.replicate 8 none
  statics := none }

/-- the primitive byte -/
def k5 : Class := { plain "byte" none with kind := .primitive 'B', accessFlags := 0x411 }
/-- [B -/
def k6 : Class := { plain "[B" (some 0) with kind := .array 5 .byte, interfaces := #[3, 4], accessFlags := 1041 }

/-- the primitive int -/
def k7 : Class := { plain "int" none with kind := .primitive 'I', accessFlags := 0x411 }
/-- [I -/
def k8 : Class := { plain "[I" (some 0) with kind := .array 7 .int, interfaces := #[3, 4], accessFlags := 1041 }

def heap : Heap := #[]
def classes : Array Class := #[k0, k1, k2, k3, k4, k5, k6, k7, k8]
def interned : List (Array UInt16 × Addr) := []
def slotsUsed : Nat := 0
def theMethod : MethodId := ⟨1, 2⟩
def args0 : Array Value := #[.int 5, .long 3, .long 2, .int 7, .long 1, .long 9]
def aboutOver (below : List Frame) : State where
  vm := { classes := classes, interned := interned.toArray }
  heap := heap
  slotsUsed := slotsUsed
  threads := #[{ frames := .invoking theMethod args0 :: below }]
def below0 : List Frame := [.native { method := ⟨0, 0⟩, args := #[] }]
def about1 : State := aboutOver below0
def p0 : Program := .bare "" "" ""
def e0 : Env := launch0.env 0 0 0
theorem w_frames : about1.frames = Frame.invoking theMethod args0 :: below0 := rfl
set_option maxRecDepth 65536 in
theorem w_args : argsFit about1.vm theMethod args0 = true := by decide +kernel
set_option maxRecDepth 65536 in
theorem w_heap : heapFits about1 = true := by decide +kernel
set_option maxRecDepth 65536 in
theorem w_runnable : about1.curStatus? = some .runnable := by decide +kernel
set_option maxRecDepth 65536 in
theorem w_alone : about1.alone = true := by decide +kernel
set_option maxRecDepth 65536 in
theorem w_named : about1.methodNamed? x = some theMethod := by decide +kernel
set_option maxRecDepth 65536 in
theorem w_hears : about1.hears theMethod below0 = true := by decide +kernel
set_option maxRecDepth 65536 in
theorem w_ripe : about1.ripe theMethod args0 below0 = true := by decide +kernel
theorem w_running : about1.status = .running := rfl
set_option maxRecDepth 65536 in
theorem w_room : about1.hasRoom e0.platform room_1 = true :=
  launch0.hasRoom_least _ room_1 (by decide +kernel) (by decide +kernel) (by decide +kernel) (by decide +kernel) (by decide +kernel) (by decide +kernel)
theorem allAtoms_all (ts : List Jvm.Cond) (a : Array Jvm.Value) (st : Jvm.State) : (allAtoms ts).before a st = ts.all (fun c => c.before a st) := by
  induction ts with
  | nil => rfl
  | cons c t ih =>
    show (Jvm.Cond.and c (allAtoms t)).before a st = _
    rw [Jvm.Cond.before_and, ih, List.all_cons]
def words1 : List Jvm.Cond := Jvm.Cond.code x code maxLocals ret :: tables_1
/-- a 'code' word, met by the world's own term for the bytes: nothing is compared byte by byte -/
theorem code_word {y : MethodName} {bytes : ByteArray} {mx : Nat} {rt : Option FieldType} {a : Array Value} {s : State} {m : MethodId} {meth : Method} {c : Code} (h1 : s.methodNamed? y = some m) (h2 : s.vm.method? m = some meth) (h3 : meth.code = some c) (h4 : c.code = bytes)
    (h5 : (c.maxLocals == mx && c.exceptionTable.isEmpty && decide (c.maxStack ≤ mostOperands) && decide (meth.sig.returnType = rt) && !meth.locks && decide (parseMethodDescriptor y.desc = some meth.sig)) = true) : (Jvm.Cond.code y bytes mx rt).before a s = true := by
  simp only [Bool.and_eq_true, beq_iff_eq, Bool.not_eq_true', decide_eq_true_eq] at h5
  obtain ⟨⟨⟨⟨⟨g1, g2⟩, g3⟩, g4⟩, g5⟩, g6⟩ := h5
  simp [Cond.before, Cond.holds, Cond.value, h1, h2, h3, h4, g1, g2, g3, g4, g5, g6]
def isCode : Jvm.Cond → Bool
  | .code _ _ _ _ => true
  | _ => false
theorem all_split {L : List Jvm.Cond} {P : Jvm.Cond → Bool} (h1 : L.all (fun c => isCode c || P c) = true) (h2 : ∀ c ∈ L.filter isCode, P c = true) : L.all P = true := by
  refine List.all_eq_true.mpr fun c hc => ?_
  have h := List.all_eq_true.mp h1 c hc
  rcases Bool.eq_false_or_eq_true (isCode c) with hi | hi
  · exact h2 c (List.mem_filter.mpr ⟨hc, hi⟩)
  · simpa [hi] using h
set_option maxRecDepth 65536 in
theorem w_c0 : (Jvm.Cond.code x code maxLocals ret).before args0 about1 = true := code_word (m := ⟨1, 2⟩) (meth := k1m2) (c := k1c2) (by decide +kernel) rfl rfl rfl (by decide +kernel)
set_option maxRecDepth 65536 in
theorem w_c1 : (Jvm.Cond.code ({ cls := "com/example/bound_quorum/boundquorum/replication/Vote", name := "<init>", desc := "(IJJ)V" } : Jvm.MethodName) prog_29_method_1_code (6 : Nat) (Option.none : Option Jvm.ClassFile.FieldType)).before args0 about1 = true := code_word (m := ⟨2, 0⟩) (meth := k2m0) (c := k2c0) (by decide +kernel) rfl rfl rfl (by decide +kernel)
set_option maxRecDepth 65536 in
theorem w_c2 : (Jvm.Cond.code ({ cls := "java/lang/Object", name := "<init>", desc := "()V" } : Jvm.MethodName) object_method_1_code (1 : Nat) (Option.none : Option Jvm.ClassFile.FieldType)).before args0 about1 = true := code_word (m := ⟨0, 0⟩) (meth := k0m0) (c := k0c0) (by decide +kernel) rfl rfl rfl (by decide +kernel)
set_option maxRecDepth 65536 in
theorem w_c3 : (Jvm.Cond.code ({ cls := "com/example/bound_quorum/boundquorum/replication/Vote", name := "isBetterThan", desc := "(Lcom/example/bound_quorum/boundquorum/replication/Vote;)Z" } : Jvm.MethodName) prog_29_method_5_code (3 : Nat) (Option.some Jvm.ClassFile.FieldType.boolean)).before args0 about1 = true := code_word (m := ⟨2, 1⟩) (meth := k2m1) (c := k2c1) (by decide +kernel) rfl rfl rfl (by decide +kernel)
set_option maxRecDepth 65536 in
theorem w_c4 : (Jvm.Cond.code ({ cls := "com/example/bound_quorum/boundquorum/replication/VoteIsBetterThanPinLaw", name := "ref", desc := "(IJJIJJ)Z" } : Jvm.MethodName) method_2_code (10 : Nat) (Option.some Jvm.ClassFile.FieldType.boolean)).before args0 about1 = true := code_word (m := ⟨1, 1⟩) (meth := k1m1) (c := k1c1) (by decide +kernel) rfl rfl rfl (by decide +kernel)
def codes1 : List Jvm.Cond := [Jvm.Cond.code x code maxLocals ret, Jvm.Cond.code ({ cls := "com/example/bound_quorum/boundquorum/replication/Vote", name := "<init>", desc := "(IJJ)V" } : Jvm.MethodName) prog_29_method_1_code (6 : Nat) (Option.none : Option Jvm.ClassFile.FieldType), Jvm.Cond.code ({ cls := "java/lang/Object", name := "<init>", desc := "()V" } : Jvm.MethodName) object_method_1_code (1 : Nat) (Option.none : Option Jvm.ClassFile.FieldType), Jvm.Cond.code ({ cls := "com/example/bound_quorum/boundquorum/replication/Vote", name := "isBetterThan", desc := "(Lcom/example/bound_quorum/boundquorum/replication/Vote;)Z" } : Jvm.MethodName) prog_29_method_5_code (3 : Nat) (Option.some Jvm.ClassFile.FieldType.boolean), Jvm.Cond.code ({ cls := "com/example/bound_quorum/boundquorum/replication/VoteIsBetterThanPinLaw", name := "ref", desc := "(IJJIJJ)Z" } : Jvm.MethodName) method_2_code (10 : Nat) (Option.some Jvm.ClassFile.FieldType.boolean)]
set_option maxRecDepth 65536 in
theorem codes_eq : words1.filter isCode = codes1 := rfl
theorem w_codes : ∀ c ∈ words1.filter isCode, c.before args0 about1 = true := by
  rw [codes_eq]
  intro c hc
  simp only [codes1, List.mem_cons, List.not_mem_nil, or_false] at hc
  rcases hc with rfl | rfl | rfl | rfl | rfl
  · exact w_c0
  · exact w_c1
  · exact w_c2
  · exact w_c3
  · exact w_c4
set_option maxRecDepth 65536 in
theorem w_t1 : (words1.take 24).all (fun c => isCode c || c.before args0 about1) = true := by decide +kernel
set_option maxRecDepth 65536 in
theorem w_t2 : (words1.drop 24).all (fun c => isCode c || c.before args0 about1) = true := by decide +kernel
theorem w_tables : (allAtoms (Jvm.Cond.code x code maxLocals ret :: tables_1)).before args0 about1 = true := by
  rw [allAtoms_all]
  show words1.all (fun c => c.before args0 about1) = true
  refine all_split ?_ w_codes
  rw [← List.take_append_drop 24 words1, List.all_append, w_t1, w_t2]
  rfl
set_option maxRecDepth 65536 in
theorem w_case : (Jvm.Cond.and given_1 narrow_1).before args0 about1 = true := by decide +kernel
theorem w_applies : (headSpec (Jvm.Cond.code x code maxLocals ret :: tables_1) room_1).applies x e0.platform about1 = true :=
  (Spec.applies_iff w_frames).mpr ⟨w_running, w_runnable, w_alone, w_named, w_hears, w_ripe, w_room, w_tables⟩
theorem atStart : AtStart classFile x code maxLocals ret World_1 tables_1 room_1 Calls_1 rest_1 Pre_1 launch0 p0 e0 about1 theMethod args0 below0 :=
  ⟨lists_1, trivial, launch0.admits_env _ _ _, launch0.least_env, fairChoices_fair.cas, fairChoices_fair.clock, w_frames, w_args, w_heap, w_applies, trivial, trivial, w_case⟩
end start1
theorem witness_1 : WitnessClaimed_1 := ⟨start1.p0, start1.e0, start1.about1, start1.theMethod, start1.args0, start1.below0, start1.atStart⟩
end Jvm.Pilot.@@N@@
