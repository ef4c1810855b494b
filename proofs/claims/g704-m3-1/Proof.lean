import JvmDerived
import JvmDerived.Pilot.@@N@@Statement
import JvmDerived.Pilot.@@N@@Code
set_option linter.unusedVariables false
set_option linter.unusedSimpArgs false
namespace Jvm.OwnKit
open Sem ClassFile Op Lib Jvm.Stand Jvm.Free Jvm.LawKit Jvm.RoadKit
/-- from the state A the run comes to an end as the contract asks it -/
def OwnEnd (p : Program) (e : Env) (below : List Frame) (s : State) (Q : Option Value → Heap → List Loc → Prop) (kc ks : Nat) (A : State) : Prop :=
  ∃ (s₂ : State) (o : Outcome), Steps p.tables e below A s₂ ∧ s₂.status = .running ∧ Ended s₂ below o ∧ ∃ v L, o = .returned v ∧ Q v s₂.heap L ∧ FrameEnd s o s₂ L kc ks
section Own
variable {p : Program} {l : Launch} {e : Env} {R : Room} {s : State} {m : MethodId} {args : Array Value} {below : List Frame} {meth : Method} {c : Code} {T : State} {locs : List Loc} {cells slots : Nat} {Z : State} {a0 : Array Value} {h : Heap}
variable {Q : Option Value → Heap → List Loc → Prop} {kc ks : Nat}
theorem go {A B : State} (k : ∀ t, Steps p.tables e below B t → Steps p.tables e below A t) (F : OwnEnd p e below s Q kc ks B) : OwnEnd p e below s Q kc ks A := by
  obtain ⟨s₂, o, h1, r⟩ := F; exact ⟨s₂, o, k _ h1, r⟩
theorem up {cells' slots' : Nat} (X : Stand p l e R s m args below meth c T locs cells slots) (h1 : cells ≤ cells') (h2 : slots ≤ slots') : Stand p l e R s m args below meth c T locs cells' slots' :=
  ⟨X.admits, X.cas, X.clock, X.frames, X.room, X.hears, X.method, X.code, X.here, X.tail, X.warmed, X.limits, X.bytes, X.same.mono h1 h2⟩
theorem done (X : Stand p l e R s m args below meth c T locs cells slots) (hlk : meth.locks = false) {v : Option Value} (hv : meth.sig.returnType = none → v = none) {A : State}
    (st : ∀ fs, (∀ (f : JFrame) (acts : List Action), f.method = m → f.locked = none → f.entered = [] → (doReturn e (T.setTop f) acts v).1 = T.setFrames fs) → Steps p.tables e below A (T.setFrames fs))
    (eT : T.heap = h) (hk : cells ≤ kc) (hs : slots ≤ ks) (hQ : Q v h locs) : OwnEnd p e below s Q kc ks A := by
  obtain ⟨fs, hr, hrun, hended, hW, hsame⟩ := X.leave (v := v) hv hlk
  exact ⟨_, _, st fs hr, hrun, hended, _, _, rfl, (by show Q v T.heap locs; rw [eT]; exact hQ), ⟨_, rfl⟩, hW, hsame.mono hk hs⟩
theorem endI (X : Stand p l e R s m args below meth c T locs cells slots) (hx : p.tables.exec = Jvm.exec) (hlk : meth.locks = false) (hret : meth.sig.returnType = some .int) {pc : Nat} {Ls : Array Slot} {z : Int32} {rest : List Value} (hd : decode c.code pc = .ok (.ireturn, 1))
    (eT : T.heap = h) (hk : cells ≤ kc) (hs : slots ≤ ks) (hQ : Q (some (.int z)) h locs) : OwnEnd p e below s Q kc ks (T.setTop (mkF m pc Ls (.int z :: rest))) :=
  done X hlk (fun q => by rw [hret] at q; cases q) (fun fs hr => retOut X hx (w := .int z) hret rfl (Or.inl ⟨rfl, Or.inl rfl, z, rfl⟩) hd hr) eT hk hs hQ
theorem endN (X : Stand p l e R s m args below meth c T locs cells slots) (hx : p.tables.exec = Jvm.exec) (hlk : meth.locks = false) {t : FieldType} (ht : t = .boolean ∨ t = .byte ∨ t = .char ∨ t = .short) (hret : meth.sig.returnType = some t) {pc : Nat} {Ls : Array Slot} {z : Int32} {rest : List Value} (hd : decode c.code pc = .ok (.ireturn, 1))
    (eT : T.heap = h) (hk : cells ≤ kc) (hs : slots ≤ ks) (hQ : Q (some (.int (nar t z))) h locs) : OwnEnd p e below s Q kc ks (T.setTop (mkF m pc Ls (.int z :: rest))) :=
  done X hlk (fun q => by rw [hret] at q; cases q) (fun fs hr => retN X hx hret ht hd hr) eT hk hs hQ
theorem endJ (X : Stand p l e R s m args below meth c T locs cells slots) (hx : p.tables.exec = Jvm.exec) (hlk : meth.locks = false) (hret : meth.sig.returnType = some .long) {pc : Nat} {Ls : Array Slot} {z : Int64} {rest : List Value} (hd : decode c.code pc = .ok (.lreturn, 1))
    (eT : T.heap = h) (hk : cells ≤ kc) (hs : slots ≤ ks) (hQ : Q (some (.long z)) h locs) : OwnEnd p e below s Q kc ks (T.setTop (mkF m pc Ls (.long z :: rest))) :=
  done X hlk (fun q => by rw [hret] at q; cases q) (fun fs hr => retOut X hx (w := .long z) hret rfl (Or.inr (Or.inl ⟨rfl, rfl, z, rfl⟩)) hd hr) eT hk hs hQ
theorem endA (X : Stand p l e R s m args below meth c T locs cells slots) (hx : p.tables.exec = Jvm.exec) (hlk : meth.locks = false) {t : FieldType} (hret : meth.sig.returnType = some t) (ht : t.isReference = true) {pc : Nat} {Ls : Array Slot} {w : Value} (hw : w.isRef = true) {rest : List Value} (hd : decode c.code pc = .ok (.areturn, 1))
    (eT : T.heap = h) (hk : cells ≤ kc) (hs : slots ≤ ks) (hQ : Q (some w) h locs) : OwnEnd p e below s Q kc ks (T.setTop (mkF m pc Ls (w :: rest))) :=
  done X hlk (fun q => by rw [hret] at q; cases q) (fun fs hr => retOut X hx (w := w) hret (by cases t <;> first | rfl | cases ht) (Or.inr (Or.inr (Or.inr (Or.inr ⟨rfl, ht, hw⟩)))) hd hr) eT hk hs hQ
theorem endV (X : Stand p l e R s m args below meth c T locs cells slots) (hx : p.tables.exec = Jvm.exec) (hlk : meth.locks = false) (hret : meth.sig.returnType = none) {pc : Nat} {Ls : Array Slot} (hd : decode c.code pc = .ok (.return_, 1))
    (eT : T.heap = h) (hk : cells ≤ kc) (hs : slots ≤ ks) (hQ : Q none h locs) : OwnEnd p e below s Q kc ks (T.setTop (mkF m pc Ls [])) :=
  done X hlk (fun _ => rfl) (fun fs hr => X.returnOut hx hret hd hr) eT hk hs hQ
theorem nar01 {P : Prop} [Decidable P] : nar .boolean (if P then (1 : Int32) else 0) = if P then (1 : Int32) else 0 := by split <;> rfl
section Call
variable {own : String} {index : Nat} {y z : MethodName} {bytes : ByteArray} {maxL W : Nat} {ret : Option FieldType} {rm : Room} {as' : Array Value} {Qc : Option Value → Heap → List Loc → Prop} {g : JFrame} {argsL rest : List Value}
theorem callStat (X : Stand p l e R s m args below meth c T locs cells slots) (hx : p.tables.exec = Jvm.exec) (hZ : Z.Warmed39 s.vm) (hown : s.vm.findClass own = some m.cls)
    (w1 : (Cond.methodLink own index y).before a0 Z = true) (w2 : (Cond.static y).before a0 Z = true) (w3 : (Cond.initialized y.cls).before a0 Z = true) (w4 : (Cond.code y bytes maxL ret).before a0 Z = true)
    (hy : y.cls ≠ "java/lang/invoke/MethodHandle" ∧ y.cls ≠ "java/lang/invoke/VarHandle")
    (hM : MetFree l y (head1 [Cond.code y bytes maxL ret] rm) (fun a U => a = as' ∧ Z.Warmed39 U.vm ∧ U.heap = h) (fun _ _ _ _ _ => True) (fun _ U o U' => ∃ v L, o = .returned v ∧ Qc v U'.heap L ∧ FrameEnd U o U' L rm.cells rm.slots))
    (hf : rm.frames + 1 ≤ R.frames) (hl : W + (maxL + 11) + rm.locals ≤ R.locals) (eT : T.heap = h) (hg : g.method = m) (hsize : g.locals.size = c.maxLocals) (ha : argsL.toArray = as')
    (hlen : ∀ sig, parseMethodDescriptor y.desc = some sig → argsL.length = sig.parameters.length) (hstack : g.stack = argsL.reverse ++ rest) (hW : 2 * g.monitorRoom + (rest.map fun v => v.category).sum ≤ W) (hdg : decode c.code g.pc = .ok (.invokestatic index, 3))
    (hc : cells + rm.cells ≤ R.cells) (hs : slots + rm.slots ≤ R.slots) :
    ∃ (v : Option Value) (T' : State) (L : List Loc), Stand p l e R s m args below meth c T' (locs ++ L) (cells + rm.cells) (slots + rm.slots) ∧ Qc v T'.heap L ∧ ∀ target, Steps p.tables e below (T'.setTop { g with pc := g.pc + 3, stack := v.toList ++ rest }) target → Steps p.tables e below (T.setTop g) target := by
  obtain ⟨v, _, ⟨T', L', k', n'⟩, -, X', ⟨L, hQ, l1, l2, l3⟩, st⟩ := Jvm.LawKit.callS X hx hown (mvT hZ w1) (mvT hZ w2) (mvT hZ w3) (mvT hZ w4) hy (backOf (W := W) hM hZ w4 w3 hf hl) (g := g) hg hsize (argsL := argsL) (rest := rest) hlen hstack hW hdg (fun _ _ => ⟨ha, eT, hc, hs⟩)
  dsimp only [Pt.U, Pt.locs, Pt.cells, Pt.slots] at X' l1 l2 l3 st hQ
  subst l1 l2 l3
  exact ⟨v, T', L, X', hQ, st⟩
theorem callInit (X : Stand p l e R s m args below meth c T locs cells slots) (hx : p.tables.exec = Jvm.exec) (hZ : Z.Warmed39 s.vm) (hown : s.vm.findClass own = some m.cls) (hy1 : y.name = "<init>")
    (w1 : (Cond.methodLink own index y).before a0 Z = true) (w2 : (Cond.instanceMethod y).before a0 Z = true) (w3 : (Cond.initialized y.cls).before a0 Z = true) (w4 : (Cond.code y bytes maxL none).before a0 Z = true)
    (hy : y.cls ≠ "java/lang/invoke/MethodHandle" ∧ y.cls ≠ "java/lang/invoke/VarHandle")
    (hM : MetFree l y (head1 [Cond.code y bytes maxL none] rm) (fun a U => a = as' ∧ Z.Warmed39 U.vm ∧ U.heap = h) (fun _ _ _ _ _ => True) (fun _ U o U' => ∃ v L, o = .returned v ∧ Qc v U'.heap L ∧ FrameEnd U o U' L rm.cells rm.slots))
    (hf : rm.frames + 1 ≤ R.frames) (hl : W + (maxL + 11) + rm.locals ≤ R.locals) (eT : T.heap = h) (hg : g.method = m) (hsize : g.locals.size = c.maxLocals) {a : Addr} (ha : (Value.ref a :: argsL).toArray = as')
    (hlen : ∀ sig, parseMethodDescriptor y.desc = some sig → argsL.length = sig.parameters.length) (hstack : g.stack = argsL.reverse ++ .ref a :: rest) (hW : 2 * g.monitorRoom + (rest.map fun v => v.category).sum ≤ W) (hdg : decode c.code g.pc = .ok (.invokespecial index, 3))
    (hc : cells + rm.cells ≤ R.cells) (hs : slots + rm.slots ≤ R.slots) :
    ∃ (v : Option Value) (T' : State) (L : List Loc), Stand p l e R s m args below meth c T' (locs ++ L) (cells + rm.cells) (slots + rm.slots) ∧ Qc v T'.heap L ∧ ∀ target, Steps p.tables e below (T'.setTop { g with pc := g.pc + 3, stack := v.toList ++ rest }) target → Steps p.tables e below (T.setTop g) target := by
  obtain ⟨v, _, ⟨T', L', k', n'⟩, -, X', ⟨L, hQ, l1, l2, l3⟩, st⟩ := X.specialBack hx hy1 hown (mvT hZ w1) (mvT hZ w2) (mvT hZ w4) hy (backOf (W := W) hM hZ w4 w3 hf hl) (g := g) hg hsize (Steps.refl _) (a := a) (argsL := argsL) (rest := rest) hlen hstack hW hdg (fun _ _ => ⟨ha, eT, hc, hs⟩)
  dsimp only [Pt.U, Pt.locs, Pt.cells, Pt.slots] at X' l1 l2 l3 st hQ
  subst l1 l2 l3
  exact ⟨v, T', L, X', hQ, fun _ k => st.trans k⟩
theorem callVirt (X : Stand p l e R s m args below meth c T locs cells slots) (hx : p.tables.exec = Jvm.exec) (hZ : Z.Warmed39 s.vm) (hown : s.vm.findClass own = some m.cls) {C : String}
    (w1 : (Cond.methodLink own index y).before a0 Z = true) (w2 : (Cond.declares y).before a0 Z = true) (hnf : NotFace s y) (w3 : (Cond.selects C y z).before a0 Z = true) (w5 : (Cond.instanceMethod z).before a0 Z = true) (w6 : (Cond.initialized z.cls).before a0 Z = true) (w4 : (Cond.code z bytes maxL ret).before a0 Z = true)
    (hy : y.cls ≠ "java/lang/invoke/MethodHandle" ∧ y.cls ≠ "java/lang/invoke/VarHandle")
    (hM : MetFree l z (head1 [Cond.code z bytes maxL ret] rm) (fun a U => a = as' ∧ Z.Warmed39 U.vm ∧ U.heap = h) (fun _ _ _ _ _ => True) (fun _ U o U' => ∃ v L, o = .returned v ∧ Qc v U'.heap L ∧ FrameEnd U o U' L rm.cells rm.slots))
    (hf : rm.frames + 1 ≤ R.frames) (hl : W + (maxL + 11) + rm.locals ≤ R.locals) (eT : T.heap = h) {a : Addr} (E : Exa Z h a C) (hg : g.method = m) (hsize : g.locals.size = c.maxLocals) (ha : (Value.ref a :: argsL).toArray = as')
    (hlen : ∀ sig, parseMethodDescriptor y.desc = some sig → argsL.length = sig.parameters.length) (hstack : g.stack = argsL.reverse ++ .ref a :: rest) (hW : 2 * g.monitorRoom + (rest.map fun v => v.category).sum ≤ W) (hdg : decode c.code g.pc = .ok (.invokevirtual index, 3))
    (hc : cells + rm.cells ≤ R.cells) (hs : slots + rm.slots ≤ R.slots) :
    ∃ (v : Option Value) (T' : State) (L : List Loc), Stand p l e R s m args below meth c T' (locs ++ L) (cells + rm.cells) (slots + rm.slots) ∧ Qc v T'.heap L ∧ ∀ target, Steps p.tables e below (T'.setTop { g with pc := g.pc + 3, stack := v.toList ++ rest }) target → Steps p.tables e below (T.setTop g) target := by
  obtain ⟨cq, kq, q1, q2, q3⟩ := isOf hZ eT E
  obtain ⟨v, _, ⟨T', L', k', n'⟩, -, X', ⟨L, hQ, l1, l2, l3⟩, st⟩ := X.virtualBack hx hown (mvT hZ w1) (mvT hZ w2) hnf (mvT hZ w3) (mvT hZ w5) hy (backOf (W := W) hM hZ w4 w6 hf hl) q1 q3 (g := g) hg hsize (Steps.refl _) (argsL := argsL) (rest := rest) hlen hstack hW hdg (fun _ _ => ⟨ha, eT, hc, hs⟩)
  dsimp only [Pt.U, Pt.locs, Pt.cells, Pt.slots] at X' l1 l2 l3 st hQ
  subst l1 l2 l3
  exact ⟨v, T', L, X', hQ, fun _ k => st.trans k⟩
theorem callUp (X : Stand p l e R s m args below meth c T locs cells slots) (hx : p.tables.exec = Jvm.exec) (hZ : Z.Warmed39 s.vm) (hown : s.vm.findClass own = some m.cls) {C owner : String}
    (w1 : (Cond.methodLink own index y).before a0 Z = true) (w0 : (Cond.sameMethod y.cls owner y.name y.desc).before a0 Z = true) (w2 : (Cond.declares ⟨owner, y.name, y.desc⟩).before a0 Z = true) (ho : owner ≠ "java/lang/invoke/MethodHandle" ∧ owner ≠ "java/lang/invoke/VarHandle")
    (w3 : (Cond.selects C y z).before a0 Z = true) (w5 : (Cond.instanceMethod z).before a0 Z = true) (w6 : (Cond.initialized z.cls).before a0 Z = true) (w4 : (Cond.code z bytes maxL ret).before a0 Z = true)
    (hM : MetFree l z (head1 [Cond.code z bytes maxL ret] rm) (fun a U => a = as' ∧ Z.Warmed39 U.vm ∧ U.heap = h) (fun _ _ _ _ _ => True) (fun _ U o U' => ∃ v L, o = .returned v ∧ Qc v U'.heap L ∧ FrameEnd U o U' L rm.cells rm.slots))
    (hf : rm.frames + 1 ≤ R.frames) (hl : W + (maxL + 11) + rm.locals ≤ R.locals) (eT : T.heap = h) {a : Addr} (E : Exa Z h a C) (hg : g.method = m) (hsize : g.locals.size = c.maxLocals) (ha : (Value.ref a :: argsL).toArray = as')
    (hlen : ∀ sig, parseMethodDescriptor y.desc = some sig → argsL.length = sig.parameters.length) (hstack : g.stack = argsL.reverse ++ .ref a :: rest) (hW : 2 * g.monitorRoom + (rest.map fun v => v.category).sum ≤ W) (hdg : decode c.code g.pc = .ok (.invokevirtual index, 3))
    (hc : cells + rm.cells ≤ R.cells) (hs : slots + rm.slots ≤ R.slots) :
    ∃ (v : Option Value) (T' : State) (L : List Loc), Stand p l e R s m args below meth c T' (locs ++ L) (cells + rm.cells) (slots + rm.slots) ∧ Qc v T'.heap L ∧ ∀ target, Steps p.tables e below (T'.setTop { g with pc := g.pc + 3, stack := v.toList ++ rest }) target → Steps p.tables e below (T.setTop g) target := by
  obtain ⟨cq, kq, q1, q2, q3⟩ := isOf hZ eT E
  obtain ⟨v, _, ⟨T', L', k', n'⟩, -, X', ⟨L, hQ, l1, l2, l3⟩, st⟩ := X.virtualBackUp hx hown (mvT hZ w1) (mvT hZ w0) (mvT hZ w2) ho (mvT hZ w3) (mvT hZ w5) (backOf (W := W) hM hZ w4 w6 hf hl) q1 q3 (g := g) hg hsize (Steps.refl _) (argsL := argsL) (rest := rest) hlen hstack hW hdg (fun _ _ => ⟨ha, eT, hc, hs⟩)
  dsimp only [Pt.U, Pt.locs, Pt.cells, Pt.slots] at X' l1 l2 l3 st hQ
  subst l1 l2 l3
  exact ⟨v, T', L, X', hQ, fun _ k => st.trans k⟩
theorem callPriv (X : Stand p l e R s m args below meth c T locs cells slots) (hx : p.tables.exec = Jvm.exec) (hZ : Z.Warmed39 s.vm) (hown : s.vm.findClass own = some m.cls) {C : String} {kk : Nat}
    (w1 : (Cond.methodLink own index y).before a0 Z = true) (w2 : (Cond.instanceMethod y).before a0 Z = true) (wp : (Cond.privateMethod y).before a0 Z = true) (wi : (Cond.instantiable y.cls kk).before a0 Z = true) (w6 : (Cond.initialized y.cls).before a0 Z = true) (w4 : (Cond.code y bytes maxL ret).before a0 Z = true)
    (hy : y.cls ≠ "java/lang/invoke/MethodHandle" ∧ y.cls ≠ "java/lang/invoke/VarHandle")
    (hM : MetFree l y (head1 [Cond.code y bytes maxL ret] rm) (fun a U => a = as' ∧ Z.Warmed39 U.vm ∧ U.heap = h) (fun _ _ _ _ _ => True) (fun _ U o U' => ∃ v L, o = .returned v ∧ Qc v U'.heap L ∧ FrameEnd U o U' L rm.cells rm.slots))
    (hf : rm.frames + 1 ≤ R.frames) (hl : W + (maxL + 11) + rm.locals ≤ R.locals) (eT : T.heap = h) {a : Addr} (E : Exa Z h a C) (hg : g.method = m) (hsize : g.locals.size = c.maxLocals) (ha : (Value.ref a :: argsL).toArray = as')
    (hlen : ∀ sig, parseMethodDescriptor y.desc = some sig → argsL.length = sig.parameters.length) (hstack : g.stack = argsL.reverse ++ .ref a :: rest) (hW : 2 * g.monitorRoom + (rest.map fun v => v.category).sum ≤ W) (hdg : decode c.code g.pc = .ok (.invokevirtual index, 3))
    (hc : cells + rm.cells ≤ R.cells) (hs : slots + rm.slots ≤ R.slots) :
    ∃ (v : Option Value) (T' : State) (L : List Loc), Stand p l e R s m args below meth c T' (locs ++ L) (cells + rm.cells) (slots + rm.slots) ∧ Qc v T'.heap L ∧ ∀ target, Steps p.tables e below (T'.setTop { g with pc := g.pc + 3, stack := v.toList ++ rest }) target → Steps p.tables e below (T.setTop g) target := by
  obtain ⟨c2, k2, i1, i2, -, i4, -⟩ := Cond.instantiable_spec (mvT hZ wi (args := args))
  simp only [Bool.or_eq_false_iff] at i4
  have hpriv := Cond.privateMethod_at (mvP hZ wp (args := args))
  have hsel := selects_self_of_private (args := args) i1 i2 i4.1 hpriv (mvT hZ w2) hy
  obtain ⟨cl, q1, q2⟩ := E.cell
  obtain ⟨v, _, ⟨T', L', k', n'⟩, -, X', ⟨L, hQ, l1, l2, l3⟩, st⟩ := X.privateBack hx hown (mvT hZ w1) (mvT hZ w2) hsel hpriv (mvT hZ w4) hy (backOf (W := W) hM hZ w4 w6 hf hl) (g := g) hg hsize (Steps.refl _) (a := a) (cell := cl) (by rw [eT]; exact q1) q2 (argsL := argsL) (rest := rest) hlen hstack hW hdg (fun _ _ => ⟨ha, eT, hc, hs⟩)
  dsimp only [Pt.U, Pt.locs, Pt.cells, Pt.slots] at X' l1 l2 l3 st hQ
  subst l1 l2 l3
  exact ⟨v, T', L, X', hQ, fun _ k => st.trans k⟩
theorem callFace (X : Stand p l e R s m args below meth c T locs cells slots) (hx : p.tables.exec = Jvm.exec) (hZ : Z.Warmed39 s.vm) (hown : s.vm.findClass own = some m.cls) {C : String} {count : Nat}
    (w1 : (Cond.methodLink own index y).before a0 Z = true) (w2 : (Cond.declares y).before a0 Z = true) (wf : (Cond.interfaceMethod y.cls y.cls y.name y.desc).before args s = true) (w3 : (Cond.selects C y z).before a0 Z = true) (w5 : (Cond.instanceMethod z).before a0 Z = true) (wu : (Cond.publicMethod z).before a0 Z = true) (wh : (Cond.unhidden C y.name y.desc).before a0 Z = true) (wk : (Cond.castable C y.cls).before a0 Z = true) (w6 : (Cond.initialized z.cls).before a0 Z = true) (w4 : (Cond.code z bytes maxL ret).before a0 Z = true)
    (hy : y.cls ≠ "java/lang/invoke/MethodHandle" ∧ y.cls ≠ "java/lang/invoke/VarHandle")
    (hM : MetFree l z (head1 [Cond.code z bytes maxL ret] rm) (fun a U => a = as' ∧ Z.Warmed39 U.vm ∧ U.heap = h) (fun _ _ _ _ _ => True) (fun _ U o U' => ∃ v L, o = .returned v ∧ Qc v U'.heap L ∧ FrameEnd U o U' L rm.cells rm.slots))
    (hf : rm.frames + 1 ≤ R.frames) (hl : W + (maxL + 11) + rm.locals ≤ R.locals) (eT : T.heap = h) {a : Addr} (E : Exa Z h a C) (hg : g.method = m) (hsize : g.locals.size = c.maxLocals) (ha : (Value.ref a :: argsL).toArray = as')
    (hlen : ∀ sig, parseMethodDescriptor y.desc = some sig → argsL.length = sig.parameters.length) (hstack : g.stack = argsL.reverse ++ .ref a :: rest) (hW : 2 * g.monitorRoom + (rest.map fun v => v.category).sum ≤ W) (hdg : decode c.code g.pc = .ok (.invokeinterface index count, 5))
    (hc : cells + rm.cells ≤ R.cells) (hs : slots + rm.slots ≤ R.slots) :
    ∃ (v : Option Value) (T' : State) (L : List Loc), Stand p l e R s m args below meth c T' (locs ++ L) (cells + rm.cells) (slots + rm.slots) ∧ Qc v T'.heap L ∧ ∀ target, Steps p.tables e below (T'.setTop { g with pc := g.pc + 5, stack := v.toList ++ rest }) target → Steps p.tables e below (T.setTop g) target := by
  obtain ⟨cq, kq, q1, q2, q3⟩ := isOf hZ eT E
  obtain ⟨v, _, ⟨T', L', k', n'⟩, -, X', ⟨L, hQ, l1, l2, l3⟩, st⟩ := X.interfaceBack hx hown (mvT hZ w1) (mvT hZ w2) wf (mvT hZ w3) (mvT hZ w5) (mvT hZ wu) (mvT hZ wh) (mvT hZ wk) hy (backOf (W := W) hM hZ w4 w6 hf hl) q1 q2 q3 (g := g) hg hsize (Steps.refl _) (argsL := argsL) (rest := rest) hlen hstack hW hdg (fun _ _ => ⟨ha, eT, hc, hs⟩)
  dsimp only [Pt.U, Pt.locs, Pt.cells, Pt.slots] at X' l1 l2 l3 st hQ
  subst l1 l2 l3
  exact ⟨v, T', L, X', hQ, fun _ k => st.trans k⟩
end Call
/-- an object of C is none of K (K a class that can be made) -/
theorem NSroot {O K : String} {kk : Nat} (w : (Cond.noSuperclass O).before a0 Z = true) (wk : (Cond.instantiable K kk).before a0 Z = true) (hn : O ≠ K) : NS Z O K := by
  obtain ⟨c, k, h1, h2, h3, -, -⟩ := Cond.noSuperclass_spec w
  obtain ⟨t, kt, g1, -⟩ := Cond.instantiable_spec wk
  have ne := ids_ne h1 g1 hn
  refine ⟨c, t, h1, g1, fun fuel => ?_⟩
  cases fuel with
  | zero => rfl
  | succ f => simp [Vm.isSubclassAux, ne, h2, h3]
theorem NSno {C S K : String} {kk : Nat} (w : (Cond.superclass C S).before a0 Z = true) (wk : (Cond.instantiable K kk).before a0 Z = true) (n : NS Z C K) (hn : C ≠ K) : ∃ c t, Z.vm.findClass C = some c ∧ Z.vm.findClass K = some t ∧ Z.vm.assignable c t = false := by
  obtain ⟨c, t, h0, g0, n3⟩ := n
  obtain ⟨p, k, kp, h1, h2, h3, h4, h5, -, h7⟩ := Cond.superclass_spec h0 w
  obtain ⟨t', k', g1, g2, g5, g7, -⟩ := Cond.instantiable_spec wk
  cases g0.symm.trans g1
  simp only [Bool.or_eq_false_iff] at g7
  have ne := ids_ne h0 g0 hn
  refine ⟨c, t, h0, g0, ?_⟩
  show Z.vm.assignableAux (255 + 1) c t = false
  simp [Vm.assignableAux, ne, h2, g2, h5, g5, g7.1, Vm.isSubclass, n3]
end Own
end Jvm.OwnKit
namespace Jvm.Pilot.@@N@@
open Jvm Jvm.ClassFile Sem Op Lib Jvm.Free Jvm.Stand Jvm.LawKit Jvm.RoadKit Bundle Jvm.OwnKit Jvm.Pilot.@@N@@.Jvm.D

theorem own_bxL (q : Int64) (h1 : ¬ q < (-128 : Int64)) (h2 : ¬ (127 : Int64) < q) : ¬ ((q.toInt32) + (128 : Int32)) < 0 ∧ ((q.toInt32) + (128 : Int32)).toNatClampNeg < 256 := by
  have a1 := c_l2i q
  have a2 := c_iadd q.toInt32 128
  have a3 := rng32 q.toInt32
  have a4 := rng32 (q.toInt32 + 128)
  have a5 := rng64 q
  simp only [Int64.lt_iff_toInt_lt, Int32.lt_iff_toInt_lt, Int32.toNatClampNeg, Int64.reduceToInt, Int32.reduceToInt] at *
  omega
theorem own_bxI (q : Int32) (h1 : ¬ q < (-128 : Int32)) (h2 : ¬ (127 : Int32) < q) : ¬ (q + (128 : Int32)) < 0 ∧ (q + (128 : Int32)).toNatClampNeg < 256 := by
  have a2 := c_iadd q 128
  have a3 := rng32 q
  have a4 := rng32 (q + 128)
  simp only [Int32.lt_iff_toInt_lt, Int32.toNatClampNeg, Int32.reduceToInt] at *
  omega
theorem own_len {args : Array Value} {s : State} {t : Term} {a : Addr} {cc : Cell} {ty : FieldType} {k : Int32} (ht : t.eval args s none [] s = some (.ref a)) (A : Arr s s.heap a cc ty) (h : (Jvm.Cond.eq (Jvm.Term.length t) (Jvm.Term.int k)).value args s none s [] = some true) : cc.slots.size.toInt32 = k ∧ cc.slots.size < 2 ^ 31 := by
  obtain ⟨x, y, e1, e2, -, k2⟩ := cmp_v (Or.inl h)
  have e3 : y = .int k := (Option.some.inj e2).symm
  subst e3
  obtain ⟨z, rfl⟩ := k2
  have e4 : z = k := gotT (Cond.eq_ints e1 rfl) h
  subst e4
  have e5 := A.fin (Vm.Alike.refl _)
  simp only [Term.eval, ht, e5, Option.bind_eq_bind, Option.bind_some] at e1
  split at e1
  · rename_i hl
    exact ⟨Value.int.inj (Option.some.inj e1), hl⟩
  · cases e1
theorem own_all {args : Array Value} {s : State} {t : Term} {d : Jvm.Cond} {a : Addr} {cc : Cell} {ty : FieldType} {C : String} (ht : t.eval args s none [] s = some (.ref a)) (A : Arr s s.heap a cc ty)
    (h : (Jvm.Cond.all t (Jvm.Cond.and (Jvm.Cond.exactly (Jvm.Term.elem t (Jvm.Term.index 0)) C) d)).value args s none s [] = some true) (hs : cc.slots.size < 2 ^ 31) (ht' : ∀ i, t.eval args s none [i] s = some (.ref a)) : ∀ i, i < cc.slots.size → ∃ b, cc.slots[i]? = some (.ref b) ∧ Exa s s.heap b C := by
  intro i hi
  have h1 := (and_e (Cond.all_elim ht (A.fin (Vm.Alike.refl _)) h i hi)).1
  obtain ⟨b, hb⟩ := exa_v h1
  have hidx : (Jvm.Term.index 0).eval args s none [i] s = some (.int i.toInt32) := by simp [Term.eval]
  obtain ⟨-, e⟩ := elem_in hb (ht' i) hidx A.1
  have en : i.toInt32.toNatClampNeg = i := by simp only [Int32.toNatClampNeg, len_toInt (Nat.lt_trans hi hs)]; rfl
  rw [en] at e
  refine ⟨b, e, ?_⟩
  have hx' := beq_iff_eq.mpr h1
  obtain ⟨a', c', cell, k, e1, e2, e3, e4, e5, rfl, e7⟩ := Cond.exactly_spec (beq_iff_eq.mpr h1 : (Jvm.Cond.exactly (Jvm.Term.elem t (Jvm.Term.index 0)) C).holds args s none s [i] = true)
  cases hb.symm.trans e1
  exact ⟨cell, k, e3, e2, e4, e5, e7⟩

abbrev own_eq (l1 : Int32) (e1 z1 : Int64) (l2 : Int32) (e2 z2 : Int64) : Prop := l1 = l2 ∧ e1 = e2 ∧ z1 = z2
theorem own_fin (l1 : Int32) (e1 z1 : Int64) (l2 : Int32) (e2 z2 : Int64) (x : Int32) (q : x = (if l2 = l1 then (if e2 = e1 then (if z2 = z1 then (1 : Int32) else (0 : Int32)) else (0 : Int32)) else (0 : Int32))) :
    (if own_eq l1 e1 z1 l2 e2 z2 then (1 : Int32) else 0) = x ∧ (if own_eq l2 e2 z2 l1 e1 z1 then (1 : Int32) else 0) = x := by
  subst q
  by_cases a : l2 = l1 <;> by_cases b : e2 = e1 <;> by_cases c : z2 = z1 <;> simp [own_eq, a, b, c, eq_comm] <;> simp_all [eq_comm]
theorem own_stat {args : Array Value} {s : State} {t : Term} {k : Int32} (h : (Jvm.Cond.eq t (Jvm.Term.int k)).value args s none s [] = some true) : t.eval args s none [] s = some (.int k) := by
  obtain ⟨x, y, e1, e2, -, k2⟩ := cmp_v (Or.inl h)
  have e3 : y = .int k := (Option.some.inj e2).symm
  subst e3
  obtain ⟨z, rfl⟩ := k2
  have e4 : z = k := gotT (Cond.eq_ints e1 rfl) h
  subst e4; exact e1
abbrev fL0 (y0 : Addr) (y1 : Int32) (y2 : Int64) (y3 : Int64) : Array Slot := #[.val (.ref y0), .val (.int y1), .val (.long y2), .second, .val (.long y3), .second]
abbrev fL1 (y0 : Int32) (y1 : Int64) (y2 : Int64) (y3 : Int32) (y4 : Int32) (y5 : Int64) : Array Slot := #[.val (.int y0), .val (.long y1), .second, .val (.long y2), .second, .val (.int y3), .val (.int y4), .val (.long y5), .second, .unset, .unset, .unset, .unset, .unset, .unset, .unset, .unset, .unset, .unset]
abbrev fL2 (y0 : Int32) (y1 : Int64) (y2 : Int64) (y3 : Int32) (y4 : Int32) (y5 : Int64) (y6 : Int32) : Array Slot := #[.val (.int y0), .val (.long y1), .second, .val (.long y2), .second, .val (.int y3), .val (.int y4), .val (.long y5), .second, .val (.int y6), .unset, .unset, .unset, .unset, .unset, .unset, .unset, .unset, .unset]
abbrev fL3 (y0 : Int32) (y1 : Int64) (y2 : Int64) (y3 : Int32) (y4 : Int32) (y5 : Int64) (y6 : Int32) (y7 : Int64) : Array Slot := #[.val (.int y0), .val (.long y1), .second, .val (.long y2), .second, .val (.int y3), .val (.int y4), .val (.long y5), .second, .val (.int y6), .val (.long y7), .second, .unset, .unset, .unset, .unset, .unset, .unset, .unset]
abbrev fL4 (y0 : Int32) (y1 : Int64) (y2 : Int64) (y3 : Int32) (y4 : Int32) (y5 : Int64) (y6 : Int32) (y7 : Int64) (y8 : Int64) : Array Slot := #[.val (.int y0), .val (.long y1), .second, .val (.long y2), .second, .val (.int y3), .val (.int y4), .val (.long y5), .second, .val (.int y6), .val (.long y7), .second, .val (.long y8), .second, .unset, .unset, .unset, .unset, .unset]
abbrev fL5 (y0 : Int32) (y1 : Int64) (y2 : Int64) (y3 : Int32) (y4 : Int32) (y5 : Int64) (y6 : Int32) (y7 : Int64) (y8 : Int64) (y9 : Addr) : Array Slot := #[.val (.int y0), .val (.long y1), .second, .val (.long y2), .second, .val (.int y3), .val (.int y4), .val (.long y5), .second, .val (.int y6), .val (.long y7), .second, .val (.long y8), .second, .val (.ref y9), .unset, .unset, .unset, .unset]
abbrev fL6 (y0 : Int32) (y1 : Int64) (y2 : Int64) (y3 : Int32) (y4 : Int32) (y5 : Int64) (y6 : Int32) (y7 : Int64) (y8 : Int64) (y9 : Addr) (y10 : Addr) : Array Slot := #[.val (.int y0), .val (.long y1), .second, .val (.long y2), .second, .val (.int y3), .val (.int y4), .val (.long y5), .second, .val (.int y6), .val (.long y7), .second, .val (.long y8), .second, .val (.ref y9), .val (.ref y10), .unset, .unset, .unset]
abbrev fL7 (y0 : Int32) (y1 : Int64) (y2 : Int64) (y3 : Int32) (y4 : Int32) (y5 : Int64) (y6 : Int32) (y7 : Int64) (y8 : Int64) (y9 : Addr) (y10 : Addr) (y11 : Addr) : Array Slot := #[.val (.int y0), .val (.long y1), .second, .val (.long y2), .second, .val (.int y3), .val (.int y4), .val (.long y5), .second, .val (.int y6), .val (.long y7), .second, .val (.long y8), .second, .val (.ref y9), .val (.ref y10), .val (.ref y11), .unset, .unset]
abbrev fL8 (y0 : Int32) (y1 : Int64) (y2 : Int64) (y3 : Int32) (y4 : Int32) (y5 : Int64) (y6 : Int32) (y7 : Int64) (y8 : Int64) (y9 : Addr) (y10 : Addr) (y11 : Addr) (y12 : Int32) : Array Slot := #[.val (.int y0), .val (.long y1), .second, .val (.long y2), .second, .val (.int y3), .val (.int y4), .val (.long y5), .second, .val (.int y6), .val (.long y7), .second, .val (.long y8), .second, .val (.ref y9), .val (.ref y10), .val (.ref y11), .val (.int y12), .unset]
abbrev fL9 (y0 : Int32) (y1 : Int64) (y2 : Int64) (y3 : Int32) (y4 : Int32) (y5 : Int64) (y6 : Int32) (y7 : Int64) (y8 : Int64) (y9 : Addr) (y10 : Addr) (y11 : Addr) (y12 : Int32) (y13 : Int32) : Array Slot := #[.val (.int y0), .val (.long y1), .second, .val (.long y2), .second, .val (.int y3), .val (.int y4), .val (.long y5), .second, .val (.int y6), .val (.long y7), .second, .val (.long y8), .second, .val (.ref y9), .val (.ref y10), .val (.ref y11), .val (.int y12), .val (.int y13)]
theorem d_prog_29_method_1_code_0 : decode prog_29_method_1_code 0 = .ok (.aload_n 0, 1) := by decide +kernel
theorem d_prog_29_method_1_code_1 : decode prog_29_method_1_code 1 = .ok (.invokespecial 1, 3) := by decide +kernel
theorem d_prog_29_method_1_code_4 : decode prog_29_method_1_code 4 = .ok (.aload_n 0, 1) := by decide +kernel
theorem d_prog_29_method_1_code_5 : decode prog_29_method_1_code 5 = .ok (.iload_n 1, 1) := by decide +kernel
theorem d_prog_29_method_1_code_6 : decode prog_29_method_1_code 6 = .ok (.putfield 7, 3) := by decide +kernel
theorem d_prog_29_method_1_code_9 : decode prog_29_method_1_code 9 = .ok (.aload_n 0, 1) := by decide +kernel
theorem d_prog_29_method_1_code_10 : decode prog_29_method_1_code 10 = .ok (.lload_n 2, 1) := by decide +kernel
theorem d_prog_29_method_1_code_11 : decode prog_29_method_1_code 11 = .ok (.putfield 13, 3) := by decide +kernel
theorem d_prog_29_method_1_code_14 : decode prog_29_method_1_code 14 = .ok (.aload_n 0, 1) := by decide +kernel
theorem d_prog_29_method_1_code_15 : decode prog_29_method_1_code 15 = .ok (.lload 4, 2) := by decide +kernel
theorem d_prog_29_method_1_code_17 : decode prog_29_method_1_code 17 = .ok (.putfield 17, 3) := by decide +kernel
theorem d_prog_29_method_1_code_20 : decode prog_29_method_1_code 20 = .ok (.return_, 1) := by decide +kernel
theorem pn_com_example_bound_quorum_boundquorum_replication_Vote : plainName "com/example/bound_quorum/boundquorum/replication/Vote" = true := by first | (simp [plainName, overriddenIn]; done) | decide +kernel
theorem ef_rm_ini (m : MethodId) (y0 : Addr) (y1 : Int32) (y2 : Int64) (y3 : Int64) : entryFrame m #[(.ref y0), (.int y1), (.long y2), (.long y3)] 6 = mkF m 0 #[.val (.ref y0), .val (.int y1), .val (.long y2), .second, .val (.long y3), .second] [] := by first | (simp [entryFrame, mkF, argsToLocals, Value.category]; done) | rfl
def Q_rm_ini (Z : State) (a0' : Addr) (p1 : Int32) (q2 : Int64) (q3 : Int64) (h0 : Heap) (n0 : Nat) (v : Option Value) (h : Heap) (L : List Loc) : Prop := v = none ∧ Fr n0 L ∧ Keep h0 h [a0'] ∧ Exa Z h a0' "com/example/bound_quorum/boundquorum/replication/Vote" ∧ Fld Z h a0' "com/example/bound_quorum/boundquorum/replication/Vote" "leader" "I" (.int p1) ∧ Fld Z h a0' "com/example/bound_quorum/boundquorum/replication/Vote" "epoch" "J" (.long q2) ∧ Fld Z h a0' "com/example/bound_quorum/boundquorum/replication/Vote" "zxid" "J" (.long q3)
set_option maxRecDepth 65536 in
set_option maxHeartbeats 40000000 in
theorem rm_ini (l : Launch) (Z : State) (a0 : Array Value) (hw : ∀ d ∈ tables_1, d.before a0 Z = true) (ws : List Jvm.Cond) (a0' : Addr) (p1 : Int32) (q2 : Int64) (q3 : Int64) (h0 : Heap) (n0 : Nat) (ga : n0 ≤ a0') (EA : Exa Z h0 a0' "com/example/bound_quorum/boundquorum/replication/Vote") (F_leader : Fld Z h0 a0' "com/example/bound_quorum/boundquorum/replication/Vote" "leader" "I" (.int (0 : Int32))) (F_epoch : Fld Z h0 a0' "com/example/bound_quorum/boundquorum/replication/Vote" "epoch" "J" (.long (0 : Int64))) (F_zxid : Fld Z h0 a0' "com/example/bound_quorum/boundquorum/replication/Vote" "zxid" "J" (.long (0 : Int64))) :
    MetFree l (⟨"com/example/bound_quorum/boundquorum/replication/Vote", "<init>", "(IJJ)V"⟩ : MethodName) (head1 (Jvm.Cond.code (⟨"com/example/bound_quorum/boundquorum/replication/Vote", "<init>", "(IJJ)V"⟩ : MethodName) prog_29_method_1_code 6 none :: ws) ({ frames := 1, cells := 0, slots := 0, locals := 12 } : Room)) (fun a U => a = #[(.ref a0'), (.int p1), (.long q2), (.long q3)] ∧ Z.Warmed39 U.vm ∧ U.heap = h0) (fun _ _ _ _ _ => True) (fun _ U o U' => ∃ v L, o = .returned v ∧ Q_rm_ini Z a0' p1 q2 q3 h0 n0 v U'.heap L ∧ FrameEnd U o U' L 0 0) := by
  refine MetFree.of_bodySF (plainFor_of_name pn_com_example_bound_quorum_boundquorum_replication_Vote) hisR ?_
  intro p e s m args below meth c s₁ Bd hml0 hP hK
  obtain ⟨rfl, hZ, hh⟩ := hP
  have hx := Bd.exec
  have hby := Bd.bytes
  have hlk := Bd.notSynchronized
  have hml : c.maxLocals = 6 := hml0
  have hown : s.vm.findClass "com/example/bound_quorum/boundquorum/replication/Vote" = some m.cls := findClass_of_methodNamed Bd.named
  have hnm := (name_of_methodNamed Bd.named Bd.method).1
  have X0 : Stand p l e ({ frames := 1, cells := 0, slots := 0, locals := 12 } : Room) s m #[(.ref a0'), (.int p1), (.long q2), (.long q3)] below meth c s₁ [] 0 0 := Stand.of_body Bd
  have e0 : s₁.heap = h0 := by rw [← hh, Bd.state]; rfl
  have N0 := Fr.nil n0
  show OwnEnd p e below s (Q_rm_ini Z a0' p1 q2 q3 h0 n0) 0 0 (s₁.setTop (entryFrame m #[(.ref a0'), (.int p1), (.long q2), (.long q3)] 6))
  refine go (fun t k => castTop (ef_rm_ini m a0' p1 q2 q3) k) ?_
  have KK := Keep.refl h0 [a0']
  show OwnEnd _ _ _ _ _ _ _ (s₁.setTop (mkF m 0 (fL0 a0' p1 q2 q3) []))
  refine go (fun _ k => by refine XS.aloadN X0.here hx rfl (hb hby d_prog_29_method_1_code_0) rfl rfl ?_; exact k) ?_
  show OwnEnd _ _ _ _ _ _ _ (s₁.setTop (mkF m 1 (fL0 a0' p1 q2 q3) [(.ref a0')]))
  obtain ⟨T1, X1, e1, st1⟩ := initO X0 hx hZ hown (hw _ (List.mem_of_getElem? (i := 6) rfl)) (hw _ (List.mem_of_getElem? (i := 7) rfl)) (hw _ (List.mem_of_getElem? (i := 8) rfl)) e0 (g := (mkF m 1 (fL0 a0' p1 q2 q3) [(.ref a0')])) rfl (by rw [hml]; rfl) rfl (hb hby d_prog_29_method_1_code_1) (by decide) (W := 0) (by show 2 * 0 + _ ≤ _; exact Nat.le_of_eq rfl) (by decide)
  refine go st1 ?_
  refine go (fun _ k => by refine XS.aloadN X1.here hx rfl (hb hby d_prog_29_method_1_code_4) rfl rfl ?_; exact k) ?_
  refine go (fun _ k => by refine XS.iloadN X1.here hx rfl (hb hby d_prog_29_method_1_code_5) rfl ?_; exact k) ?_
  show OwnEnd _ _ _ _ _ _ _ (T1.setTop (mkF m 6 (fL0 a0' p1 q2 q3) [(.int p1), (.ref a0')]))
  obtain ⟨T2, h2, X2, e2, W2, st2⟩ := putF X1 hx hZ hown (host := "") (Or.inl (hw _ (List.mem_of_getElem? (i := 9) rfl))) Via.refl e1 F_leader EA (Or.inr ⟨(hw _ (List.mem_of_getElem? (i := 10) rfl)), rfl, hnm⟩) (hw _ (List.mem_of_getElem? (i := 1) rfl)) (ty := .int) (by decide) rfl rfl (g := (mkF m 6 (fL0 a0' p1 q2 q3) [(.int p1), (.ref a0')])) rfl rfl (hb hby d_prog_29_method_1_code_6)
  have N2 := Fr.snoc X2 N0 ga
  have EA := EA.wr W2
  have KK := Keep.wr KK W2 (Or.inl (List.mem_of_getElem? (i := 0) rfl))
  have F_epoch := F_epoch.other W2 (Or.inr (slot_ne (Or.inr (hw _ (List.mem_of_getElem? (i := 12) rfl))) (Or.inr (hw _ (List.mem_of_getElem? (i := 10) rfl))) (by decide) (t := .long) (t' := .int) (by decide) (by decide)))
  have F_zxid := F_zxid.other W2 (Or.inr (slot_ne (Or.inr (hw _ (List.mem_of_getElem? (i := 14) rfl))) (Or.inr (hw _ (List.mem_of_getElem? (i := 10) rfl))) (by decide) (t := .long) (t' := .int) (by decide) (by decide)))
  have F_leader := F_leader.same W2
  refine go st2 ?_
  refine go (fun _ k => by refine XS.aloadN X2.here hx rfl (hb hby d_prog_29_method_1_code_9) rfl rfl ?_; exact k) ?_
  refine go (fun _ k => by refine XS.lloadN X2.here hx rfl (hb hby d_prog_29_method_1_code_10) rfl ?_; exact k) ?_
  show OwnEnd _ _ _ _ _ _ _ (T2.setTop (mkF m 11 (fL0 a0' p1 q2 q3) [(.long q2), (.ref a0')]))
  obtain ⟨T3, h3, X3, e3, W3, st3⟩ := putF X2 hx hZ hown (host := "") (Or.inl (hw _ (List.mem_of_getElem? (i := 11) rfl))) Via.refl e2 F_epoch EA (Or.inr ⟨(hw _ (List.mem_of_getElem? (i := 12) rfl)), rfl, hnm⟩) (hw _ (List.mem_of_getElem? (i := 1) rfl)) (ty := .long) (by decide) rfl rfl (g := (mkF m 11 (fL0 a0' p1 q2 q3) [(.long q2), (.ref a0')])) rfl rfl (hb hby d_prog_29_method_1_code_11)
  have N3 := Fr.snoc X3 N2 ga
  have EA := EA.wr W3
  have KK := Keep.wr KK W3 (Or.inl (List.mem_of_getElem? (i := 0) rfl))
  have F_leader := F_leader.other W3 (Or.inr (slot_ne (Or.inr (hw _ (List.mem_of_getElem? (i := 10) rfl))) (Or.inr (hw _ (List.mem_of_getElem? (i := 12) rfl))) (by decide) (t := .int) (t' := .long) (by decide) (by decide)))
  have F_zxid := F_zxid.other W3 (Or.inr (slot_ne (Or.inr (hw _ (List.mem_of_getElem? (i := 14) rfl))) (Or.inr (hw _ (List.mem_of_getElem? (i := 12) rfl))) (by decide) (t := .long) (t' := .long) (by decide) (by decide)))
  have F_epoch := F_epoch.same W3
  refine go st3 ?_
  refine go (fun _ k => by refine XS.aloadN X3.here hx rfl (hb hby d_prog_29_method_1_code_14) rfl rfl ?_; exact k) ?_
  refine go (fun _ k => by refine XS.lload X3.here hx rfl (hb hby d_prog_29_method_1_code_15) rfl ?_; exact k) ?_
  show OwnEnd _ _ _ _ _ _ _ (T3.setTop (mkF m 17 (fL0 a0' p1 q2 q3) [(.long q3), (.ref a0')]))
  obtain ⟨T4, h4, X4, e4, W4, st4⟩ := putF X3 hx hZ hown (host := "") (Or.inl (hw _ (List.mem_of_getElem? (i := 13) rfl))) Via.refl e3 F_zxid EA (Or.inr ⟨(hw _ (List.mem_of_getElem? (i := 14) rfl)), rfl, hnm⟩) (hw _ (List.mem_of_getElem? (i := 1) rfl)) (ty := .long) (by decide) rfl rfl (g := (mkF m 17 (fL0 a0' p1 q2 q3) [(.long q3), (.ref a0')])) rfl rfl (hb hby d_prog_29_method_1_code_17)
  have N4 := Fr.snoc X4 N3 ga
  have EA := EA.wr W4
  have KK := Keep.wr KK W4 (Or.inl (List.mem_of_getElem? (i := 0) rfl))
  have F_leader := F_leader.other W4 (Or.inr (slot_ne (Or.inr (hw _ (List.mem_of_getElem? (i := 10) rfl))) (Or.inr (hw _ (List.mem_of_getElem? (i := 14) rfl))) (by decide) (t := .int) (t' := .long) (by decide) (by decide)))
  have F_epoch := F_epoch.other W4 (Or.inr (slot_ne (Or.inr (hw _ (List.mem_of_getElem? (i := 12) rfl))) (Or.inr (hw _ (List.mem_of_getElem? (i := 14) rfl))) (by decide) (t := .long) (t' := .long) (by decide) (by decide)))
  have F_zxid := F_zxid.same W4
  refine go st4 ?_
  show OwnEnd _ _ _ _ _ _ _ (T4.setTop (mkF m 20 (fL0 a0' p1 q2 q3) []))
  refine endV X4 hx hlk Bd.returns (hb hby d_prog_29_method_1_code_20) e4 (by decide) (by decide) ?_
  exact ⟨rfl, N4, KK, EA, F_leader, F_epoch, F_zxid⟩
theorem d_jdk_18_method_1_code_0 : decode jdk_18_method_1_code 0 = .ok (.aload_n 0, 1) := by decide +kernel
theorem d_jdk_18_method_1_code_1 : decode jdk_18_method_1_code 1 = .ok (.invokespecial 1, 3) := by decide +kernel
theorem d_jdk_18_method_1_code_4 : decode jdk_18_method_1_code 4 = .ok (.return_, 1) := by decide +kernel
theorem pn_java_lang_Number : plainName "java/lang/Number" = true := by first | (simp [plainName, overriddenIn]; done) | decide +kernel
theorem ef_rm_num_I (m : MethodId) (y0 : Addr) : entryFrame m #[(.ref y0)] 1 = mkF m 0 #[.val (.ref y0)] [] := by first | (simp [entryFrame, mkF, argsToLocals, Value.category]; done) | rfl
def Q_rm_num_I (Z : State) (a0' : Addr) (h0 : Heap) (n0 : Nat) (v : Option Value) (h : Heap) (L : List Loc) : Prop := v = none ∧ Fr n0 L ∧ h = h0
set_option maxRecDepth 65536 in
set_option maxHeartbeats 40000000 in
theorem rm_num_I (l : Launch) (Z : State) (a0 : Array Value) (hw : ∀ d ∈ tables_1, d.before a0 Z = true) (ws : List Jvm.Cond) (a0' : Addr) (h0 : Heap) (n0 : Nat) :
    MetFree l (⟨"java/lang/Number", "<init>", "()V"⟩ : MethodName) (head1 (Jvm.Cond.code (⟨"java/lang/Number", "<init>", "()V"⟩ : MethodName) jdk_18_method_1_code 1 none :: ws) ({ frames := 1, cells := 0, slots := 0, locals := 12 } : Room)) (fun a U => a = #[(.ref a0')] ∧ Z.Warmed39 U.vm ∧ U.heap = h0) (fun _ _ _ _ _ => True) (fun _ U o U' => ∃ v L, o = .returned v ∧ Q_rm_num_I Z a0' h0 n0 v U'.heap L ∧ FrameEnd U o U' L 0 0) := by
  refine MetFree.of_bodySF (plainFor_of_name pn_java_lang_Number) hisR ?_
  intro p e s m args below meth c s₁ Bd hml0 hP hK
  obtain ⟨rfl, hZ, hh⟩ := hP
  have hx := Bd.exec
  have hby := Bd.bytes
  have hlk := Bd.notSynchronized
  have hml : c.maxLocals = 1 := hml0
  have hown : s.vm.findClass "java/lang/Number" = some m.cls := findClass_of_methodNamed Bd.named
  have hnm := (name_of_methodNamed Bd.named Bd.method).1
  have X0 : Stand p l e ({ frames := 1, cells := 0, slots := 0, locals := 12 } : Room) s m #[(.ref a0')] below meth c s₁ [] 0 0 := Stand.of_body Bd
  have e0 : s₁.heap = h0 := by rw [← hh, Bd.state]; rfl
  have N0 := Fr.nil n0
  show OwnEnd p e below s (Q_rm_num_I Z a0' h0 n0) 0 0 (s₁.setTop (entryFrame m #[(.ref a0')] 1))
  refine go (fun t k => castTop (ef_rm_num_I m a0') k) ?_
  show OwnEnd _ _ _ _ _ _ _ (s₁.setTop (mkF m 0 #[.val (.ref a0')] []))
  refine go (fun _ k => by refine XS.aloadN X0.here hx rfl (hb hby d_jdk_18_method_1_code_0) rfl rfl ?_; exact k) ?_
  show OwnEnd _ _ _ _ _ _ _ (s₁.setTop (mkF m 1 #[.val (.ref a0')] [(.ref a0')]))
  obtain ⟨T1, X1, e1, st1⟩ := initO X0 hx hZ hown (hw _ (List.mem_of_getElem? (i := 44) rfl)) (hw _ (List.mem_of_getElem? (i := 7) rfl)) (hw _ (List.mem_of_getElem? (i := 8) rfl)) e0 (g := (mkF m 1 #[.val (.ref a0')] [(.ref a0')])) rfl (by rw [hml]; rfl) rfl (hb hby d_jdk_18_method_1_code_1) (by decide) (W := 0) (by show 2 * 0 + _ ≤ _; exact Nat.le_of_eq rfl) (by decide)
  refine go st1 ?_
  show OwnEnd _ _ _ _ _ _ _ (T1.setTop (mkF m 4 #[.val (.ref a0')] []))
  refine endV X1 hx hlk Bd.returns (hb hby d_jdk_18_method_1_code_4) e1 (by decide) (by decide) ?_
  exact ⟨rfl, N0, rfl⟩
theorem d_jdk_33_method_23_code_0 : decode jdk_33_method_23_code 0 = .ok (.aload_n 0, 1) := by decide +kernel
theorem d_jdk_33_method_23_code_1 : decode jdk_33_method_23_code 1 = .ok (.invokespecial 202, 3) := by decide +kernel
theorem pd___V : parseMethodDescriptor "()V" = some ⟨[], none⟩ := by decide +kernel
theorem d_jdk_33_method_23_code_4 : decode jdk_33_method_23_code 4 = .ok (.aload_n 0, 1) := by decide +kernel
theorem d_jdk_33_method_23_code_5 : decode jdk_33_method_23_code 5 = .ok (.iload_n 1, 1) := by decide +kernel
theorem d_jdk_33_method_23_code_6 : decode jdk_33_method_23_code 6 = .ok (.putfield 205, 3) := by decide +kernel
theorem d_jdk_33_method_23_code_9 : decode jdk_33_method_23_code 9 = .ok (.return_, 1) := by decide +kernel
theorem pn_java_lang_Integer : plainName "java/lang/Integer" = true := by first | (simp [plainName, overriddenIn]; done) | decide +kernel
theorem ef_rm_box_ini (m : MethodId) (y0 : Addr) (y1 : Int32) : entryFrame m #[(.ref y0), (.int y1)] 2 = mkF m 0 #[.val (.ref y0), .val (.int y1)] [] := by first | (simp [entryFrame, mkF, argsToLocals, Value.category]; done) | rfl
def Q_rm_box_ini (Z : State) (a0' : Addr) (p1 : Int32) (h0 : Heap) (n0 : Nat) (v : Option Value) (h : Heap) (L : List Loc) : Prop := v = none ∧ Fr n0 L ∧ Keep h0 h [a0'] ∧ Exa Z h a0' "java/lang/Integer" ∧ Fld Z h a0' "java/lang/Integer" "value" "I" (.int p1)
set_option maxRecDepth 65536 in
set_option maxHeartbeats 40000000 in
theorem rm_box_ini (l : Launch) (Z : State) (a0 : Array Value) (hw : ∀ d ∈ tables_1, d.before a0 Z = true) (ws : List Jvm.Cond) (a0' : Addr) (p1 : Int32) (h0 : Heap) (n0 : Nat) (ga : n0 ≤ a0') (EA : Exa Z h0 a0' "java/lang/Integer") (F_value : Fld Z h0 a0' "java/lang/Integer" "value" "I" (.int (0 : Int32))) :
    MetFree l (⟨"java/lang/Integer", "<init>", "(I)V"⟩ : MethodName) (head1 (Jvm.Cond.code (⟨"java/lang/Integer", "<init>", "(I)V"⟩ : MethodName) jdk_33_method_23_code 2 none :: ws) ({ frames := 2, cells := 0, slots := 0, locals := 24 } : Room)) (fun a U => a = #[(.ref a0'), (.int p1)] ∧ Z.Warmed39 U.vm ∧ U.heap = h0) (fun _ _ _ _ _ => True) (fun _ U o U' => ∃ v L, o = .returned v ∧ Q_rm_box_ini Z a0' p1 h0 n0 v U'.heap L ∧ FrameEnd U o U' L 0 0) := by
  refine MetFree.of_bodySF (plainFor_of_name pn_java_lang_Integer) hisR ?_
  intro p e s m args below meth c s₁ Bd hml0 hP hK
  obtain ⟨rfl, hZ, hh⟩ := hP
  have hx := Bd.exec
  have hby := Bd.bytes
  have hlk := Bd.notSynchronized
  have hml : c.maxLocals = 2 := hml0
  have hown : s.vm.findClass "java/lang/Integer" = some m.cls := findClass_of_methodNamed Bd.named
  have hnm := (name_of_methodNamed Bd.named Bd.method).1
  have X0 : Stand p l e ({ frames := 2, cells := 0, slots := 0, locals := 24 } : Room) s m #[(.ref a0'), (.int p1)] below meth c s₁ [] 0 0 := Stand.of_body Bd
  have e0 : s₁.heap = h0 := by rw [← hh, Bd.state]; rfl
  have N0 := Fr.nil n0
  show OwnEnd p e below s (Q_rm_box_ini Z a0' p1 h0 n0) 0 0 (s₁.setTop (entryFrame m #[(.ref a0'), (.int p1)] 2))
  refine go (fun t k => castTop (ef_rm_box_ini m a0' p1) k) ?_
  have KK := Keep.refl h0 [a0']
  show OwnEnd _ _ _ _ _ _ _ (s₁.setTop (mkF m 0 #[.val (.ref a0'), .val (.int p1)] []))
  refine go (fun _ k => by refine XS.aloadN X0.here hx rfl (hb hby d_jdk_33_method_23_code_0) rfl rfl ?_; exact k) ?_
  show OwnEnd _ _ _ _ _ _ _ (s₁.setTop (mkF m 1 #[.val (.ref a0'), .val (.int p1)] [(.ref a0')]))
  obtain ⟨_, T1, L1, X1, hQ1, st1⟩ := callInit X0 hx hZ hown rfl (hw _ (List.mem_of_getElem? (i := 38) rfl)) (hw _ (List.mem_of_getElem? (i := 39) rfl)) (hw _ (List.mem_of_getElem? (i := 42) rfl)) (hw _ (List.mem_of_getElem? (i := 43) rfl)) (by decide) (rm_num_I l Z a0 hw [] a0' h0 n0 ) (W := 0) (by decide) (by decide) e0 (g := (mkF m 1 #[.val (.ref a0'), .val (.int p1)] [(.ref a0')])) rfl (by rw [hml]; rfl) (argsL := []) (rest := []) rfl (lenOf pd___V rfl) rfl (by show 2 * 0 + _ ≤ _; exact Nat.le_of_eq rfl) (hb hby d_jdk_33_method_23_code_1) (by decide) (by decide)
  obtain ⟨rfl, Nq1, eq1⟩ := hQ1
  have N1 := Fr.app N0 Nq1
  refine go st1 ?_
  refine go (fun _ k => by refine XS.aloadN X1.here hx rfl (hb hby d_jdk_33_method_23_code_4) rfl rfl ?_; exact k) ?_
  refine go (fun _ k => by refine XS.iloadN X1.here hx rfl (hb hby d_jdk_33_method_23_code_5) rfl ?_; exact k) ?_
  show OwnEnd _ _ _ _ _ _ _ (T1.setTop (mkF m 6 #[.val (.ref a0'), .val (.int p1)] [(.int p1), (.ref a0')]))
  obtain ⟨T2, h2, X2, e2, W2, st2⟩ := putF X1 hx hZ hown (host := "") (Or.inl (hw _ (List.mem_of_getElem? (i := 45) rfl))) Via.refl eq1 F_value EA (Or.inr ⟨(hw _ (List.mem_of_getElem? (i := 46) rfl)), rfl, hnm⟩) (hw _ (List.mem_of_getElem? (i := 33) rfl)) (ty := .int) (by decide) rfl rfl (g := (mkF m 6 #[.val (.ref a0'), .val (.int p1)] [(.int p1), (.ref a0')])) rfl rfl (hb hby d_jdk_33_method_23_code_6)
  have N2 := Fr.snoc X2 N1 ga
  have EA := EA.wr W2
  have KK := Keep.wr KK W2 (Or.inl (List.mem_of_getElem? (i := 0) rfl))
  have F_value := F_value.same W2
  refine go st2 ?_
  show OwnEnd _ _ _ _ _ _ _ (T2.setTop (mkF m 9 #[.val (.ref a0'), .val (.int p1)] []))
  refine endV X2 hx hlk Bd.returns (hb hby d_jdk_33_method_23_code_9) e2 (by decide) (by decide) ?_
  exact ⟨rfl, N2, KK, EA, F_value⟩
theorem d_jdk_33_method_22_code_0 : decode jdk_33_method_22_code 0 = .ok (.iload_n 0, 1) := by decide +kernel
theorem d_jdk_33_method_22_code_1 : decode jdk_33_method_22_code 1 = .ok (.bipush (-128), 2) := by decide +kernel
theorem d_jdk_33_method_22_code_3 : decode jdk_33_method_22_code 3 = .ok (.if_icmp .lt 20, 3) := by decide +kernel
theorem d_jdk_33_method_22_code_23 : decode jdk_33_method_22_code 23 = .ok (.new 1, 3) := by decide +kernel
theorem d_jdk_33_method_22_code_26 : decode jdk_33_method_22_code 26 = .ok (.dup, 1) := by decide +kernel
theorem d_jdk_33_method_22_code_27 : decode jdk_33_method_22_code 27 = .ok (.iload_n 0, 1) := by decide +kernel
theorem d_jdk_33_method_22_code_28 : decode jdk_33_method_22_code 28 = .ok (.invokespecial 199, 3) := by decide +kernel
theorem pd__I_V : parseMethodDescriptor "(I)V" = some ⟨[.int], none⟩ := by decide +kernel
theorem d_jdk_33_method_22_code_31 : decode jdk_33_method_22_code 31 = .ok (.areturn, 1) := by decide +kernel
theorem d_jdk_33_method_22_code_6 : decode jdk_33_method_22_code 6 = .ok (.iload_n 0, 1) := by decide +kernel
theorem d_jdk_33_method_22_code_7 : decode jdk_33_method_22_code 7 = .ok (.getstatic 191, 3) := by decide +kernel
theorem d_jdk_33_method_22_code_10 : decode jdk_33_method_22_code 10 = .ok (.if_icmp .gt 13, 3) := by decide +kernel
theorem d_jdk_33_method_22_code_13 : decode jdk_33_method_22_code 13 = .ok (.getstatic 195, 3) := by decide +kernel
theorem d_jdk_33_method_22_code_16 : decode jdk_33_method_22_code 16 = .ok (.iload_n 0, 1) := by decide +kernel
theorem d_jdk_33_method_22_code_17 : decode jdk_33_method_22_code 17 = .ok (.sipush 128, 3) := by decide +kernel
theorem d_jdk_33_method_22_code_20 : decode jdk_33_method_22_code 20 = .ok (.iadd, 1) := by decide +kernel
theorem d_jdk_33_method_22_code_21 : decode jdk_33_method_22_code 21 = .ok (.aaload, 1) := by decide +kernel
theorem d_jdk_33_method_22_code_22 : decode jdk_33_method_22_code 22 = .ok (.areturn, 1) := by decide +kernel
theorem ef_rm_box (m : MethodId) (y0 : Int32) : entryFrame m #[(.int y0)] 1 = mkF m 0 #[.val (.int y0)] [] := by first | (simp [entryFrame, mkF, argsToLocals, Value.category]; done) | rfl
def Q_rm_box (Z : State) (p0 : Int32) (ca : Addr) (cc : Cell) (h0 : Heap) (n0 : Nat) (v : Option Value) (h : Heap) (L : List Loc) : Prop := ∃ b, v = some (.ref b) ∧ Fr n0 L ∧ Keep h0 h [] ∧ Exa Z h b "java/lang/Integer"
set_option maxRecDepth 65536 in
set_option maxHeartbeats 40000000 in
theorem rm_box (l : Launch) (Z : State) (a0 : Array Value) (hw : ∀ d ∈ tables_1, d.before a0 Z = true) (ws : List Jvm.Cond) (p0 : Int32) (ca : Addr) (cc : Cell) (h0 : Heap) (n0 : Nat) (O : Old Z n0 h0) (SC : Sta Z Z.heap "java/lang/Integer$IntegerCache" "cache" "[Ljava/lang/Integer;" (.ref ca)) (AC : Arr Z Z.heap ca cc (.object "java/lang/Integer")) (NC : cc.slots.size = 256) (EC : ∀ i, i < 256 → ∃ b, cc.slots[i]? = some (.ref b) ∧ Exa Z Z.heap b "java/lang/Integer") (SH : Sta Z Z.heap "java/lang/Integer$IntegerCache" "high" "I" (.int 127)) :
    MetFree l (⟨"java/lang/Integer", "valueOf", "(I)Ljava/lang/Integer;"⟩ : MethodName) (head1 (Jvm.Cond.code (⟨"java/lang/Integer", "valueOf", "(I)Ljava/lang/Integer;"⟩ : MethodName) jdk_33_method_22_code 1 (some (.object "java/lang/Integer")) :: ws) ({ frames := 3, cells := 1, slots := 1, locals := 38 } : Room)) (fun a U => a = #[(.int p0)] ∧ Z.Warmed39 U.vm ∧ U.heap = h0) (fun _ _ _ _ _ => True) (fun _ U o U' => ∃ v L, o = .returned v ∧ Q_rm_box Z p0 ca cc h0 n0 v U'.heap L ∧ FrameEnd U o U' L 1 1) := by
  refine MetFree.of_bodySF (plainFor_of_name pn_java_lang_Integer) hisR ?_
  intro p e s m args below meth c s₁ Bd hml0 hP hK
  obtain ⟨rfl, hZ, hh⟩ := hP
  have hx := Bd.exec
  have hby := Bd.bytes
  have hlk := Bd.notSynchronized
  have hml : c.maxLocals = 1 := hml0
  have hown : s.vm.findClass "java/lang/Integer" = some m.cls := findClass_of_methodNamed Bd.named
  have hnm := (name_of_methodNamed Bd.named Bd.method).1
  have X0 : Stand p l e ({ frames := 3, cells := 1, slots := 1, locals := 38 } : Room) s m #[(.int p0)] below meth c s₁ [] 0 0 := Stand.of_body Bd
  have e0 : s₁.heap = h0 := by rw [← hh, Bd.state]; rfl
  have N0 := Fr.nil n0
  show OwnEnd p e below s (Q_rm_box Z p0 ca cc h0 n0) 1 1 (s₁.setTop (entryFrame m #[(.int p0)] 1))
  refine go (fun t k => castTop (ef_rm_box m p0) k) ?_
  have S1 := SC.ext O.2
  have A1 := AC.ext O.2
  have Z0 : n0 ≤ h0.size := by rw [← O.1]; exact O.2.1
  have KK := Keep.refl h0 []
  have S2 := SH.ext O.2
  show OwnEnd _ _ _ _ _ _ _ (s₁.setTop (mkF m 0 #[.val (.int p0)] []))
  refine go (fun _ k => by refine XS.iloadN X0.here hx rfl (hb hby d_jdk_33_method_22_code_0) rfl ?_; exact k) ?_
  refine go (fun _ k => by refine XS.bipush X0.here hx rfl (hb hby d_jdk_33_method_22_code_1) ?_; exact k) ?_
  show OwnEnd _ _ _ _ _ _ _ (s₁.setTop (mkF m 3 #[.val (.int p0)] [(.int (-128 : Int32)), (.int p0)]))
  by_cases hc3_1 : p0 < (-128 : Int32)
  · refine go (fun _ k => by refine XS.icmpYes X0.here hx rfl (pc0 := 3) (pc' := 23) rfl (hb hby d_jdk_33_method_22_code_3) rfl (tlt hc3_1).1 (by decide) (by decide) ?_; exact k) ?_
    show OwnEnd _ _ _ _ _ _ _ (s₁.setTop (mkF m 23 #[.val (.int p0)] []))
    obtain ⟨T2, h2, X2, e2, E2, A2, D2, -, st2⟩ := newO X0 hx hZ hown (hw _ (List.mem_of_getElem? (i := 32) rfl)) (hw _ (List.mem_of_getElem? (i := 33) rfl)) (hw _ (List.mem_of_getElem? (i := 17) rfl)) e0 (g := (mkF m 23 #[.val (.int p0)] [])) rfl (hb hby d_jdk_33_method_22_code_23) (by decide) (by decide)
    obtain ⟨b2, g2⟩ : ∃ z, z = h0.size := ⟨_, rfl⟩
    rw [← g2] at A2 D2 st2
    have g_b2 : n0 ≤ b2 := Nat.le_trans Z0 (Nat.le_of_eq g2.symm)
    have sz_b2 : h0.size ≤ b2 := Nat.le_trans KK.1 (Nat.le_of_eq g2.symm)
    have S1 := S1.ext E2
    have Z0 := Nat.le_trans Z0 E2.1
    have KK := Keep.ext KK E2
    have S2 := S2.ext E2
    have F_value_b2 : Fld Z h2 b2 "java/lang/Integer" "value" "I" (.int (0 : Int32)) := D2 (Or.inr (hw _ (List.mem_of_getElem? (i := 46) rfl))) (ty := .int) (by decide)
    have E_b2 := A2
    refine go st2 ?_
    refine go (fun _ k => by refine XS.dup X2.here hx rfl (hb hby d_jdk_33_method_22_code_26) rfl rfl ?_; exact k) ?_
    refine go (fun _ k => by refine XS.iloadN X2.here hx rfl (hb hby d_jdk_33_method_22_code_27) rfl ?_; exact k) ?_
    show OwnEnd _ _ _ _ _ _ _ (T2.setTop (mkF m 28 #[.val (.int p0)] [(.int p0), (.ref b2), (.ref b2)]))
    obtain ⟨_, T3, L3, X3, hQ3, st3⟩ := callInit X2 hx hZ hown rfl (hw _ (List.mem_of_getElem? (i := 34) rfl)) (hw _ (List.mem_of_getElem? (i := 35) rfl)) (hw _ (List.mem_of_getElem? (i := 17) rfl)) (hw _ (List.mem_of_getElem? (i := 37) rfl)) (by decide) (rm_box_ini l Z a0 hw [] b2 p0 h2 n0 g_b2 E_b2 F_value_b2) (W := 1) (by decide) (by decide) e2 (g := (mkF m 28 #[.val (.int p0)] [(.int p0), (.ref b2), (.ref b2)])) rfl (by rw [hml]; rfl) (argsL := [(.int p0)]) (rest := [(.ref b2)]) rfl (lenOf pd__I_V rfl) rfl (by show 2 * 0 + _ ≤ _; exact Nat.le_of_eq rfl) (hb hby d_jdk_33_method_22_code_28) (by decide) (by decide)
    obtain ⟨rfl, Nq3, K3, E_b2, F_value_b2⟩ := hQ3
    have N3 := Fr.app N0 Nq3
    have Z0 := Nat.le_trans Z0 K3.1
    have KK := Keep.trans KK K3 (allS (Or.inr sz_b2) all0)
    refine go st3 ?_
    show OwnEnd _ _ _ _ _ _ _ (T3.setTop (mkF m 31 #[.val (.int p0)] [(.ref b2)]))
    refine endA X3 hx hlk Bd.returns rfl rfl (hb hby d_jdk_33_method_22_code_31) rfl (by decide) (by decide) ?_
    exact ⟨b2, rfl, N3, KK, E_b2⟩
  · refine go (fun _ k => by refine XS.icmpNo X0.here hx rfl (hb hby d_jdk_33_method_22_code_3) rfl (flt hc3_1).1 ?_; exact k) ?_
    show OwnEnd _ _ _ _ _ _ _ (s₁.setTop (mkF m 6 #[.val (.int p0)] []))
    refine go (fun _ k => by refine XS.iloadN X0.here hx rfl (hb hby d_jdk_33_method_22_code_6) rfl ?_; exact k) ?_
    show OwnEnd _ _ _ _ _ _ _ (s₁.setTop (mkF m 7 #[.val (.int p0)] [(.int p0)]))
    obtain ⟨T4, X4, e4, st4⟩ := getS2 X0 hx hZ hown (host := "") (Or.inl (hw _ (List.mem_of_getElem? (i := 19) rfl))) Via.refl e0 S2 (g := (mkF m 7 #[.val (.int p0)] [(.int p0)])) rfl (hb hby d_jdk_33_method_22_code_7)
    refine go st4 ?_
    show OwnEnd _ _ _ _ _ _ _ (T4.setTop (mkF m 10 #[.val (.int p0)] [(.int (127 : Int32)), (.int p0)]))
    by_cases hc10_5 : (127 : Int32) < p0
    · refine go (fun _ k => by refine XS.icmpYes X4.here hx rfl (pc0 := 10) (pc' := 23) rfl (hb hby d_jdk_33_method_22_code_10) rfl (tlt hc10_5).2.2.1 (by decide) (by decide) ?_; exact k) ?_
      show OwnEnd _ _ _ _ _ _ _ (T4.setTop (mkF m 23 #[.val (.int p0)] []))
      obtain ⟨T6, h6, X6, e6, E6, A6, D6, -, st6⟩ := newO X4 hx hZ hown (hw _ (List.mem_of_getElem? (i := 32) rfl)) (hw _ (List.mem_of_getElem? (i := 33) rfl)) (hw _ (List.mem_of_getElem? (i := 17) rfl)) e4 (g := (mkF m 23 #[.val (.int p0)] [])) rfl (hb hby d_jdk_33_method_22_code_23) (by decide) (by decide)
      obtain ⟨b6, g6⟩ : ∃ z, z = h0.size := ⟨_, rfl⟩
      rw [← g6] at A6 D6 st6
      have g_b6 : n0 ≤ b6 := Nat.le_trans Z0 (Nat.le_of_eq g6.symm)
      have sz_b6 : h0.size ≤ b6 := Nat.le_trans KK.1 (Nat.le_of_eq g6.symm)
      have S1 := S1.ext E6
      have Z0 := Nat.le_trans Z0 E6.1
      have KK := Keep.ext KK E6
      have S2 := S2.ext E6
      have F_value_b6 : Fld Z h6 b6 "java/lang/Integer" "value" "I" (.int (0 : Int32)) := D6 (Or.inr (hw _ (List.mem_of_getElem? (i := 46) rfl))) (ty := .int) (by decide)
      have E_b6 := A6
      refine go st6 ?_
      refine go (fun _ k => by refine XS.dup X6.here hx rfl (hb hby d_jdk_33_method_22_code_26) rfl rfl ?_; exact k) ?_
      refine go (fun _ k => by refine XS.iloadN X6.here hx rfl (hb hby d_jdk_33_method_22_code_27) rfl ?_; exact k) ?_
      show OwnEnd _ _ _ _ _ _ _ (T6.setTop (mkF m 28 #[.val (.int p0)] [(.int p0), (.ref b6), (.ref b6)]))
      obtain ⟨_, T7, L7, X7, hQ7, st7⟩ := callInit X6 hx hZ hown rfl (hw _ (List.mem_of_getElem? (i := 34) rfl)) (hw _ (List.mem_of_getElem? (i := 35) rfl)) (hw _ (List.mem_of_getElem? (i := 17) rfl)) (hw _ (List.mem_of_getElem? (i := 37) rfl)) (by decide) (rm_box_ini l Z a0 hw [] b6 p0 h6 n0 g_b6 E_b6 F_value_b6) (W := 1) (by decide) (by decide) e6 (g := (mkF m 28 #[.val (.int p0)] [(.int p0), (.ref b6), (.ref b6)])) rfl (by rw [hml]; rfl) (argsL := [(.int p0)]) (rest := [(.ref b6)]) rfl (lenOf pd__I_V rfl) rfl (by show 2 * 0 + _ ≤ _; exact Nat.le_of_eq rfl) (hb hby d_jdk_33_method_22_code_28) (by decide) (by decide)
      obtain ⟨rfl, Nq7, K7, E_b6, F_value_b6⟩ := hQ7
      have N7 := Fr.app N0 Nq7
      have Z0 := Nat.le_trans Z0 K7.1
      have KK := Keep.trans KK K7 (allS (Or.inr sz_b6) all0)
      refine go st7 ?_
      show OwnEnd _ _ _ _ _ _ _ (T7.setTop (mkF m 31 #[.val (.int p0)] [(.ref b6)]))
      refine endA X7 hx hlk Bd.returns rfl rfl (hb hby d_jdk_33_method_22_code_31) rfl (by decide) (by decide) ?_
      exact ⟨b6, rfl, N7, KK, E_b6⟩
    · refine go (fun _ k => by refine XS.icmpNo X4.here hx rfl (hb hby d_jdk_33_method_22_code_10) rfl (flt hc10_5).2.2.1 ?_; exact k) ?_
      show OwnEnd _ _ _ _ _ _ _ (T4.setTop (mkF m 13 #[.val (.int p0)] []))
      obtain ⟨T8, X8, e8, st8⟩ := getS2 X4 hx hZ hown (host := "") (Or.inl (hw _ (List.mem_of_getElem? (i := 21) rfl))) Via.refl e4 S1 (g := (mkF m 13 #[.val (.int p0)] [])) rfl (hb hby d_jdk_33_method_22_code_13)
      refine go st8 ?_
      refine go (fun _ k => by refine XS.iloadN X8.here hx rfl (hb hby d_jdk_33_method_22_code_16) rfl ?_; exact k) ?_
      refine go (fun _ k => by refine XS.sipush X8.here hx rfl (hb hby d_jdk_33_method_22_code_17) ?_; exact k) ?_
      refine go (fun _ k => by refine XS.iadd X8.here hx rfl (hb hby d_jdk_33_method_22_code_20) rfl ?_; exact k) ?_
      show OwnEnd _ _ _ _ _ _ _ (T8.setTop (mkF m 21 #[.val (.int p0)] [(.int (p0 + (128 : Int32))), (.ref ca)]))
      obtain ⟨hj1, hj2⟩ := own_bxI p0 hc3_1 hc10_5
      obtain ⟨bb, hat, EB⟩ := EC _ hj2
      refine go (X8.aaload hx (j := (p0 + (128 : Int32))) (v := (.ref bb)) (by rw [e8]; exact A1.1) (State.isArrayOf_alike hZ.alike A1.2.1) rfl A1.2.2 (fun z => z.elim hj1 fun z => Nat.not_le_of_lt hj2 (NC ▸ z)) hat (g := (mkF m 21 #[.val (.int p0)] [(.int (p0 + (128 : Int32))), (.ref ca)])) rfl rfl (hb hby d_jdk_33_method_22_code_21)) ?_
      show OwnEnd _ _ _ _ _ _ _ (T8.setTop (mkF m 22 #[.val (.int p0)] [(.ref bb)]))
      refine endA X8 hx hlk Bd.returns rfl rfl (hb hby d_jdk_33_method_22_code_22) e8 (by decide) (by decide) ?_
      exact ⟨bb, rfl, N0, KK, EB.ext O.2⟩
theorem d_prog_29_method_7_code_0 : decode prog_29_method_7_code 0 = .ok (.aload_n 1, 1) := by decide +kernel
theorem d_prog_29_method_7_code_1 : decode prog_29_method_7_code 1 = .ok (.instanceof 8, 3) := by decide +kernel
theorem d_prog_29_method_7_code_4 : decode prog_29_method_7_code 4 = .ok (.ifCond .eq 47, 3) := by decide +kernel
theorem d_prog_29_method_7_code_7 : decode prog_29_method_7_code 7 = .ok (.aload_n 1, 1) := by decide +kernel
theorem d_prog_29_method_7_code_8 : decode prog_29_method_7_code 8 = .ok (.checkcast 8, 3) := by decide +kernel
theorem d_prog_29_method_7_code_11 : decode prog_29_method_7_code 11 = .ok (.astore_n 2, 1) := by decide +kernel
theorem d_prog_29_method_7_code_12 : decode prog_29_method_7_code 12 = .ok (.aload_n 0, 1) := by decide +kernel
theorem d_prog_29_method_7_code_13 : decode prog_29_method_7_code 13 = .ok (.getfield 7, 3) := by decide +kernel
theorem d_prog_29_method_7_code_16 : decode prog_29_method_7_code 16 = .ok (.aload_n 2, 1) := by decide +kernel
theorem d_prog_29_method_7_code_17 : decode prog_29_method_7_code 17 = .ok (.getfield 7, 3) := by decide +kernel
theorem d_prog_29_method_7_code_20 : decode prog_29_method_7_code 20 = .ok (.if_icmp .ne 31, 3) := by decide +kernel
theorem d_prog_29_method_7_code_23 : decode prog_29_method_7_code 23 = .ok (.aload_n 0, 1) := by decide +kernel
theorem d_prog_29_method_7_code_24 : decode prog_29_method_7_code 24 = .ok (.getfield 13, 3) := by decide +kernel
theorem d_prog_29_method_7_code_27 : decode prog_29_method_7_code 27 = .ok (.aload_n 2, 1) := by decide +kernel
theorem d_prog_29_method_7_code_28 : decode prog_29_method_7_code 28 = .ok (.getfield 13, 3) := by decide +kernel
theorem d_prog_29_method_7_code_31 : decode prog_29_method_7_code 31 = .ok (.lcmp, 1) := by decide +kernel
theorem d_prog_29_method_7_code_32 : decode prog_29_method_7_code 32 = .ok (.ifCond .ne 19, 3) := by decide +kernel
theorem d_prog_29_method_7_code_35 : decode prog_29_method_7_code 35 = .ok (.aload_n 0, 1) := by decide +kernel
theorem d_prog_29_method_7_code_36 : decode prog_29_method_7_code 36 = .ok (.getfield 17, 3) := by decide +kernel
theorem d_prog_29_method_7_code_39 : decode prog_29_method_7_code 39 = .ok (.aload_n 2, 1) := by decide +kernel
theorem d_prog_29_method_7_code_40 : decode prog_29_method_7_code 40 = .ok (.getfield 17, 3) := by decide +kernel
theorem d_prog_29_method_7_code_43 : decode prog_29_method_7_code 43 = .ok (.lcmp, 1) := by decide +kernel
theorem d_prog_29_method_7_code_44 : decode prog_29_method_7_code 44 = .ok (.ifCond .ne 7, 3) := by decide +kernel
theorem d_prog_29_method_7_code_47 : decode prog_29_method_7_code 47 = .ok (.iconst 1, 1) := by decide +kernel
theorem d_prog_29_method_7_code_48 : decode prog_29_method_7_code 48 = .ok (.goto 4, 3) := by decide +kernel
theorem d_prog_29_method_7_code_52 : decode prog_29_method_7_code 52 = .ok (.ireturn, 1) := by decide +kernel
theorem d_prog_29_method_7_code_51 : decode prog_29_method_7_code 51 = .ok (.iconst 0, 1) := by decide +kernel
theorem ef_rm_eqv (m : MethodId) (y0 : Addr) (y1 : Addr) : entryFrame m #[(.ref y0), (.ref y1)] 3 = mkF m 0 #[.val (.ref y0), .val (.ref y1), .unset] [] := by first | (simp [entryFrame, mkF, argsToLocals, Value.category]; done) | rfl
def Q_rm_eqv (Z : State) (a0' : Addr) (a1' : Addr) (le1 : Int32) (ep1 : Int64) (zx1 : Int64) (le2 : Int32) (ep2 : Int64) (zx2 : Int64) (h0 : Heap) (n0 : Nat) (v : Option Value) (h : Heap) (L : List Loc) : Prop := v = some (.int (if own_eq le1 ep1 zx1 le2 ep2 zx2 then (1 : Int32) else 0)) ∧ Fr n0 L ∧ h = h0
set_option maxRecDepth 65536 in
set_option maxHeartbeats 40000000 in
theorem rm_eqv (l : Launch) (Z : State) (a0 : Array Value) (hw : ∀ d ∈ tables_1, d.before a0 Z = true) (ws : List Jvm.Cond) (a0' : Addr) (a1' : Addr) (le1 : Int32) (ep1 : Int64) (zx1 : Int64) (le2 : Int32) (ep2 : Int64) (zx2 : Int64) (h0 : Heap) (n0 : Nat) (G0 : Fld Z h0 a0' "com/example/bound_quorum/boundquorum/replication/Vote" "leader" "I" (.int le1)) (G1 : Fld Z h0 a0' "com/example/bound_quorum/boundquorum/replication/Vote" "epoch" "J" (.long ep1)) (G2 : Fld Z h0 a0' "com/example/bound_quorum/boundquorum/replication/Vote" "zxid" "J" (.long zx1)) (G3 : Fld Z h0 a1' "com/example/bound_quorum/boundquorum/replication/Vote" "leader" "I" (.int le2)) (G4 : Fld Z h0 a1' "com/example/bound_quorum/boundquorum/replication/Vote" "epoch" "J" (.long ep2)) (G5 : Fld Z h0 a1' "com/example/bound_quorum/boundquorum/replication/Vote" "zxid" "J" (.long zx2)) (EB : Exa Z h0 a1' "com/example/bound_quorum/boundquorum/replication/Vote") :
    MetFree l (⟨"com/example/bound_quorum/boundquorum/replication/Vote", "equals", "(Ljava/lang/Object;)Z"⟩ : MethodName) (head1 (Jvm.Cond.code (⟨"com/example/bound_quorum/boundquorum/replication/Vote", "equals", "(Ljava/lang/Object;)Z"⟩ : MethodName) prog_29_method_7_code 3 (some .boolean) :: ws) ({ frames := 0, cells := 0, slots := 0, locals := 0 } : Room)) (fun a U => a = #[(.ref a0'), (.ref a1')] ∧ Z.Warmed39 U.vm ∧ U.heap = h0) (fun _ _ _ _ _ => True) (fun _ U o U' => ∃ v L, o = .returned v ∧ Q_rm_eqv Z a0' a1' le1 ep1 zx1 le2 ep2 zx2 h0 n0 v U'.heap L ∧ FrameEnd U o U' L 0 0) := by
  refine MetFree.of_bodySF (plainFor_of_name pn_com_example_bound_quorum_boundquorum_replication_Vote) hisR ?_
  intro p e s m args below meth c s₁ Bd hml0 hP hK
  obtain ⟨rfl, hZ, hh⟩ := hP
  have hx := Bd.exec
  have hby := Bd.bytes
  have hlk := Bd.notSynchronized
  have hml : c.maxLocals = 3 := hml0
  have hown : s.vm.findClass "com/example/bound_quorum/boundquorum/replication/Vote" = some m.cls := findClass_of_methodNamed Bd.named
  have hnm := (name_of_methodNamed Bd.named Bd.method).1
  have X0 : Stand p l e ({ frames := 0, cells := 0, slots := 0, locals := 0 } : Room) s m #[(.ref a0'), (.ref a1')] below meth c s₁ [] 0 0 := Stand.of_body Bd
  have e0 : s₁.heap = h0 := by rw [← hh, Bd.state]; rfl
  have N0 := Fr.nil n0
  show OwnEnd p e below s (Q_rm_eqv Z a0' a1' le1 ep1 zx1 le2 ep2 zx2 h0 n0) 0 0 (s₁.setTop (entryFrame m #[(.ref a0'), (.ref a1')] 3))
  refine go (fun t k => castTop (ef_rm_eqv m a0' a1') k) ?_
  show OwnEnd _ _ _ _ _ _ _ (s₁.setTop (mkF m 0 #[.val (.ref a0'), .val (.ref a1'), .unset] []))
  refine go (fun _ k => by refine XS.aloadN X0.here hx rfl (hb hby d_prog_29_method_7_code_0) rfl rfl ?_; exact k) ?_
  show OwnEnd _ _ _ _ _ _ _ (s₁.setTop (mkF m 1 #[.val (.ref a0'), .val (.ref a1'), .unset] [(.ref a1')]))
  obtain ⟨T1, X1, e1, st1⟩ := instY X0 hx hZ hown (hw _ (List.mem_of_getElem? (i := 27) rfl)) e0 (Ins.self EB) (g := (mkF m 1 #[.val (.ref a0'), .val (.ref a1'), .unset] [(.ref a1')])) rfl rfl (hb hby d_prog_29_method_7_code_1)
  refine go st1 ?_
  show OwnEnd _ _ _ _ _ _ _ (T1.setTop (mkF m 4 #[.val (.ref a0'), .val (.ref a1'), .unset] [(.int (1 : Int32))]))
  refine go (fun _ k => by refine XS.ifNo X1.here hx rfl (hb hby d_prog_29_method_7_code_4) rfl ((if0 _ _).trans (feq (by decide)).1) ?_; exact k) ?_
  refine go (fun _ k => by refine XS.aloadN X1.here hx rfl (hb hby d_prog_29_method_7_code_7) rfl rfl ?_; exact k) ?_
  show OwnEnd _ _ _ _ _ _ _ (T1.setTop (mkF m 8 #[.val (.ref a0'), .val (.ref a1'), .unset] [(.ref a1')]))
  obtain ⟨T2, X2, e2, st2⟩ := castY X1 hx hZ hown (hw _ (List.mem_of_getElem? (i := 27) rfl)) e1 (Ins.self EB) (g := (mkF m 8 #[.val (.ref a0'), .val (.ref a1'), .unset] [(.ref a1')])) rfl rfl (hb hby d_prog_29_method_7_code_8)
  refine go st2 ?_
  refine go (fun _ k => by refine XS.astoreN X2.here hx rfl (hb hby d_prog_29_method_7_code_11) rfl rfl (l' := #[.val (.ref a0'), .val (.ref a1'), .val (.ref a1')]) rfl ?_; exact k) ?_
  refine go (fun _ k => by refine XS.aloadN X2.here hx rfl (hb hby d_prog_29_method_7_code_12) rfl rfl ?_; exact k) ?_
  show OwnEnd _ _ _ _ _ _ _ (T2.setTop (mkF m 13 #[.val (.ref a0'), .val (.ref a1'), .val (.ref a1')] [(.ref a0')]))
  obtain ⟨T3, X3, e3, st3⟩ := getF X2 hx hZ hown (host := "") (Or.inl (hw _ (List.mem_of_getElem? (i := 9) rfl))) Via.refl e2 G0 (g := (mkF m 13 #[.val (.ref a0'), .val (.ref a1'), .val (.ref a1')] [(.ref a0')])) rfl rfl (hb hby d_prog_29_method_7_code_13)
  refine go st3 ?_
  refine go (fun _ k => by refine XS.aloadN X3.here hx rfl (hb hby d_prog_29_method_7_code_16) rfl rfl ?_; exact k) ?_
  show OwnEnd _ _ _ _ _ _ _ (T3.setTop (mkF m 17 #[.val (.ref a0'), .val (.ref a1'), .val (.ref a1')] [(.ref a1'), (.int le1)]))
  obtain ⟨T4, X4, e4, st4⟩ := getF X3 hx hZ hown (host := "") (Or.inl (hw _ (List.mem_of_getElem? (i := 9) rfl))) Via.refl e3 G3 (g := (mkF m 17 #[.val (.ref a0'), .val (.ref a1'), .val (.ref a1')] [(.ref a1'), (.int le1)])) rfl rfl (hb hby d_prog_29_method_7_code_17)
  refine go st4 ?_
  show OwnEnd _ _ _ _ _ _ _ (T4.setTop (mkF m 20 #[.val (.ref a0'), .val (.ref a1'), .val (.ref a1')] [(.int le2), (.int le1)]))
  by_cases hc20_5 : le1 = le2
  · refine go (fun _ k => by refine XS.icmpNo X4.here hx rfl (hb hby d_prog_29_method_7_code_20) rfl (teq hc20_5).2 ?_; exact k) ?_
    show OwnEnd _ _ _ _ _ _ _ (T4.setTop (mkF m 23 #[.val (.ref a0'), .val (.ref a1'), .val (.ref a1')] []))
    refine go (fun _ k => by refine XS.aloadN X4.here hx rfl (hb hby d_prog_29_method_7_code_23) rfl rfl ?_; exact k) ?_
    show OwnEnd _ _ _ _ _ _ _ (T4.setTop (mkF m 24 #[.val (.ref a0'), .val (.ref a1'), .val (.ref a1')] [(.ref a0')]))
    obtain ⟨T6, X6, e6, st6⟩ := getF X4 hx hZ hown (host := "") (Or.inl (hw _ (List.mem_of_getElem? (i := 11) rfl))) Via.refl e4 G1 (g := (mkF m 24 #[.val (.ref a0'), .val (.ref a1'), .val (.ref a1')] [(.ref a0')])) rfl rfl (hb hby d_prog_29_method_7_code_24)
    refine go st6 ?_
    refine go (fun _ k => by refine XS.aloadN X6.here hx rfl (hb hby d_prog_29_method_7_code_27) rfl rfl ?_; exact k) ?_
    show OwnEnd _ _ _ _ _ _ _ (T6.setTop (mkF m 28 #[.val (.ref a0'), .val (.ref a1'), .val (.ref a1')] [(.ref a1'), (.long ep1)]))
    obtain ⟨T7, X7, e7, st7⟩ := getF X6 hx hZ hown (host := "") (Or.inl (hw _ (List.mem_of_getElem? (i := 11) rfl))) Via.refl e6 G4 (g := (mkF m 28 #[.val (.ref a0'), .val (.ref a1'), .val (.ref a1')] [(.ref a1'), (.long ep1)])) rfl rfl (hb hby d_prog_29_method_7_code_28)
    refine go st7 ?_
    refine go (fun _ k => by refine XS.lcmp X7.here hx rfl (hb hby d_prog_29_method_7_code_31) rfl ?_; exact k) ?_
    show OwnEnd _ _ _ _ _ _ _ (T7.setTop (mkF m 32 #[.val (.ref a0'), .val (.ref a1'), .val (.ref a1')] [(.int (lcmpW ep1 ep2))]))
    by_cases hc32_8 : ep1 = ep2
    · refine go (fun _ k => by refine XS.ifNo X7.here hx rfl (hb hby d_prog_29_method_7_code_32) rfl ((if0 _ _).trans (teq ((lw_eq _ _).mpr hc32_8)).2) ?_; exact k) ?_
      show OwnEnd _ _ _ _ _ _ _ (T7.setTop (mkF m 35 #[.val (.ref a0'), .val (.ref a1'), .val (.ref a1')] []))
      refine go (fun _ k => by refine XS.aloadN X7.here hx rfl (hb hby d_prog_29_method_7_code_35) rfl rfl ?_; exact k) ?_
      show OwnEnd _ _ _ _ _ _ _ (T7.setTop (mkF m 36 #[.val (.ref a0'), .val (.ref a1'), .val (.ref a1')] [(.ref a0')]))
      obtain ⟨T9, X9, e9, st9⟩ := getF X7 hx hZ hown (host := "") (Or.inl (hw _ (List.mem_of_getElem? (i := 13) rfl))) Via.refl e7 G2 (g := (mkF m 36 #[.val (.ref a0'), .val (.ref a1'), .val (.ref a1')] [(.ref a0')])) rfl rfl (hb hby d_prog_29_method_7_code_36)
      refine go st9 ?_
      refine go (fun _ k => by refine XS.aloadN X9.here hx rfl (hb hby d_prog_29_method_7_code_39) rfl rfl ?_; exact k) ?_
      show OwnEnd _ _ _ _ _ _ _ (T9.setTop (mkF m 40 #[.val (.ref a0'), .val (.ref a1'), .val (.ref a1')] [(.ref a1'), (.long zx1)]))
      obtain ⟨T10, X10, e10, st10⟩ := getF X9 hx hZ hown (host := "") (Or.inl (hw _ (List.mem_of_getElem? (i := 13) rfl))) Via.refl e9 G5 (g := (mkF m 40 #[.val (.ref a0'), .val (.ref a1'), .val (.ref a1')] [(.ref a1'), (.long zx1)])) rfl rfl (hb hby d_prog_29_method_7_code_40)
      refine go st10 ?_
      refine go (fun _ k => by refine XS.lcmp X10.here hx rfl (hb hby d_prog_29_method_7_code_43) rfl ?_; exact k) ?_
      show OwnEnd _ _ _ _ _ _ _ (T10.setTop (mkF m 44 #[.val (.ref a0'), .val (.ref a1'), .val (.ref a1')] [(.int (lcmpW zx1 zx2))]))
      by_cases hc44_11 : zx1 = zx2
      · refine go (fun _ k => by refine XS.ifNo X10.here hx rfl (hb hby d_prog_29_method_7_code_44) rfl ((if0 _ _).trans (teq ((lw_eq _ _).mpr hc44_11)).2) ?_; exact k) ?_
        show OwnEnd _ _ _ _ _ _ _ (T10.setTop (mkF m 47 #[.val (.ref a0'), .val (.ref a1'), .val (.ref a1')] []))
        refine go (fun _ k => by refine XS.iconst X10.here hx rfl (hb hby d_prog_29_method_7_code_47) ?_; exact k) ?_
        refine go (fun _ k => by refine XS.goto X10.here hx rfl (pc0 := 48) (pc' := 52) rfl (hb hby d_prog_29_method_7_code_48) (by decide) (by decide) ?_; exact k) ?_
        show OwnEnd _ _ _ _ _ _ _ (T10.setTop (mkF m 52 #[.val (.ref a0'), .val (.ref a1'), .val (.ref a1')] [(.int (1 : Int32))]))
        refine endN X10 hx hlk (t := .boolean) (by simp) Bd.returns (hb hby d_prog_29_method_7_code_52) e10 (by decide) (by decide) ?_
        exact ⟨by rw [if_pos (by simp_all [own_eq])]; rfl, N0, rfl⟩
      · refine go (fun _ k => by refine XS.ifYes X10.here hx rfl (pc0 := 44) (pc' := 51) rfl (hb hby d_prog_29_method_7_code_44) rfl ((if0 _ _).trans (feq (fun q => hc44_11 ((lw_eq _ _).mp q))).2) (by decide) (by decide) ?_; exact k) ?_
        show OwnEnd _ _ _ _ _ _ _ (T10.setTop (mkF m 51 #[.val (.ref a0'), .val (.ref a1'), .val (.ref a1')] []))
        refine go (fun _ k => by refine XS.iconst X10.here hx rfl (hb hby d_prog_29_method_7_code_51) ?_; exact k) ?_
        show OwnEnd _ _ _ _ _ _ _ (T10.setTop (mkF m 52 #[.val (.ref a0'), .val (.ref a1'), .val (.ref a1')] [(.int (0 : Int32))]))
        refine endN X10 hx hlk (t := .boolean) (by simp) Bd.returns (hb hby d_prog_29_method_7_code_52) e10 (by decide) (by decide) ?_
        exact ⟨by rw [if_neg (by simp_all [own_eq])]; rfl, N0, rfl⟩
    · refine go (fun _ k => by refine XS.ifYes X7.here hx rfl (pc0 := 32) (pc' := 51) rfl (hb hby d_prog_29_method_7_code_32) rfl ((if0 _ _).trans (feq (fun q => hc32_8 ((lw_eq _ _).mp q))).2) (by decide) (by decide) ?_; exact k) ?_
      show OwnEnd _ _ _ _ _ _ _ (T7.setTop (mkF m 51 #[.val (.ref a0'), .val (.ref a1'), .val (.ref a1')] []))
      refine go (fun _ k => by refine XS.iconst X7.here hx rfl (hb hby d_prog_29_method_7_code_51) ?_; exact k) ?_
      show OwnEnd _ _ _ _ _ _ _ (T7.setTop (mkF m 52 #[.val (.ref a0'), .val (.ref a1'), .val (.ref a1')] [(.int (0 : Int32))]))
      refine endN X7 hx hlk (t := .boolean) (by simp) Bd.returns (hb hby d_prog_29_method_7_code_52) e7 (by decide) (by decide) ?_
      exact ⟨by rw [if_neg (by simp_all [own_eq])]; rfl, N0, rfl⟩
  · refine go (fun _ k => by refine XS.icmpYes X4.here hx rfl (pc0 := 20) (pc' := 51) rfl (hb hby d_prog_29_method_7_code_20) rfl (feq hc20_5).2 (by decide) (by decide) ?_; exact k) ?_
    show OwnEnd _ _ _ _ _ _ _ (T4.setTop (mkF m 51 #[.val (.ref a0'), .val (.ref a1'), .val (.ref a1')] []))
    refine go (fun _ k => by refine XS.iconst X4.here hx rfl (hb hby d_prog_29_method_7_code_51) ?_; exact k) ?_
    show OwnEnd _ _ _ _ _ _ _ (T4.setTop (mkF m 52 #[.val (.ref a0'), .val (.ref a1'), .val (.ref a1')] [(.int (0 : Int32))]))
    refine endN X4 hx hlk (t := .boolean) (by simp) Bd.returns (hb hby d_prog_29_method_7_code_52) e4 (by decide) (by decide) ?_
    exact ⟨by rw [if_neg (by simp_all [own_eq])]; rfl, N0, rfl⟩
theorem ef_rm_eqn (m : MethodId) (y0 : Addr) : entryFrame m #[(.ref y0), .null] 3 = mkF m 0 #[.val (.ref y0), .val .null, .unset] [] := by first | (simp [entryFrame, mkF, argsToLocals, Value.category]; done) | rfl
def Q_rm_eqn (Z : State) (a0' : Addr) (h0 : Heap) (n0 : Nat) (v : Option Value) (h : Heap) (L : List Loc) : Prop := v = some (.int 0) ∧ Fr n0 L ∧ h = h0
set_option maxRecDepth 65536 in
set_option maxHeartbeats 40000000 in
theorem rm_eqn (l : Launch) (Z : State) (a0 : Array Value) (hw : ∀ d ∈ tables_1, d.before a0 Z = true) (ws : List Jvm.Cond) (a0' : Addr) (h0 : Heap) (n0 : Nat) :
    MetFree l (⟨"com/example/bound_quorum/boundquorum/replication/Vote", "equals", "(Ljava/lang/Object;)Z"⟩ : MethodName) (head1 (Jvm.Cond.code (⟨"com/example/bound_quorum/boundquorum/replication/Vote", "equals", "(Ljava/lang/Object;)Z"⟩ : MethodName) prog_29_method_7_code 3 (some .boolean) :: ws) ({ frames := 0, cells := 0, slots := 0, locals := 0 } : Room)) (fun a U => a = #[(.ref a0'), .null] ∧ Z.Warmed39 U.vm ∧ U.heap = h0) (fun _ _ _ _ _ => True) (fun _ U o U' => ∃ v L, o = .returned v ∧ Q_rm_eqn Z a0' h0 n0 v U'.heap L ∧ FrameEnd U o U' L 0 0) := by
  refine MetFree.of_bodySF (plainFor_of_name pn_com_example_bound_quorum_boundquorum_replication_Vote) hisR ?_
  intro p e s m args below meth c s₁ Bd hml0 hP hK
  obtain ⟨rfl, hZ, hh⟩ := hP
  have hx := Bd.exec
  have hby := Bd.bytes
  have hlk := Bd.notSynchronized
  have hml : c.maxLocals = 3 := hml0
  have hown : s.vm.findClass "com/example/bound_quorum/boundquorum/replication/Vote" = some m.cls := findClass_of_methodNamed Bd.named
  have hnm := (name_of_methodNamed Bd.named Bd.method).1
  have X0 : Stand p l e ({ frames := 0, cells := 0, slots := 0, locals := 0 } : Room) s m #[(.ref a0'), .null] below meth c s₁ [] 0 0 := Stand.of_body Bd
  have e0 : s₁.heap = h0 := by rw [← hh, Bd.state]; rfl
  have N0 := Fr.nil n0
  show OwnEnd p e below s (Q_rm_eqn Z a0' h0 n0) 0 0 (s₁.setTop (entryFrame m #[(.ref a0'), .null] 3))
  refine go (fun t k => castTop (ef_rm_eqn m a0') k) ?_
  show OwnEnd _ _ _ _ _ _ _ (s₁.setTop (mkF m 0 #[.val (.ref a0'), .val .null, .unset] []))
  refine go (fun _ k => by refine XS.aloadN X0.here hx rfl (hb hby d_prog_29_method_7_code_0) rfl rfl ?_; exact k) ?_
  show OwnEnd _ _ _ _ _ _ _ (s₁.setTop (mkF m 1 #[.val (.ref a0'), .val .null, .unset] [.null]))
  refine go (X0.instanceofNull hx (g := (mkF m 1 #[.val (.ref a0'), .val .null, .unset] [.null])) rfl rfl (hb hby d_prog_29_method_7_code_1)) ?_
  show OwnEnd _ _ _ _ _ _ _ (s₁.setTop (mkF m 4 #[.val (.ref a0'), .val .null, .unset] [(.int (0 : Int32))]))
  refine go (fun _ k => by refine XS.ifYes X0.here hx rfl (pc0 := 4) (pc' := 51) rfl (hb hby d_prog_29_method_7_code_4) rfl ((if0 _ _).trans (teq (by decide)).1) (by decide) (by decide) ?_; exact k) ?_
  refine go (fun _ k => by refine XS.iconst X0.here hx rfl (hb hby d_prog_29_method_7_code_51) ?_; exact k) ?_
  show OwnEnd _ _ _ _ _ _ _ (s₁.setTop (mkF m 52 #[.val (.ref a0'), .val .null, .unset] [(.int (0 : Int32))]))
  refine endN X0 hx hlk (t := .boolean) (by simp) Bd.returns (hb hby d_prog_29_method_7_code_52) e0 (by decide) (by decide) ?_
  exact ⟨rfl, N0, rfl⟩
theorem ef_rm_eqb (m : MethodId) (y0 : Addr) (y1 : Addr) : entryFrame m #[(.ref y0), (.ref y1)] 3 = mkF m 0 #[.val (.ref y0), .val (.ref y1), .unset] [] := by first | (simp [entryFrame, mkF, argsToLocals, Value.category]; done) | rfl
def Q_rm_eqb (Z : State) (a0' : Addr) (a1' : Addr) (h0 : Heap) (n0 : Nat) (v : Option Value) (h : Heap) (L : List Loc) : Prop := v = some (.int 0) ∧ Fr n0 L ∧ h = h0
set_option maxRecDepth 65536 in
set_option maxHeartbeats 40000000 in
theorem rm_eqb (l : Launch) (Z : State) (a0 : Array Value) (hw : ∀ d ∈ tables_1, d.before a0 Z = true) (ws : List Jvm.Cond) (a0' : Addr) (a1' : Addr) (h0 : Heap) (n0 : Nat) (EB : Exa Z h0 a1' "java/lang/Integer") :
    MetFree l (⟨"com/example/bound_quorum/boundquorum/replication/Vote", "equals", "(Ljava/lang/Object;)Z"⟩ : MethodName) (head1 (Jvm.Cond.code (⟨"com/example/bound_quorum/boundquorum/replication/Vote", "equals", "(Ljava/lang/Object;)Z"⟩ : MethodName) prog_29_method_7_code 3 (some .boolean) :: ws) ({ frames := 0, cells := 0, slots := 0, locals := 0 } : Room)) (fun a U => a = #[(.ref a0'), (.ref a1')] ∧ Z.Warmed39 U.vm ∧ U.heap = h0) (fun _ _ _ _ _ => True) (fun _ U o U' => ∃ v L, o = .returned v ∧ Q_rm_eqb Z a0' a1' h0 n0 v U'.heap L ∧ FrameEnd U o U' L 0 0) := by
  refine MetFree.of_bodySF (plainFor_of_name pn_com_example_bound_quorum_boundquorum_replication_Vote) hisR ?_
  intro p e s m args below meth c s₁ Bd hml0 hP hK
  obtain ⟨rfl, hZ, hh⟩ := hP
  have hx := Bd.exec
  have hby := Bd.bytes
  have hlk := Bd.notSynchronized
  have hml : c.maxLocals = 3 := hml0
  have hown : s.vm.findClass "com/example/bound_quorum/boundquorum/replication/Vote" = some m.cls := findClass_of_methodNamed Bd.named
  have hnm := (name_of_methodNamed Bd.named Bd.method).1
  have X0 : Stand p l e ({ frames := 0, cells := 0, slots := 0, locals := 0 } : Room) s m #[(.ref a0'), (.ref a1')] below meth c s₁ [] 0 0 := Stand.of_body Bd
  have e0 : s₁.heap = h0 := by rw [← hh, Bd.state]; rfl
  have N0 := Fr.nil n0
  show OwnEnd p e below s (Q_rm_eqb Z a0' a1' h0 n0) 0 0 (s₁.setTop (entryFrame m #[(.ref a0'), (.ref a1')] 3))
  refine go (fun t k => castTop (ef_rm_eqb m a0' a1') k) ?_
  show OwnEnd _ _ _ _ _ _ _ (s₁.setTop (mkF m 0 #[.val (.ref a0'), .val (.ref a1'), .unset] []))
  refine go (fun _ k => by refine XS.aloadN X0.here hx rfl (hb hby d_prog_29_method_7_code_0) rfl rfl ?_; exact k) ?_
  show OwnEnd _ _ _ _ _ _ _ (s₁.setTop (mkF m 1 #[.val (.ref a0'), .val (.ref a1'), .unset] [(.ref a1')]))
  obtain ⟨T1, X1, e1, st1⟩ := instNo X0 hx hZ hown (hw _ (List.mem_of_getElem? (i := 27) rfl)) e0 EB (NSno (hw _ (List.mem_of_getElem? (i := 29) rfl)) (hw _ (List.mem_of_getElem? (i := 1) rfl)) (NS.step (hw _ (List.mem_of_getElem? (i := 29) rfl)) (NS.step (hw _ (List.mem_of_getElem? (i := 30) rfl)) (NSroot (hw _ (List.mem_of_getElem? (i := 31) rfl)) (hw _ (List.mem_of_getElem? (i := 1) rfl)) (by decide)) (by decide)) (by decide)) (by decide)) (g := (mkF m 1 #[.val (.ref a0'), .val (.ref a1'), .unset] [(.ref a1')])) rfl rfl (hb hby d_prog_29_method_7_code_1)
  refine go st1 ?_
  show OwnEnd _ _ _ _ _ _ _ (T1.setTop (mkF m 4 #[.val (.ref a0'), .val (.ref a1'), .unset] [(.int (0 : Int32))]))
  refine go (fun _ k => by refine XS.ifYes X1.here hx rfl (pc0 := 4) (pc' := 51) rfl (hb hby d_prog_29_method_7_code_4) rfl ((if0 _ _).trans (teq (by decide)).1) (by decide) (by decide) ?_; exact k) ?_
  refine go (fun _ k => by refine XS.iconst X1.here hx rfl (hb hby d_prog_29_method_7_code_51) ?_; exact k) ?_
  show OwnEnd _ _ _ _ _ _ _ (T1.setTop (mkF m 52 #[.val (.ref a0'), .val (.ref a1'), .unset] [(.int (0 : Int32))]))
  refine endN X1 hx hlk (t := .boolean) (by simp) Bd.returns (hb hby d_prog_29_method_7_code_52) e1 (by decide) (by decide) ?_
  exact ⟨rfl, N0, rfl⟩
theorem pd__IJJ_V : parseMethodDescriptor "(IJJ)V" = some ⟨[.int, .long, .long], none⟩ := by decide +kernel
theorem pd__I_Ljava_lang_Integer_ : parseMethodDescriptor "(I)Ljava/lang/Integer;" = some ⟨[.int], some (.object "java/lang/Integer")⟩ := by decide +kernel
theorem pd__Ljava_lang_Object__Z : parseMethodDescriptor "(Ljava/lang/Object;)Z" = some ⟨[(.object "java/lang/Object")], some .boolean⟩ := by decide +kernel
theorem pn_com_example_bound_quorum_boundquorum_replication_VoteEqualsPinLaw : plainName "com/example/bound_quorum/boundquorum/replication/VoteEqualsPinLaw" = true := by first | (simp [plainName, overriddenIn]; done) | decide +kernel
theorem ef_rm_law (m : MethodId) (y0 : Int32) (y1 : Int64) (y2 : Int64) (y3 : Int32) (y4 : Int32) (y5 : Int64) : entryFrame m #[(.int y0), (.long y1), (.long y2), (.int y3), (.int y4), (.long y5)] maxLocals = mkF m 0 #[.val (.int y0), .val (.long y1), .second, .val (.long y2), .second, .val (.int y3), .val (.int y4), .val (.long y5), .second, .unset, .unset, .unset, .unset, .unset, .unset, .unset, .unset, .unset, .unset] [] := by first | (simp [entryFrame, mkF, argsToLocals, Value.category, maxLocals]; done) | rfl
def Q_rm_law (Z : State) (p0 : Int32) (q1 : Int64) (q2 : Int64) (p3 : Int32) (p4 : Int32) (q5 : Int64) (caI : Addr) (ccI : Cell) (h0 : Heap) (n0 : Nat) (v : Option Value) (h : Heap) (L : List Loc) : Prop := v = some (.int 1) ∧ Fr n0 L
set_option maxRecDepth 65536 in
set_option maxHeartbeats 40000000 in
theorem rm_law (l : Launch) (Z : State) (a0 : Array Value) (hw : ∀ d ∈ tables_1, d.before a0 Z = true) (ws : List Jvm.Cond) (p0 : Int32) (q1 : Int64) (q2 : Int64) (p3 : Int32) (p4 : Int32) (q5 : Int64) (caI : Addr) (ccI : Cell) (h0 : Heap) (n0 : Nat) (Z0 : n0 ≤ h0.size) (O : Old Z n0 h0) (SCI : Sta Z Z.heap "java/lang/Integer$IntegerCache" "cache" "[Ljava/lang/Integer;" (.ref caI)) (ACI : Arr Z Z.heap caI ccI (.object "java/lang/Integer")) (NCI : ccI.slots.size = 256) (ECI : ∀ i, i < 256 → ∃ b, ccI.slots[i]? = some (.ref b) ∧ Exa Z Z.heap b "java/lang/Integer") (SHI : Sta Z Z.heap "java/lang/Integer$IntegerCache" "high" "I" (.int 127)) :
    MetFree l x (head1 (Jvm.Cond.code x code maxLocals ret :: ws) room_1) (fun a U => a = #[(.int p0), (.long q1), (.long q2), (.int p3), (.int p4), (.long q5)] ∧ Z.Warmed39 U.vm ∧ U.heap = h0) (fun _ _ _ _ _ => True) (fun _ U o U' => ∃ v L, o = .returned v ∧ Q_rm_law Z p0 q1 q2 p3 p4 q5 caI ccI h0 n0 v U'.heap L ∧ FrameEnd U o U' L 16 128) := by
  refine MetFree.of_bodySF (plainFor_of_name pn_com_example_bound_quorum_boundquorum_replication_VoteEqualsPinLaw) hisR ?_
  intro p e s m args below meth c s₁ Bd hml0 hP hK
  obtain ⟨rfl, hZ, hh⟩ := hP
  have hx := Bd.exec
  have hby := Bd.bytes
  have hlk := Bd.notSynchronized
  have hml : c.maxLocals = 19 := hml0
  have hown : s.vm.findClass "com/example/bound_quorum/boundquorum/replication/VoteEqualsPinLaw" = some m.cls := findClass_of_methodNamed Bd.named
  have hnm := (name_of_methodNamed Bd.named Bd.method).1
  have X0 : Stand p l e room_1 s m #[(.int p0), (.long q1), (.long q2), (.int p3), (.int p4), (.long q5)] below meth c s₁ [] 0 0 := Stand.of_body Bd
  have e0 : s₁.heap = h0 := by rw [← hh, Bd.state]; rfl
  have N0 := Fr.nil n0
  show OwnEnd p e below s (Q_rm_law Z p0 q1 q2 p3 p4 q5 caI ccI h0 n0) 16 128 (s₁.setTop (entryFrame m #[(.int p0), (.long q1), (.long q2), (.int p3), (.int p4), (.long q5)] maxLocals))
  refine go (fun t k => castTop (ef_rm_law m p0 q1 q2 p3 p4 q5) k) ?_
  show OwnEnd _ _ _ _ _ _ _ (s₁.setTop (mkF m 0 (fL1 p0 q1 q2 p3 p4 q5) []))
  refine go (fun _ k => by refine XS.iload X0.here hx rfl (hb hby at_0) rfl ?_; exact k) ?_
  refine go (fun _ k => by refine XS.iconst X0.here hx rfl (hb hby at_2) ?_; exact k) ?_
  refine go (fun _ k => by refine XS.iand X0.here hx rfl (hb hby at_3) rfl ?_; exact k) ?_
  show OwnEnd _ _ _ _ _ _ _ (s₁.setTop (mkF m 4 (fL1 p0 q1 q2 p3 p4 q5) [(.int (p3 &&& (1 : Int32)))]))
  have J2 : ∀ (x2_s0 : Int32) (qx2_s0 : x2_s0 = (if (p3 &&& (1 : Int32)) = (0 : Int32) then p0 else p4)), OwnEnd p e below s (Q_rm_law Z p0 q1 q2 p3 p4 q5 caI ccI h0 n0) 16 128 (s₁.setTop (mkF m 13 (fL1 p0 q1 q2 p3 p4 q5) [(.int x2_s0)])) := by
    intro x2_s0 qx2_s0
    show OwnEnd _ _ _ _ _ _ _ (s₁.setTop (mkF m 13 (fL1 p0 q1 q2 p3 p4 q5) [(.int x2_s0)]))
    refine go (fun _ k => by refine XS.istore X0.here hx rfl (hb hby at_13) rfl (l' := (fL2 p0 q1 q2 p3 p4 q5 x2_s0)) rfl ?_; exact k) ?_
    refine go (fun _ k => by refine XS.iload X0.here hx rfl (hb hby at_15) rfl ?_; exact k) ?_
    refine go (fun _ k => by refine XS.iconst X0.here hx rfl (hb hby at_17) ?_; exact k) ?_
    refine go (fun _ k => by refine XS.iand X0.here hx rfl (hb hby at_18) rfl ?_; exact k) ?_
    show OwnEnd _ _ _ _ _ _ _ (s₁.setTop (mkF m 19 (fL2 p0 q1 q2 p3 p4 q5 x2_s0) [(.int (p3 &&& (2 : Int32)))]))
    have J4 : ∀ (x4_s0 : Int64) (qx4_s0 : x4_s0 = (if (p3 &&& (2 : Int32)) = (0 : Int32) then q1 else q5)), OwnEnd p e below s (Q_rm_law Z p0 q1 q2 p3 p4 q5 caI ccI h0 n0) 16 128 (s₁.setTop (mkF m 28 (fL2 p0 q1 q2 p3 p4 q5 x2_s0) [(.long x4_s0)])) := by
      intro x4_s0 qx4_s0
      show OwnEnd _ _ _ _ _ _ _ (s₁.setTop (mkF m 28 (fL2 p0 q1 q2 p3 p4 q5 x2_s0) [(.long x4_s0)]))
      refine go (fun _ k => by refine XS.lstore X0.here hx rfl (hb hby at_28) rfl (l' := (fL3 p0 q1 q2 p3 p4 q5 x2_s0 x4_s0)) rfl ?_; exact k) ?_
      refine go (fun _ k => by refine XS.iload X0.here hx rfl (hb hby at_30) rfl ?_; exact k) ?_
      refine go (fun _ k => by refine XS.iconst X0.here hx rfl (hb hby at_32) ?_; exact k) ?_
      refine go (fun _ k => by refine XS.iand X0.here hx rfl (hb hby at_33) rfl ?_; exact k) ?_
      show OwnEnd _ _ _ _ _ _ _ (s₁.setTop (mkF m 34 (fL3 p0 q1 q2 p3 p4 q5 x2_s0 x4_s0) [(.int (p3 &&& (4 : Int32)))]))
      have J6 : ∀ (x6_s0 : Int64) (qx6_s0 : x6_s0 = (if (p3 &&& (4 : Int32)) = (0 : Int32) then q2 else q5)), OwnEnd p e below s (Q_rm_law Z p0 q1 q2 p3 p4 q5 caI ccI h0 n0) 16 128 (s₁.setTop (mkF m 43 (fL3 p0 q1 q2 p3 p4 q5 x2_s0 x4_s0) [(.long x6_s0)])) := by
        intro x6_s0 qx6_s0
        show OwnEnd _ _ _ _ _ _ _ (s₁.setTop (mkF m 43 (fL3 p0 q1 q2 p3 p4 q5 x2_s0 x4_s0) [(.long x6_s0)]))
        refine go (fun _ k => by refine XS.lstore X0.here hx rfl (hb hby at_43) rfl (l' := (fL4 p0 q1 q2 p3 p4 q5 x2_s0 x4_s0 x6_s0)) rfl ?_; exact k) ?_
        show OwnEnd _ _ _ _ _ _ _ (s₁.setTop (mkF m 45 (fL4 p0 q1 q2 p3 p4 q5 x2_s0 x4_s0 x6_s0) []))
        obtain ⟨T7, h7, X7, e7, E7, A7, D7, -, st7⟩ := newO X0 hx hZ hown (hw _ (List.mem_of_getElem? (i := 0) rfl)) (hw _ (List.mem_of_getElem? (i := 1) rfl)) (hw _ (List.mem_of_getElem? (i := 2) rfl)) e0 (g := (mkF m 45 (fL4 p0 q1 q2 p3 p4 q5 x2_s0 x4_s0 x6_s0) [])) rfl (hb hby at_45) (by decide) (by decide)
        obtain ⟨b7, g7⟩ : ∃ z, z = h0.size := ⟨_, rfl⟩
        rw [← g7] at A7 D7 st7
        have g_b7 : n0 ≤ b7 := Nat.le_trans Z0 (Nat.le_of_eq g7.symm)
        have Z0 := Nat.le_trans Z0 E7.1
        have O := O.ext E7
        have F_leader_b7 : Fld Z h7 b7 "com/example/bound_quorum/boundquorum/replication/Vote" "leader" "I" (.int (0 : Int32)) := D7 (Or.inr (hw _ (List.mem_of_getElem? (i := 10) rfl))) (ty := .int) (by decide)
        have F_epoch_b7 : Fld Z h7 b7 "com/example/bound_quorum/boundquorum/replication/Vote" "epoch" "J" (.long (0 : Int64)) := D7 (Or.inr (hw _ (List.mem_of_getElem? (i := 12) rfl))) (ty := .long) (by decide)
        have F_zxid_b7 : Fld Z h7 b7 "com/example/bound_quorum/boundquorum/replication/Vote" "zxid" "J" (.long (0 : Int64)) := D7 (Or.inr (hw _ (List.mem_of_getElem? (i := 14) rfl))) (ty := .long) (by decide)
        have E_b7 := A7
        refine go st7 ?_
        refine go (fun _ k => by refine XS.dup X7.here hx rfl (hb hby at_48) rfl rfl ?_; exact k) ?_
        refine go (fun _ k => by refine XS.iloadN X7.here hx rfl (hb hby at_49) rfl ?_; exact k) ?_
        refine go (fun _ k => by refine XS.lloadN X7.here hx rfl (hb hby at_50) rfl ?_; exact k) ?_
        show OwnEnd _ _ _ _ _ _ _ (T7.setTop (mkF m 51 (fL4 p0 q1 q2 p3 p4 q5 x2_s0 x4_s0 x6_s0) [(.long q1), (.int p0), (.ref b7), (.ref b7)]))
        refine go (fun _ k => by refine XS.lloadN X7.here hx rfl (hb hby at_51) rfl ?_; exact k) ?_
        show OwnEnd _ _ _ _ _ _ _ (T7.setTop (mkF m 52 (fL4 p0 q1 q2 p3 p4 q5 x2_s0 x4_s0 x6_s0) [(.long q2), (.long q1), (.int p0), (.ref b7), (.ref b7)]))
        obtain ⟨_, T8, L8, X8, hQ8, st8⟩ := callInit X7 hx hZ hown rfl (hw _ (List.mem_of_getElem? (i := 3) rfl)) (hw _ (List.mem_of_getElem? (i := 4) rfl)) (hw _ (List.mem_of_getElem? (i := 2) rfl)) (hw _ (List.mem_of_getElem? (i := 5) rfl)) (by decide) (rm_ini l Z a0 hw [] b7 p0 q1 q2 h7 n0 g_b7 E_b7 F_leader_b7 F_epoch_b7 F_zxid_b7) (W := 1) (by decide) (by decide) e7 (g := (mkF m 52 (fL4 p0 q1 q2 p3 p4 q5 x2_s0 x4_s0 x6_s0) [(.long q2), (.long q1), (.int p0), (.ref b7), (.ref b7)])) rfl (by rw [hml]; rfl) (argsL := [(.int p0), (.long q1), (.long q2)]) (rest := [(.ref b7)]) rfl (lenOf pd__IJJ_V rfl) rfl (by show 2 * 0 + _ ≤ _; exact Nat.le_of_eq rfl) (hb hby at_52) (by decide) (by decide)
        obtain ⟨rfl, Nq8, K8, E_b7, F_leader_b7, F_epoch_b7, F_zxid_b7⟩ := hQ8
        have N8 := Fr.app N0 Nq8
        have Z0 := Nat.le_trans Z0 K8.1
        have O := O.keep K8 (allS g_b7 all0)
        refine go st8 ?_
        refine go (fun _ k => by refine XS.astore X8.here hx rfl (hb hby at_55) rfl rfl (l' := (fL5 p0 q1 q2 p3 p4 q5 x2_s0 x4_s0 x6_s0 b7)) rfl ?_; exact k) ?_
        show OwnEnd _ _ _ _ _ _ _ (T8.setTop (mkF m 57 (fL5 p0 q1 q2 p3 p4 q5 x2_s0 x4_s0 x6_s0 b7) []))
        obtain ⟨T9, h9, X9, e9, E9, A9, D9, -, st9⟩ := newO X8 hx hZ hown (hw _ (List.mem_of_getElem? (i := 0) rfl)) (hw _ (List.mem_of_getElem? (i := 1) rfl)) (hw _ (List.mem_of_getElem? (i := 2) rfl)) rfl (g := (mkF m 57 (fL5 p0 q1 q2 p3 p4 q5 x2_s0 x4_s0 x6_s0 b7) [])) rfl (hb hby at_57) (by decide) (by decide)
        obtain ⟨b9, g9⟩ : ∃ z, z = T8.heap.size := ⟨_, rfl⟩
        rw [← g9] at A9 D9 st9
        have ne_b7_b9 : b7 ≠ b9 := fun q => absurd E_b7.lt (by rw [q, g9]; exact Nat.lt_irrefl _)
        have g_b9 : n0 ≤ b9 := Nat.le_trans Z0 (Nat.le_of_eq g9.symm)
        have Z0 := Nat.le_trans Z0 E9.1
        have O := O.ext E9
        have E_b7 := E_b7.ext E9
        have F_leader_b7 := F_leader_b7.ext E9
        have F_epoch_b7 := F_epoch_b7.ext E9
        have F_zxid_b7 := F_zxid_b7.ext E9
        have F_leader_b9 : Fld Z h9 b9 "com/example/bound_quorum/boundquorum/replication/Vote" "leader" "I" (.int (0 : Int32)) := D9 (Or.inr (hw _ (List.mem_of_getElem? (i := 10) rfl))) (ty := .int) (by decide)
        have F_epoch_b9 : Fld Z h9 b9 "com/example/bound_quorum/boundquorum/replication/Vote" "epoch" "J" (.long (0 : Int64)) := D9 (Or.inr (hw _ (List.mem_of_getElem? (i := 12) rfl))) (ty := .long) (by decide)
        have F_zxid_b9 : Fld Z h9 b9 "com/example/bound_quorum/boundquorum/replication/Vote" "zxid" "J" (.long (0 : Int64)) := D9 (Or.inr (hw _ (List.mem_of_getElem? (i := 14) rfl))) (ty := .long) (by decide)
        have E_b9 := A9
        refine go st9 ?_
        refine go (fun _ k => by refine XS.dup X9.here hx rfl (hb hby at_60) rfl rfl ?_; exact k) ?_
        refine go (fun _ k => by refine XS.iload X9.here hx rfl (hb hby at_61) rfl ?_; exact k) ?_
        refine go (fun _ k => by refine XS.lload X9.here hx rfl (hb hby at_63) rfl ?_; exact k) ?_
        show OwnEnd _ _ _ _ _ _ _ (T9.setTop (mkF m 65 (fL5 p0 q1 q2 p3 p4 q5 x2_s0 x4_s0 x6_s0 b7) [(.long x4_s0), (.int x2_s0), (.ref b9), (.ref b9)]))
        refine go (fun _ k => by refine XS.lload X9.here hx rfl (hb hby at_65) rfl ?_; exact k) ?_
        show OwnEnd _ _ _ _ _ _ _ (T9.setTop (mkF m 67 (fL5 p0 q1 q2 p3 p4 q5 x2_s0 x4_s0 x6_s0 b7) [(.long x6_s0), (.long x4_s0), (.int x2_s0), (.ref b9), (.ref b9)]))
        obtain ⟨_, T10, L10, X10, hQ10, st10⟩ := callInit X9 hx hZ hown rfl (hw _ (List.mem_of_getElem? (i := 3) rfl)) (hw _ (List.mem_of_getElem? (i := 4) rfl)) (hw _ (List.mem_of_getElem? (i := 2) rfl)) (hw _ (List.mem_of_getElem? (i := 5) rfl)) (by decide) (rm_ini l Z a0 hw [] b9 x2_s0 x4_s0 x6_s0 h9 n0 g_b9 E_b9 F_leader_b9 F_epoch_b9 F_zxid_b9) (W := 1) (by decide) (by decide) e9 (g := (mkF m 67 (fL5 p0 q1 q2 p3 p4 q5 x2_s0 x4_s0 x6_s0 b7) [(.long x6_s0), (.long x4_s0), (.int x2_s0), (.ref b9), (.ref b9)])) rfl (by rw [hml]; rfl) (argsL := [(.int x2_s0), (.long x4_s0), (.long x6_s0)]) (rest := [(.ref b9)]) rfl (lenOf pd__IJJ_V rfl) rfl (by show 2 * 0 + _ ≤ _; exact Nat.le_of_eq rfl) (hb hby at_67) (by decide) (by decide)
        obtain ⟨rfl, Nq10, K10, E_b9, F_leader_b9, F_epoch_b9, F_zxid_b9⟩ := hQ10
        have N10 := Fr.app N8 Nq10
        have Z0 := Nat.le_trans Z0 K10.1
        have O := O.keep K10 (allS g_b9 all0)
        have E_b7 := E_b7.keep K10
        have F_leader_b7 := F_leader_b7.keep K10 (ninS ne_b7_b9 nin0)
        have F_epoch_b7 := F_epoch_b7.keep K10 (ninS ne_b7_b9 nin0)
        have F_zxid_b7 := F_zxid_b7.keep K10 (ninS ne_b7_b9 nin0)
        refine go st10 ?_
        refine go (fun _ k => by refine XS.astore X10.here hx rfl (hb hby at_70) rfl rfl (l' := (fL6 p0 q1 q2 p3 p4 q5 x2_s0 x4_s0 x6_s0 b7 b9)) rfl ?_; exact k) ?_
        refine go (fun _ k => by refine XS.iloadN X10.here hx rfl (hb hby at_72) rfl ?_; exact k) ?_
        show OwnEnd _ _ _ _ _ _ _ (T10.setTop (mkF m 73 (fL6 p0 q1 q2 p3 p4 q5 x2_s0 x4_s0 x6_s0 b7 b9) [(.int p0)]))
        obtain ⟨_, T11, L11, X11, hQ11, st11⟩ := callStat X10 hx hZ hown (hw _ (List.mem_of_getElem? (i := 15) rfl)) (hw _ (List.mem_of_getElem? (i := 16) rfl)) (hw _ (List.mem_of_getElem? (i := 17) rfl)) (hw _ (List.mem_of_getElem? (i := 18) rfl)) (by decide) (rm_box l Z a0 hw [] p0 caI ccI T10.heap n0 O SCI ACI NCI ECI SHI) (W := 0) (by decide) (by decide) rfl (g := (mkF m 73 (fL6 p0 q1 q2 p3 p4 q5 x2_s0 x4_s0 x6_s0 b7 b9) [(.int p0)])) rfl (by rw [hml]; rfl) (argsL := [(.int p0)]) (rest := []) rfl (lenOf pd__I_Ljava_lang_Integer_ rfl) rfl (by show 2 * 0 + _ ≤ _; exact Nat.le_of_eq rfl) (hb hby at_73) (by decide) (by decide)
        obtain ⟨bx11, rfl, Nq11, K11, E_bx11⟩ := hQ11
        have N11 := Fr.app N10 Nq11
        have Z0 := Nat.le_trans Z0 K11.1
        have O := O.keep K11 all0
        have E_b7 := E_b7.keep K11
        have F_leader_b7 := F_leader_b7.keep K11 nin0
        have F_epoch_b7 := F_epoch_b7.keep K11 nin0
        have F_zxid_b7 := F_zxid_b7.keep K11 nin0
        have E_b9 := E_b9.keep K11
        have F_leader_b9 := F_leader_b9.keep K11 nin0
        have F_epoch_b9 := F_epoch_b9.keep K11 nin0
        have F_zxid_b9 := F_zxid_b9.keep K11 nin0
        refine go st11 ?_
        refine go (fun _ k => by refine XS.astore X11.here hx rfl (hb hby at_76) rfl rfl (l' := (fL7 p0 q1 q2 p3 p4 q5 x2_s0 x4_s0 x6_s0 b7 b9 bx11)) rfl ?_; exact k) ?_
        refine go (fun _ k => by refine XS.iload X11.here hx rfl (hb hby at_78) rfl ?_; exact k) ?_
        refine go (fun _ k => by refine XS.iconst X11.here hx rfl (hb hby at_80) ?_; exact k) ?_
        show OwnEnd _ _ _ _ _ _ _ (T11.setTop (mkF m 81 (fL7 p0 q1 q2 p3 p4 q5 x2_s0 x4_s0 x6_s0 b7 b9 bx11) [(.int (3 : Int32)), (.int p3)]))
        refine go (fun _ k => by refine XS.iushr X11.here hx rfl (hb hby at_81) rfl ?_; exact k) ?_
        refine go (fun _ k => by refine XS.iconst X11.here hx rfl (hb hby at_82) ?_; exact k) ?_
        refine go (fun _ k => by refine XS.iand X11.here hx rfl (hb hby at_83) rfl ?_; exact k) ?_
        refine go (fun _ k => by refine XS.istore X11.here hx rfl (hb hby at_84) rfl (l' := (fL8 p0 q1 q2 p3 p4 q5 x2_s0 x4_s0 x6_s0 b7 b9 bx11 (((p3.toUInt32 >>> ((3 : Int32) &&& 31).toUInt32).toInt32) &&& (3 : Int32)))) rfl ?_; exact k) ?_
        show OwnEnd _ _ _ _ _ _ _ (T11.setTop (mkF m 86 (fL8 p0 q1 q2 p3 p4 q5 x2_s0 x4_s0 x6_s0 b7 b9 bx11 (((p3.toUInt32 >>> ((3 : Int32) &&& 31).toUInt32).toInt32) &&& (3 : Int32))) []))
        generalize qx12 : (((p3.toUInt32 >>> ((3 : Int32) &&& 31).toUInt32).toInt32) &&& (3 : Int32)) = x12
        show OwnEnd _ _ _ _ _ _ _ (T11.setTop (mkF m 86 (fL8 p0 q1 q2 p3 p4 q5 x2_s0 x4_s0 x6_s0 b7 b9 bx11 x12) []))
        refine go (fun _ k => by refine XS.iload X11.here hx rfl (hb hby at_86) rfl ?_; exact k) ?_
        show OwnEnd _ _ _ _ _ _ _ (T11.setTop (mkF m 88 (fL8 p0 q1 q2 p3 p4 q5 x2_s0 x4_s0 x6_s0 b7 b9 bx11 x12) [(.int x12)]))
        by_cases hc88_13 : x12 = (0 : Int32)
        · refine go (fun _ k => by refine XS.ifNo X11.here hx rfl (hb hby at_88) rfl ((if0 _ _).trans (teq hc88_13).2) ?_; exact k) ?_
          show OwnEnd _ _ _ _ _ _ _ (T11.setTop (mkF m 91 (fL8 p0 q1 q2 p3 p4 q5 x2_s0 x4_s0 x6_s0 b7 b9 bx11 x12) []))
          refine go (fun _ k => by refine XS.iload X11.here hx rfl (hb hby at_91) rfl ?_; exact k) ?_
          refine go (fun _ k => by refine XS.iloadN X11.here hx rfl (hb hby at_93) rfl ?_; exact k) ?_
          show OwnEnd _ _ _ _ _ _ _ (T11.setTop (mkF m 94 (fL8 p0 q1 q2 p3 p4 q5 x2_s0 x4_s0 x6_s0 b7 b9 bx11 x12) [(.int p0), (.int x2_s0)]))
          have J17 : ∀ (x17_s0 : Int32) (qx17_s0 : x17_s0 = (if x2_s0 = p0 then (if x4_s0 = q1 then (if x6_s0 = q2 then (1 : Int32) else (0 : Int32)) else (0 : Int32)) else (0 : Int32))), OwnEnd p e below s (Q_rm_law Z p0 q1 q2 p3 p4 q5 caI ccI h0 n0) 16 128 (T11.setTop (mkF m 116 (fL8 p0 q1 q2 p3 p4 q5 x2_s0 x4_s0 x6_s0 b7 b9 bx11 x12) [(.int x17_s0)])) := by
            intro x17_s0 qx17_s0
            show OwnEnd _ _ _ _ _ _ _ (T11.setTop (mkF m 116 (fL8 p0 q1 q2 p3 p4 q5 x2_s0 x4_s0 x6_s0 b7 b9 bx11 x12) [(.int x17_s0)]))
            refine go (fun _ k => by refine XS.istore X11.here hx rfl (hb hby at_116) rfl (l' := (fL9 p0 q1 q2 p3 p4 q5 x2_s0 x4_s0 x6_s0 b7 b9 bx11 x12 x17_s0)) rfl ?_; exact k) ?_
            refine go (fun _ k => by refine XS.aload X11.here hx rfl (hb hby at_118) rfl rfl ?_; exact k) ?_
            refine go (fun _ k => by refine XS.aload X11.here hx rfl (hb hby at_120) rfl rfl ?_; exact k) ?_
            show OwnEnd _ _ _ _ _ _ _ (T11.setTop (mkF m 122 (fL9 p0 q1 q2 p3 p4 q5 x2_s0 x4_s0 x6_s0 b7 b9 bx11 x12 x17_s0) [(.ref b9), (.ref b7)]))
            obtain ⟨_, T18, L18, X18, hQ18, st18⟩ := callVirt X11 hx hZ hown (hw _ (List.mem_of_getElem? (i := 22) rfl)) (hw _ (List.mem_of_getElem? (i := 23) rfl)) (notFace_of_selects (args := #[]) (mvT hZ (hw _ (List.mem_of_getElem? (i := 25) rfl)))) (hw _ (List.mem_of_getElem? (i := 25) rfl)) (hw _ (List.mem_of_getElem? (i := 24) rfl)) (hw _ (List.mem_of_getElem? (i := 2) rfl)) (hw _ (List.mem_of_getElem? (i := 26) rfl)) (by decide) (rm_eqv l Z a0 hw [] b7 b9 p0 q1 q2 x2_s0 x4_s0 x6_s0 T11.heap n0 F_leader_b7 F_epoch_b7 F_zxid_b7 F_leader_b9 F_epoch_b9 F_zxid_b9 E_b9) (W := 0) (by decide) (by decide) rfl E_b7 (g := (mkF m 122 (fL9 p0 q1 q2 p3 p4 q5 x2_s0 x4_s0 x6_s0 b7 b9 bx11 x12 x17_s0) [(.ref b9), (.ref b7)])) rfl (by rw [hml]; rfl) (argsL := [(.ref b9)]) (rest := []) rfl (lenOf pd__Ljava_lang_Object__Z rfl) rfl (by show 2 * 0 + _ ≤ _; exact Nat.le_of_eq rfl) (hb hby at_122) (by decide) (by decide)
            obtain ⟨rfl, Nq18, eq18⟩ := hQ18
            have N18 := Fr.app N11 Nq18
            refine go st18 ?_
            refine go (fun _ k => by refine XS.iload X18.here hx rfl (hb hby at_125) rfl ?_; exact k) ?_
            show OwnEnd _ _ _ _ _ _ _ (T18.setTop (mkF m 127 (fL9 p0 q1 q2 p3 p4 q5 x2_s0 x4_s0 x6_s0 b7 b9 bx11 x12 x17_s0) [(.int x17_s0), (.int (if own_eq p0 q1 q2 x2_s0 x4_s0 x6_s0 then (1 : Int32) else 0))]))
            by_cases hc127_19 : (if own_eq p0 q1 q2 x2_s0 x4_s0 x6_s0 then (1 : Int32) else 0) = x17_s0
            · refine go (fun _ k => by refine XS.icmpNo X18.here hx rfl (hb hby at_127) rfl (teq hc127_19).2 ?_; exact k) ?_
              show OwnEnd _ _ _ _ _ _ _ (T18.setTop (mkF m 130 (fL9 p0 q1 q2 p3 p4 q5 x2_s0 x4_s0 x6_s0 b7 b9 bx11 x12 x17_s0) []))
              refine go (fun _ k => by refine XS.aload X18.here hx rfl (hb hby at_130) rfl rfl ?_; exact k) ?_
              refine go (fun _ k => by refine XS.aload X18.here hx rfl (hb hby at_132) rfl rfl ?_; exact k) ?_
              show OwnEnd _ _ _ _ _ _ _ (T18.setTop (mkF m 134 (fL9 p0 q1 q2 p3 p4 q5 x2_s0 x4_s0 x6_s0 b7 b9 bx11 x12 x17_s0) [(.ref b7), (.ref b9)]))
              obtain ⟨_, T20, L20, X20, hQ20, st20⟩ := callVirt X18 hx hZ hown (hw _ (List.mem_of_getElem? (i := 22) rfl)) (hw _ (List.mem_of_getElem? (i := 23) rfl)) (notFace_of_selects (args := #[]) (mvT hZ (hw _ (List.mem_of_getElem? (i := 25) rfl)))) (hw _ (List.mem_of_getElem? (i := 25) rfl)) (hw _ (List.mem_of_getElem? (i := 24) rfl)) (hw _ (List.mem_of_getElem? (i := 2) rfl)) (hw _ (List.mem_of_getElem? (i := 26) rfl)) (by decide) (rm_eqv l Z a0 hw [] b9 b7 x2_s0 x4_s0 x6_s0 p0 q1 q2 T11.heap n0 F_leader_b9 F_epoch_b9 F_zxid_b9 F_leader_b7 F_epoch_b7 F_zxid_b7 E_b7) (W := 0) (by decide) (by decide) eq18 E_b9 (g := (mkF m 134 (fL9 p0 q1 q2 p3 p4 q5 x2_s0 x4_s0 x6_s0 b7 b9 bx11 x12 x17_s0) [(.ref b7), (.ref b9)])) rfl (by rw [hml]; rfl) (argsL := [(.ref b7)]) (rest := []) rfl (lenOf pd__Ljava_lang_Object__Z rfl) rfl (by show 2 * 0 + _ ≤ _; exact Nat.le_of_eq rfl) (hb hby at_134) (by decide) (by decide)
              obtain ⟨rfl, Nq20, eq20⟩ := hQ20
              have N20 := Fr.app N18 Nq20
              refine go st20 ?_
              refine go (fun _ k => by refine XS.iload X20.here hx rfl (hb hby at_137) rfl ?_; exact k) ?_
              show OwnEnd _ _ _ _ _ _ _ (T20.setTop (mkF m 139 (fL9 p0 q1 q2 p3 p4 q5 x2_s0 x4_s0 x6_s0 b7 b9 bx11 x12 x17_s0) [(.int x17_s0), (.int (if own_eq x2_s0 x4_s0 x6_s0 p0 q1 q2 then (1 : Int32) else 0))]))
              by_cases hc139_21 : (if own_eq x2_s0 x4_s0 x6_s0 p0 q1 q2 then (1 : Int32) else 0) = x17_s0
              · refine go (fun _ k => by refine XS.icmpNo X20.here hx rfl (hb hby at_139) rfl (teq hc139_21).2 ?_; exact k) ?_
                show OwnEnd _ _ _ _ _ _ _ (T20.setTop (mkF m 142 (fL9 p0 q1 q2 p3 p4 q5 x2_s0 x4_s0 x6_s0 b7 b9 bx11 x12 x17_s0) []))
                refine go (fun _ k => by refine XS.iconst X20.here hx rfl (hb hby at_142) ?_; exact k) ?_
                refine go (fun _ k => by refine XS.goto X20.here hx rfl (pc0 := 143) (pc' := 147) rfl (hb hby at_143) (by decide) (by decide) ?_; exact k) ?_
                show OwnEnd _ _ _ _ _ _ _ (T20.setTop (mkF m 147 (fL9 p0 q1 q2 p3 p4 q5 x2_s0 x4_s0 x6_s0 b7 b9 bx11 x12 x17_s0) [(.int (1 : Int32))]))
                refine endN X20 hx hlk (t := .boolean) (by simp) Bd.returns (hb hby at_147) eq20 (by decide) (by decide) ?_
                exact ⟨rfl, N20⟩
              · refine go (fun _ k => by refine XS.icmpYes X20.here hx rfl (pc0 := 139) (pc' := 146) rfl (hb hby at_139) rfl (feq hc139_21).2 (by decide) (by decide) ?_; exact k) ?_
                show OwnEnd _ _ _ _ _ _ _ (T20.setTop (mkF m 146 (fL9 p0 q1 q2 p3 p4 q5 x2_s0 x4_s0 x6_s0 b7 b9 bx11 x12 x17_s0) []))
                refine go (fun _ k => by refine XS.iconst X20.here hx rfl (hb hby at_146) ?_; exact k) ?_
                show OwnEnd _ _ _ _ _ _ _ (T20.setTop (mkF m 147 (fL9 p0 q1 q2 p3 p4 q5 x2_s0 x4_s0 x6_s0 b7 b9 bx11 x12 x17_s0) [(.int (0 : Int32))]))
                refine endN X20 hx hlk (t := .boolean) (by simp) Bd.returns (hb hby at_147) eq20 (by decide) (by decide) ?_
                exact absurd (own_fin _ _ _ _ _ _ _ qx17_s0).2 hc139_21
            · refine go (fun _ k => by refine XS.icmpYes X18.here hx rfl (pc0 := 127) (pc' := 146) rfl (hb hby at_127) rfl (feq hc127_19).2 (by decide) (by decide) ?_; exact k) ?_
              show OwnEnd _ _ _ _ _ _ _ (T18.setTop (mkF m 146 (fL9 p0 q1 q2 p3 p4 q5 x2_s0 x4_s0 x6_s0 b7 b9 bx11 x12 x17_s0) []))
              refine go (fun _ k => by refine XS.iconst X18.here hx rfl (hb hby at_146) ?_; exact k) ?_
              show OwnEnd _ _ _ _ _ _ _ (T18.setTop (mkF m 147 (fL9 p0 q1 q2 p3 p4 q5 x2_s0 x4_s0 x6_s0 b7 b9 bx11 x12 x17_s0) [(.int (0 : Int32))]))
              refine endN X18 hx hlk (t := .boolean) (by simp) Bd.returns (hb hby at_147) eq18 (by decide) (by decide) ?_
              exact absurd (own_fin _ _ _ _ _ _ _ qx17_s0).1 hc127_19
          by_cases hc94_14 : x2_s0 = p0
          · refine go (fun _ k => by refine XS.icmpNo X11.here hx rfl (hb hby at_94) rfl (teq hc94_14).2 ?_; exact k) ?_
            show OwnEnd _ _ _ _ _ _ _ (T11.setTop (mkF m 97 (fL8 p0 q1 q2 p3 p4 q5 x2_s0 x4_s0 x6_s0 b7 b9 bx11 x12) []))
            refine go (fun _ k => by refine XS.lload X11.here hx rfl (hb hby at_97) rfl ?_; exact k) ?_
            refine go (fun _ k => by refine XS.lloadN X11.here hx rfl (hb hby at_99) rfl ?_; exact k) ?_
            refine go (fun _ k => by refine XS.lcmp X11.here hx rfl (hb hby at_100) rfl ?_; exact k) ?_
            show OwnEnd _ _ _ _ _ _ _ (T11.setTop (mkF m 101 (fL8 p0 q1 q2 p3 p4 q5 x2_s0 x4_s0 x6_s0 b7 b9 bx11 x12) [(.int (lcmpW x4_s0 q1))]))
            by_cases hc101_15 : x4_s0 = q1
            · refine go (fun _ k => by refine XS.ifNo X11.here hx rfl (hb hby at_101) rfl ((if0 _ _).trans (teq ((lw_eq _ _).mpr hc101_15)).2) ?_; exact k) ?_
              show OwnEnd _ _ _ _ _ _ _ (T11.setTop (mkF m 104 (fL8 p0 q1 q2 p3 p4 q5 x2_s0 x4_s0 x6_s0 b7 b9 bx11 x12) []))
              refine go (fun _ k => by refine XS.lload X11.here hx rfl (hb hby at_104) rfl ?_; exact k) ?_
              refine go (fun _ k => by refine XS.lloadN X11.here hx rfl (hb hby at_106) rfl ?_; exact k) ?_
              refine go (fun _ k => by refine XS.lcmp X11.here hx rfl (hb hby at_107) rfl ?_; exact k) ?_
              show OwnEnd _ _ _ _ _ _ _ (T11.setTop (mkF m 108 (fL8 p0 q1 q2 p3 p4 q5 x2_s0 x4_s0 x6_s0 b7 b9 bx11 x12) [(.int (lcmpW x6_s0 q2))]))
              by_cases hc108_16 : x6_s0 = q2
              · refine go (fun _ k => by refine XS.ifNo X11.here hx rfl (hb hby at_108) rfl ((if0 _ _).trans (teq ((lw_eq _ _).mpr hc108_16)).2) ?_; exact k) ?_
                show OwnEnd _ _ _ _ _ _ _ (T11.setTop (mkF m 111 (fL8 p0 q1 q2 p3 p4 q5 x2_s0 x4_s0 x6_s0 b7 b9 bx11 x12) []))
                refine go (fun _ k => by refine XS.iconst X11.here hx rfl (hb hby at_111) ?_; exact k) ?_
                refine go (fun _ k => by refine XS.goto X11.here hx rfl (pc0 := 112) (pc' := 116) rfl (hb hby at_112) (by decide) (by decide) ?_; exact k) ?_
                exact J17 (1 : Int32) (by rw [if_pos hc94_14, if_pos hc101_15, if_pos hc108_16])
              · refine go (fun _ k => by refine XS.ifYes X11.here hx rfl (pc0 := 108) (pc' := 115) rfl (hb hby at_108) rfl ((if0 _ _).trans (feq (fun q => hc108_16 ((lw_eq _ _).mp q))).2) (by decide) (by decide) ?_; exact k) ?_
                show OwnEnd _ _ _ _ _ _ _ (T11.setTop (mkF m 115 (fL8 p0 q1 q2 p3 p4 q5 x2_s0 x4_s0 x6_s0 b7 b9 bx11 x12) []))
                refine go (fun _ k => by refine XS.iconst X11.here hx rfl (hb hby at_115) ?_; exact k) ?_
                exact J17 (0 : Int32) (by rw [if_pos hc94_14, if_pos hc101_15, if_neg hc108_16])
            · refine go (fun _ k => by refine XS.ifYes X11.here hx rfl (pc0 := 101) (pc' := 115) rfl (hb hby at_101) rfl ((if0 _ _).trans (feq (fun q => hc101_15 ((lw_eq _ _).mp q))).2) (by decide) (by decide) ?_; exact k) ?_
              show OwnEnd _ _ _ _ _ _ _ (T11.setTop (mkF m 115 (fL8 p0 q1 q2 p3 p4 q5 x2_s0 x4_s0 x6_s0 b7 b9 bx11 x12) []))
              refine go (fun _ k => by refine XS.iconst X11.here hx rfl (hb hby at_115) ?_; exact k) ?_
              exact J17 (0 : Int32) (by rw [if_pos hc94_14, if_neg hc101_15])
          · refine go (fun _ k => by refine XS.icmpYes X11.here hx rfl (pc0 := 94) (pc' := 115) rfl (hb hby at_94) rfl (feq hc94_14).2 (by decide) (by decide) ?_; exact k) ?_
            show OwnEnd _ _ _ _ _ _ _ (T11.setTop (mkF m 115 (fL8 p0 q1 q2 p3 p4 q5 x2_s0 x4_s0 x6_s0 b7 b9 bx11 x12) []))
            refine go (fun _ k => by refine XS.iconst X11.here hx rfl (hb hby at_115) ?_; exact k) ?_
            exact J17 (0 : Int32) (by rw [if_neg hc94_14])
        · refine go (fun _ k => by refine XS.ifYes X11.here hx rfl (pc0 := 88) (pc' := 148) rfl (hb hby at_88) rfl ((if0 _ _).trans (feq hc88_13).2) (by decide) (by decide) ?_; exact k) ?_
          show OwnEnd _ _ _ _ _ _ _ (T11.setTop (mkF m 148 (fL8 p0 q1 q2 p3 p4 q5 x2_s0 x4_s0 x6_s0 b7 b9 bx11 x12) []))
          refine go (fun _ k => by refine XS.iload X11.here hx rfl (hb hby at_148) rfl ?_; exact k) ?_
          refine go (fun _ k => by refine XS.iconst X11.here hx rfl (hb hby at_150) ?_; exact k) ?_
          show OwnEnd _ _ _ _ _ _ _ (T11.setTop (mkF m 151 (fL8 p0 q1 q2 p3 p4 q5 x2_s0 x4_s0 x6_s0 b7 b9 bx11 x12) [(.int (1 : Int32)), (.int x12)]))
          by_cases hc151_22 : x12 = (1 : Int32)
          · refine go (fun _ k => by refine XS.icmpNo X11.here hx rfl (hb hby at_151) rfl (teq hc151_22).2 ?_; exact k) ?_
            show OwnEnd _ _ _ _ _ _ _ (T11.setTop (mkF m 154 (fL8 p0 q1 q2 p3 p4 q5 x2_s0 x4_s0 x6_s0 b7 b9 bx11 x12) []))
            refine go (fun _ k => by refine XS.aload X11.here hx rfl (hb hby at_154) rfl rfl ?_; exact k) ?_
            refine go (fun _ k => by refine XS.aconstNull X11.here hx rfl (hb hby at_156) ?_; exact k) ?_
            show OwnEnd _ _ _ _ _ _ _ (T11.setTop (mkF m 157 (fL8 p0 q1 q2 p3 p4 q5 x2_s0 x4_s0 x6_s0 b7 b9 bx11 x12) [.null, (.ref b7)]))
            obtain ⟨_, T23, L23, X23, hQ23, st23⟩ := callVirt X11 hx hZ hown (hw _ (List.mem_of_getElem? (i := 22) rfl)) (hw _ (List.mem_of_getElem? (i := 23) rfl)) (notFace_of_selects (args := #[]) (mvT hZ (hw _ (List.mem_of_getElem? (i := 25) rfl)))) (hw _ (List.mem_of_getElem? (i := 25) rfl)) (hw _ (List.mem_of_getElem? (i := 24) rfl)) (hw _ (List.mem_of_getElem? (i := 2) rfl)) (hw _ (List.mem_of_getElem? (i := 26) rfl)) (by decide) (rm_eqn l Z a0 hw [] b7 T11.heap n0) (W := 0) (by decide) (by decide) rfl E_b7 (g := (mkF m 157 (fL8 p0 q1 q2 p3 p4 q5 x2_s0 x4_s0 x6_s0 b7 b9 bx11 x12) [.null, (.ref b7)])) rfl (by rw [hml]; rfl) (argsL := [.null]) (rest := []) rfl (lenOf pd__Ljava_lang_Object__Z rfl) rfl (by show 2 * 0 + _ ≤ _; exact Nat.le_of_eq rfl) (hb hby at_157) (by decide) (by decide)
            obtain ⟨rfl, Nq23, eq23⟩ := hQ23
            have N23 := Fr.app N11 Nq23
            refine go st23 ?_
            show OwnEnd _ _ _ _ _ _ _ (T23.setTop (mkF m 160 (fL8 p0 q1 q2 p3 p4 q5 x2_s0 x4_s0 x6_s0 b7 b9 bx11 x12) [(.int (0 : Int32))]))
            refine go (fun _ k => by refine XS.ifNo X23.here hx rfl (hb hby at_160) rfl ((if0 _ _).trans (teq (by decide)).2) ?_; exact k) ?_
            refine go (fun _ k => by refine XS.iconst X23.here hx rfl (hb hby at_163) ?_; exact k) ?_
            refine go (fun _ k => by refine XS.goto X23.here hx rfl (pc0 := 164) (pc' := 168) rfl (hb hby at_164) (by decide) (by decide) ?_; exact k) ?_
            show OwnEnd _ _ _ _ _ _ _ (T23.setTop (mkF m 168 (fL8 p0 q1 q2 p3 p4 q5 x2_s0 x4_s0 x6_s0 b7 b9 bx11 x12) [(.int (1 : Int32))]))
            refine endN X23 hx hlk (t := .boolean) (by simp) Bd.returns (hb hby at_168) eq23 (by decide) (by decide) ?_
            exact ⟨rfl, N23⟩
          · refine go (fun _ k => by refine XS.icmpYes X11.here hx rfl (pc0 := 151) (pc' := 169) rfl (hb hby at_151) rfl (feq hc151_22).2 (by decide) (by decide) ?_; exact k) ?_
            show OwnEnd _ _ _ _ _ _ _ (T11.setTop (mkF m 169 (fL8 p0 q1 q2 p3 p4 q5 x2_s0 x4_s0 x6_s0 b7 b9 bx11 x12) []))
            refine go (fun _ k => by refine XS.iload X11.here hx rfl (hb hby at_169) rfl ?_; exact k) ?_
            refine go (fun _ k => by refine XS.iconst X11.here hx rfl (hb hby at_171) ?_; exact k) ?_
            show OwnEnd _ _ _ _ _ _ _ (T11.setTop (mkF m 172 (fL8 p0 q1 q2 p3 p4 q5 x2_s0 x4_s0 x6_s0 b7 b9 bx11 x12) [(.int (2 : Int32)), (.int x12)]))
            by_cases hc172_24 : x12 = (2 : Int32)
            · refine go (fun _ k => by refine XS.icmpNo X11.here hx rfl (hb hby at_172) rfl (teq hc172_24).2 ?_; exact k) ?_
              show OwnEnd _ _ _ _ _ _ _ (T11.setTop (mkF m 175 (fL8 p0 q1 q2 p3 p4 q5 x2_s0 x4_s0 x6_s0 b7 b9 bx11 x12) []))
              refine go (fun _ k => by refine XS.aload X11.here hx rfl (hb hby at_175) rfl rfl ?_; exact k) ?_
              refine go (fun _ k => by refine XS.aload X11.here hx rfl (hb hby at_177) rfl rfl ?_; exact k) ?_
              show OwnEnd _ _ _ _ _ _ _ (T11.setTop (mkF m 179 (fL8 p0 q1 q2 p3 p4 q5 x2_s0 x4_s0 x6_s0 b7 b9 bx11 x12) [(.ref bx11), (.ref b7)]))
              obtain ⟨_, T25, L25, X25, hQ25, st25⟩ := callVirt X11 hx hZ hown (hw _ (List.mem_of_getElem? (i := 22) rfl)) (hw _ (List.mem_of_getElem? (i := 23) rfl)) (notFace_of_selects (args := #[]) (mvT hZ (hw _ (List.mem_of_getElem? (i := 25) rfl)))) (hw _ (List.mem_of_getElem? (i := 25) rfl)) (hw _ (List.mem_of_getElem? (i := 24) rfl)) (hw _ (List.mem_of_getElem? (i := 2) rfl)) (hw _ (List.mem_of_getElem? (i := 26) rfl)) (by decide) (rm_eqb l Z a0 hw [] b7 bx11 T11.heap n0 E_bx11) (W := 0) (by decide) (by decide) rfl E_b7 (g := (mkF m 179 (fL8 p0 q1 q2 p3 p4 q5 x2_s0 x4_s0 x6_s0 b7 b9 bx11 x12) [(.ref bx11), (.ref b7)])) rfl (by rw [hml]; rfl) (argsL := [(.ref bx11)]) (rest := []) rfl (lenOf pd__Ljava_lang_Object__Z rfl) rfl (by show 2 * 0 + _ ≤ _; exact Nat.le_of_eq rfl) (hb hby at_179) (by decide) (by decide)
              obtain ⟨rfl, Nq25, eq25⟩ := hQ25
              have N25 := Fr.app N11 Nq25
              refine go st25 ?_
              show OwnEnd _ _ _ _ _ _ _ (T25.setTop (mkF m 182 (fL8 p0 q1 q2 p3 p4 q5 x2_s0 x4_s0 x6_s0 b7 b9 bx11 x12) [(.int (0 : Int32))]))
              refine go (fun _ k => by refine XS.ifNo X25.here hx rfl (hb hby at_182) rfl ((if0 _ _).trans (teq (by decide)).2) ?_; exact k) ?_
              refine go (fun _ k => by refine XS.iconst X25.here hx rfl (hb hby at_185) ?_; exact k) ?_
              refine go (fun _ k => by refine XS.goto X25.here hx rfl (pc0 := 186) (pc' := 190) rfl (hb hby at_186) (by decide) (by decide) ?_; exact k) ?_
              show OwnEnd _ _ _ _ _ _ _ (T25.setTop (mkF m 190 (fL8 p0 q1 q2 p3 p4 q5 x2_s0 x4_s0 x6_s0 b7 b9 bx11 x12) [(.int (1 : Int32))]))
              refine endN X25 hx hlk (t := .boolean) (by simp) Bd.returns (hb hby at_190) eq25 (by decide) (by decide) ?_
              exact ⟨rfl, N25⟩
            · refine go (fun _ k => by refine XS.icmpYes X11.here hx rfl (pc0 := 172) (pc' := 191) rfl (hb hby at_172) rfl (feq hc172_24).2 (by decide) (by decide) ?_; exact k) ?_
              show OwnEnd _ _ _ _ _ _ _ (T11.setTop (mkF m 191 (fL8 p0 q1 q2 p3 p4 q5 x2_s0 x4_s0 x6_s0 b7 b9 bx11 x12) []))
              refine go (fun _ k => by refine XS.aload X11.here hx rfl (hb hby at_191) rfl rfl ?_; exact k) ?_
              refine go (fun _ k => by refine XS.aload X11.here hx rfl (hb hby at_193) rfl rfl ?_; exact k) ?_
              show OwnEnd _ _ _ _ _ _ _ (T11.setTop (mkF m 195 (fL8 p0 q1 q2 p3 p4 q5 x2_s0 x4_s0 x6_s0 b7 b9 bx11 x12) [(.ref b7), (.ref b7)]))
              obtain ⟨_, T26, L26, X26, hQ26, st26⟩ := callVirt X11 hx hZ hown (hw _ (List.mem_of_getElem? (i := 22) rfl)) (hw _ (List.mem_of_getElem? (i := 23) rfl)) (notFace_of_selects (args := #[]) (mvT hZ (hw _ (List.mem_of_getElem? (i := 25) rfl)))) (hw _ (List.mem_of_getElem? (i := 25) rfl)) (hw _ (List.mem_of_getElem? (i := 24) rfl)) (hw _ (List.mem_of_getElem? (i := 2) rfl)) (hw _ (List.mem_of_getElem? (i := 26) rfl)) (by decide) (rm_eqv l Z a0 hw [] b7 b7 p0 q1 q2 p0 q1 q2 T11.heap n0 F_leader_b7 F_epoch_b7 F_zxid_b7 F_leader_b7 F_epoch_b7 F_zxid_b7 E_b7) (W := 0) (by decide) (by decide) rfl E_b7 (g := (mkF m 195 (fL8 p0 q1 q2 p3 p4 q5 x2_s0 x4_s0 x6_s0 b7 b9 bx11 x12) [(.ref b7), (.ref b7)])) rfl (by rw [hml]; rfl) (argsL := [(.ref b7)]) (rest := []) rfl (lenOf pd__Ljava_lang_Object__Z rfl) rfl (by show 2 * 0 + _ ≤ _; exact Nat.le_of_eq rfl) (hb hby at_195) (by decide) (by decide)
              obtain ⟨rfl, Nq26, eq26⟩ := hQ26
              have N26 := Fr.app N11 Nq26
              refine go st26 ?_
              show OwnEnd _ _ _ _ _ _ _ (T26.setTop (mkF m 198 (fL8 p0 q1 q2 p3 p4 q5 x2_s0 x4_s0 x6_s0 b7 b9 bx11 x12) [(.int (if own_eq p0 q1 q2 p0 q1 q2 then (1 : Int32) else 0))]))
              refine endN X26 hx hlk (t := .boolean) (by simp) Bd.returns (hb hby at_198) eq26 (by decide) (by decide) ?_
              exact ⟨by rw [if_pos ⟨rfl, rfl, rfl⟩]; rfl, N26⟩
      by_cases hc34_5 : (p3 &&& (4 : Int32)) = (0 : Int32)
      · refine go (fun _ k => by refine XS.ifYes X0.here hx rfl (pc0 := 34) (pc' := 42) rfl (hb hby at_34) rfl ((if0 _ _).trans (teq hc34_5).1) (by decide) (by decide) ?_; exact k) ?_
        show OwnEnd _ _ _ _ _ _ _ (s₁.setTop (mkF m 42 (fL3 p0 q1 q2 p3 p4 q5 x2_s0 x4_s0) []))
        refine go (fun _ k => by refine XS.lloadN X0.here hx rfl (hb hby at_42) rfl ?_; exact k) ?_
        exact J6 q2 (by rw [if_pos hc34_5])
      · refine go (fun _ k => by refine XS.ifNo X0.here hx rfl (hb hby at_34) rfl ((if0 _ _).trans (feq hc34_5).1) ?_; exact k) ?_
        show OwnEnd _ _ _ _ _ _ _ (s₁.setTop (mkF m 37 (fL3 p0 q1 q2 p3 p4 q5 x2_s0 x4_s0) []))
        refine go (fun _ k => by refine XS.lload X0.here hx rfl (hb hby at_37) rfl ?_; exact k) ?_
        refine go (fun _ k => by refine XS.goto X0.here hx rfl (pc0 := 39) (pc' := 43) rfl (hb hby at_39) (by decide) (by decide) ?_; exact k) ?_
        exact J6 q5 (by rw [if_neg hc34_5])
    by_cases hc19_3 : (p3 &&& (2 : Int32)) = (0 : Int32)
    · refine go (fun _ k => by refine XS.ifYes X0.here hx rfl (pc0 := 19) (pc' := 27) rfl (hb hby at_19) rfl ((if0 _ _).trans (teq hc19_3).1) (by decide) (by decide) ?_; exact k) ?_
      show OwnEnd _ _ _ _ _ _ _ (s₁.setTop (mkF m 27 (fL2 p0 q1 q2 p3 p4 q5 x2_s0) []))
      refine go (fun _ k => by refine XS.lloadN X0.here hx rfl (hb hby at_27) rfl ?_; exact k) ?_
      exact J4 q1 (by rw [if_pos hc19_3])
    · refine go (fun _ k => by refine XS.ifNo X0.here hx rfl (hb hby at_19) rfl ((if0 _ _).trans (feq hc19_3).1) ?_; exact k) ?_
      show OwnEnd _ _ _ _ _ _ _ (s₁.setTop (mkF m 22 (fL2 p0 q1 q2 p3 p4 q5 x2_s0) []))
      refine go (fun _ k => by refine XS.lload X0.here hx rfl (hb hby at_22) rfl ?_; exact k) ?_
      refine go (fun _ k => by refine XS.goto X0.here hx rfl (pc0 := 24) (pc' := 28) rfl (hb hby at_24) (by decide) (by decide) ?_; exact k) ?_
      exact J4 q5 (by rw [if_neg hc19_3])
  by_cases hc4_1 : (p3 &&& (1 : Int32)) = (0 : Int32)
  · refine go (fun _ k => by refine XS.ifYes X0.here hx rfl (pc0 := 4) (pc' := 12) rfl (hb hby at_4) rfl ((if0 _ _).trans (teq hc4_1).1) (by decide) (by decide) ?_; exact k) ?_
    show OwnEnd _ _ _ _ _ _ _ (s₁.setTop (mkF m 12 (fL1 p0 q1 q2 p3 p4 q5) []))
    refine go (fun _ k => by refine XS.iloadN X0.here hx rfl (hb hby at_12) rfl ?_; exact k) ?_
    exact J2 p0 (by rw [if_pos hc4_1])
  · refine go (fun _ k => by refine XS.ifNo X0.here hx rfl (hb hby at_4) rfl ((if0 _ _).trans (feq hc4_1).1) ?_; exact k) ?_
    show OwnEnd _ _ _ _ _ _ _ (s₁.setTop (mkF m 7 (fL1 p0 q1 q2 p3 p4 q5) []))
    refine go (fun _ k => by refine XS.iload X0.here hx rfl (hb hby at_7) rfl ?_; exact k) ?_
    refine go (fun _ k => by refine XS.goto X0.here hx rfl (pc0 := 9) (pc' := 13) rfl (hb hby at_9) (by decide) (by decide) ?_; exact k) ?_
    exact J2 p4 (by rw [if_neg hc4_1])
set_option maxRecDepth 65536 in
set_option maxHeartbeats 40000000 in
theorem comes_1 {Post : Tables → Env → Array Value → State → Outcome → State → Prop} (hpost : ∀ tb e args s v u, (limb_1_1.after args s (.returned v) u = true ∧ limb_1_2.after args s (.returned v) u = true ∧ True) → FrameEnd s (.returned v) u (Jvm.fieldLocs frame_1_writes args s ++ Jvm.arrayLocs frame_1_arrays args s ++ Jvm.staticLocs frame_1_statics s) 16 128 → Post tb e args s (.returned v) u) :
    ArmFor flags0 classFile x code maxLocals ret World_1 tables_1 room_1 Calls_1 rest_1 Pre_1 Post := by
  intro l hfl _ _ p e ha hc hk s m args below hf hA hF happ hP
  obtain ⟨hcalls, hrest, hpre⟩ := hP
  obtain ⟨-, -, -, hnamed, -, -, -, hat⟩ := (Spec.applies_iff hf).mp happ
  obtain ⟨hg, hn⟩ := and_e (Cond.before_iff.mp (show (Jvm.Cond.and given_1 narrow_1).before args s = true from hpre))
  obtain ⟨gv1, gv2⟩ := and_e hg
  obtain ⟨gv3, gv4⟩ := and_e gv2
  obtain ⟨gv5, gv6⟩ := and_e gv4
  obtain ⟨gv7, gv8⟩ := and_e gv6
  obtain ⟨gv9, gv10⟩ := and_e gv8
  obtain ⟨gv11, gv12⟩ := and_e gv10
  obtain ⟨w0, w1, w2, w3, w4, w5, rfl⟩ : ∃ w0 w1 w2 w3 w4 w5 : Value, args = #[w0, w1, w2, w3, w4, w5] := by
    have hs : args.size = 6 := by simpa [Cond.value, given_1] using gv1
    obtain ⟨L⟩ := args
    match L, hs with
    | [w0, w1, w2, w3, w4, w5], _ => exact ⟨w0, w1, w2, w3, w4, w5, rfl⟩
  have hw := fun d (hd : d ∈ tables_1) => atoms_spec (ws := Jvm.Cond.code x code maxLocals ret :: tables_1) hat d (List.mem_cons_of_mem _ hd)
  have hfit : Fit s := fun {y c} hc i hi => by
    obtain ⟨ha, rfl⟩ := Array.getElem?_eq_some_iff.mp hc
    have q := List.all_eq_true.mp ((Array.all_eq_true_iff_forall_mem.mp hF) _ (Array.getElem_mem ha)) i (List.mem_range.mpr hi)
    simpa [Array.getElem?_eq_getElem hi] using q
  obtain ⟨hsets, hown0⟩ := atoms_of _ (rest_1_c_eq ▸ (show rest_1_c.before _ s = true from hrest))
  have hr0 := Cond.before_iff.mp hown0
  obtain ⟨i0, ei0⟩ := is_v gv3
  obtain rfl : w0 = (.int i0) := Option.some.inj ei0
  obtain ⟨i1, ei1⟩ := isL_v gv5
  obtain rfl : w1 = (.long i1) := Option.some.inj ei1
  obtain ⟨i2, ei2⟩ := isL_v gv7
  obtain rfl : w2 = (.long i2) := Option.some.inj ei2
  obtain ⟨i3, ei3⟩ := is_v gv9
  obtain rfl : w3 = (.int i3) := Option.some.inj ei3
  obtain ⟨i4, ei4⟩ := is_v gv11
  obtain rfl : w4 = (.int i4) := Option.some.inj ei4
  obtain ⟨i5, ei5⟩ := isL_v gv12
  obtain rfl : w5 = (.long i5) := Option.some.inj ei5
  obtain ⟨caI, tcI⟩ := arr_v (Cond.before_iff.mp (hsets _ (List.mem_of_getElem? (i := 4) rfl)))
  obtain ⟨ccI, ACI⟩ := Arr.start tcI (Cond.before_iff.mp (hsets _ (List.mem_of_getElem? (i := 4) rfl)))
  have SCI := Sta.start tcI (Or.inr ⟨hw _ (List.mem_of_getElem? (i := 20) rfl), hsets _ (List.mem_of_getElem? (i := 2) rfl)⟩)
  obtain ⟨lnI, lmI⟩ := own_len tcI ACI (Cond.before_iff.mp (hsets _ (List.mem_of_getElem? (i := 6) rfl)))
  have NCI : ccI.slots.size = 256 := by have q := congrArg Int32.toInt lnI; rw [len_toInt lmI] at q; exact Int.ofNat.inj q
  have ECI := own_all tcI ACI (Cond.before_iff.mp (hsets _ (List.mem_of_getElem? (i := 7) rfl))) lmI (fun _ => tcI)
  rw [NCI] at ECI
  have SHI := Sta.start (own_stat (Cond.before_iff.mp (hsets _ (List.mem_of_getElem? (i := 3) rfl)))) (Or.inl (hsets _ (List.mem_of_getElem? (i := 1) rfl)))
  obtain ⟨n, o, h1, h2, h3, _, L, rfl, ⟨rfl, N⟩, hq⟩ := rm_law l s _ hw tables_1 i0 i1 i2 i3 i4 i5 caI ccI s.heap s.heap.size (Nat.le_refl _) (Old.start s) SCI ACI NCI ECI SHI p e ha hc hk s m _ below hf ((Spec.applies_iff_loose hf).mp happ).1 ⟨rfl, State.Warmed39.refl s, rfl⟩ trivial
  refine ⟨n, _, h1, h2, h3, hpost _ _ _ _ _ _ ⟨Cond.after_iff.mpr rfl, Cond.after_iff.mpr (eq_i res_at (Term.int_eval (1)) rfl), trivial⟩ ⟨hq.1, hq.2.1, (hq.2.2.sift fun y hy => Or.inr (N y hy)).mono (by decide) (by decide)⟩⟩
theorem main_1_1 : Claimed_1_1 := comes_1 fun _ _ _ _ _ _ h hF => ⟨h.1, hF⟩
theorem main_1_2 : Claimed_1_2 := comes_1 fun _ _ _ _ _ _ h hF => ⟨h.2.1, hF⟩
end Jvm.Pilot.@@N@@
namespace Jvm.Pilot.@@N@@
open Jvm Jvm.ClassFile Sem Op Lib Jvm.Free Jvm.Stand Jvm.Pilot.@@N@@.Jvm.D
/-! MADE BY PROGRAM (witnessworld.py) out of the Statement's table words and the real class files: 16 classes; the members and pool entries that the words name. The judged class is class 1, her method 1. -/
namespace start1
open Jvm.ClassFile
def u (s : String) : CpInfo := .utf8 (stringToUtf16 s)
/-- a pool by its gaps: so many unusable entries, then the entry; so many at the end -/
def gap : Nat → List CpInfo → List CpInfo
  | 0, r => r
  | n + 1, r => .unusable :: gap n r
def poolList (es : List (Nat × CpInfo)) (last : Nat) : List CpInfo := es.foldr (fun e r => gap e.1 (e.2 :: r)) (gap last [])
def pool (es : List (Nat × CpInfo)) (last : Nat) : Array CpInfo := ⟨poolList es last⟩
def fileOf (pool : Array CpInfo) (this : Nat) (attrs : Array Attribute := #[]) (ms : Array MethodInfo := #[]) (fl : Nat := 33) (sup : Nat := 0) (ifs : Array Nat := #[]) (fds : Array FieldInfo := #[]) : ClassFile where
  minorVersion := 0
  majorVersion := 65
  constantPool := pool
  accessFlags := fl
  thisClass := this
  superClass := sup
  interfaces := ifs
  fields := fds
  methods := ms
  attributes := attrs
def plain (name : String) (sup : Option ClassId) : Class where
  name := name
  kind := .ordinary
  loader := none
  accessFlags := 33
  super := sup
  interfaces := #[]
  cf := none
  fields := #[]
  methods := #[]
  instanceTypes := #[]
  staticTypes := #[]
  resolved := #[]
  callSites := []
  init := .initialized
  statics := none
  mirror := none

def pool0 : Array CpInfo := pool [(5, u "<init>"), (0, u "()V"), (1, .class_ 10), (1, u "java/lang/Object")] 113

def k0c0 : Code := { maxStack := 0, maxLocals := 1, code := object_method_1_code, exceptionTable := #[], attributes := #[] }
def k0m0 : Method := { name := "<init>", desc := "()V", sig := { parameters := [], returnType := none }, accessFlags := 1, code := some k0c0 }
/-- java/lang/Object -/
def k0 : Class := { plain "java/lang/Object" none with
  accessFlags := 33
  interfaces := #[]
  cf := some (fileOf pool0 8 #[] #[{ accessFlags := 1, nameIndex := 5, descriptorIndex := 6, attributes := #[] }] 33 0 #[] #[])
  fields := #[]
  methods := #[k0m0]
  instanceTypes := #[]
  staticTypes := #[]
  resolved := Array.replicate 124 none
  statics := none }

def pool1 : Array CpInfo := pool [(2, .class_ 4), (1, u "java/lang/Object"), (0, u "<init>"), (0, u "()V"), (0, .class_ 8), (0, u "com/example/bound_quorum/boundquorum/replication/Vote"), (0, .methodref 7 10), (0, .nameAndType 5 11), (0, u "(IJJ)V"), (0, .methodref 13 14), (0, .class_ 15), (0, .nameAndType 16 17), (0, u "java/lang/Integer"), (0, u "valueOf"), (0, u "(I)Ljava/lang/Integer;"), (0, .methodref 7 19), (0, .nameAndType 20 21), (0, u "equals"), (0, u "(Ljava/lang/Object;)Z"), (0, .class_ 23), (0, u "com/example/bound_quorum/boundquorum/replication/VoteEqualsPinLaw"), (2, u "law"), (0, u "(IJJIIJ)Z")] 3

def k1m0 : Method := { name := "<init>", desc := "()V", sig := { parameters := [], returnType := none }, accessFlags := 1, code := none }
def k1c1 : Code := { maxStack := 7, maxLocals := 19, code := code, exceptionTable := #[], attributes := #[] }
def k1m1 : Method := { name := "law", desc := "(IJJIIJ)Z", sig := { parameters := [.int, .long, .long, .int, .int, .long], returnType := some .boolean }, accessFlags := 9, code := some k1c1 }
/-- com/example/bound_quorum/boundquorum/replication/VoteEqualsPinLaw -/
def k1 : Class := { plain "com/example/bound_quorum/boundquorum/replication/VoteEqualsPinLaw" (some 0) with
  accessFlags := 49
  interfaces := #[]
  cf := some (fileOf pool1 22 #[] #[{ accessFlags := 1, nameIndex := 5, descriptorIndex := 6, attributes := #[] }, { accessFlags := 9, nameIndex := 26, descriptorIndex := 27, attributes := #[] }] 49 2 #[] #[])
  fields := #[]
  methods := #[k1m0, k1m1]
  instanceTypes := #[]
  staticTypes := #[]
  resolved := Array.replicate 31 none
  statics := none }

def pool2 : Array CpInfo := pool [(1, .methodref 2 3), (0, .class_ 4), (0, .nameAndType 5 6), (0, u "java/lang/Object"), (0, u "<init>"), (0, u "()V"), (0, .fieldref 8 9), (0, .class_ 10), (0, .nameAndType 11 12), (0, u "com/example/bound_quorum/boundquorum/replication/Vote"), (0, u "leader"), (0, u "I"), (0, .fieldref 8 14), (0, .nameAndType 15 16), (0, u "epoch"), (0, u "J"), (0, .fieldref 8 18), (0, .nameAndType 19 16), (0, u "zxid"), (25, u "(IJJ)V"), (9, u "equals"), (0, u "(Ljava/lang/Object;)Z")] 5

def k2c0 : Code := { maxStack := 3, maxLocals := 6, code := prog_29_method_1_code, exceptionTable := #[], attributes := #[] }
def k2m0 : Method := { name := "<init>", desc := "(IJJ)V", sig := { parameters := [.int, .long, .long], returnType := none }, accessFlags := 0, code := some k2c0 }
def k2c1 : Code := { maxStack := 4, maxLocals := 3, code := prog_29_method_7_code, exceptionTable := #[], attributes := #[] }
def k2m1 : Method := { name := "equals", desc := "(Ljava/lang/Object;)Z", sig := { parameters := [(.object "java/lang/Object")], returnType := some .boolean }, accessFlags := 1, code := some k2c1 }
/-- com/example/bound_quorum/boundquorum/replication/Vote -/
def k2 : Class := { plain "com/example/bound_quorum/boundquorum/replication/Vote" (some 0) with
  accessFlags := 48
  interfaces := #[]
  cf := some (fileOf pool2 8 #[] #[{ accessFlags := 0, nameIndex := 5, descriptorIndex := 45, attributes := #[] }, { accessFlags := 1, nameIndex := 55, descriptorIndex := 56, attributes := #[] }] 48 2 #[] #[{ accessFlags := 18, nameIndex := 11, descriptorIndex := 12, attributes := #[] }, { accessFlags := 18, nameIndex := 15, descriptorIndex := 16, attributes := #[] }, { accessFlags := 18, nameIndex := 19, descriptorIndex := 16, attributes := #[] }])
  fields := #[{ name := "leader", type := .int, accessFlags := 18, slot := 0, constantValue := 0 }, { name := "epoch", type := .long, accessFlags := 18, slot := 1, constantValue := 0 }, { name := "zxid", type := .long, accessFlags := 18, slot := 2, constantValue := 0 }]
  methods := #[k2m0, k2m1]
  instanceTypes := #[.int, .long, .long]
  staticTypes := #[]
  resolved := Array.replicate 62 none
  statics := none }

def pool3 : Array CpInfo := pool [(1, .class_ 2), (0, u "java/io/Serializable"), (0, .class_ 4), (0, u "java/lang/Object")] 2

/-- java/io/Serializable -/
def k3 : Class := { plain "java/io/Serializable" (some 0) with
  accessFlags := 1537
  interfaces := #[]
  cf := some (fileOf pool3 1 #[] #[] 1537 3 #[] #[])
  fields := #[]
  methods := #[]
  instanceTypes := #[]
  staticTypes := #[]
  resolved := Array.replicate 7 none
  statics := none }

def pool4 : Array CpInfo := pool [(1, .methodref 2 3), (0, .class_ 4), (0, .nameAndType 5 6), (0, u "java/lang/Object"), (0, u "<init>"), (0, u "()V"), (1, .class_ 10), (1, u "java/lang/Number"), (2, .class_ 14), (0, u "java/io/Serializable"), (0, u "serialVersionUID"), (0, u "J")] 20

def k4c0 : Code := { maxStack := 1, maxLocals := 1, code := jdk_18_method_1_code, exceptionTable := #[], attributes := #[] }
def k4m0 : Method := { name := "<init>", desc := "()V", sig := { parameters := [], returnType := none }, accessFlags := 1, code := some k4c0 }
/-- java/lang/Number -/
def k4 : Class := { plain "java/lang/Number" (some 0) with
  accessFlags := 1057
  interfaces := #[3]
  cf := some (fileOf pool4 8 #[] #[{ accessFlags := 1, nameIndex := 5, descriptorIndex := 6, attributes := #[] }] 1057 2 #[13] #[{ accessFlags := 26, nameIndex := 15, descriptorIndex := 16, attributes := #[] }])
  fields := #[{ name := "serialVersionUID", type := .long, accessFlags := 26, slot := 0, constantValue := 0 }]
  methods := #[k4m0]
  instanceTypes := #[]
  staticTypes := #[.long]
  resolved := Array.replicate 37 none
  statics := none }

def pool5 : Array CpInfo := pool [(1, .class_ 2), (0, u "java/lang/Comparable"), (0, .class_ 4), (0, u "java/lang/Object")] 7

/-- java/lang/Comparable -/
def k5 : Class := { plain "java/lang/Comparable" (some 0) with
  accessFlags := 1537
  interfaces := #[]
  cf := some (fileOf pool5 1 #[] #[] 1537 3 #[] #[])
  fields := #[]
  methods := #[]
  instanceTypes := #[]
  staticTypes := #[]
  resolved := Array.replicate 12 none
  statics := none }

def pool6 : Array CpInfo := pool [(1, .class_ 2), (0, u "java/lang/constant/Constable"), (0, .class_ 4), (0, u "java/lang/Object")] 6

/-- java/lang/constant/Constable -/
def k6 : Class := { plain "java/lang/constant/Constable" (some 0) with
  accessFlags := 1537
  interfaces := #[]
  cf := some (fileOf pool6 1 #[] #[] 1537 3 #[] #[])
  fields := #[]
  methods := #[]
  instanceTypes := #[]
  staticTypes := #[]
  resolved := Array.replicate 11 none
  statics := none }

def pool7 : Array CpInfo := pool [(1, .class_ 2), (0, u "java/lang/constant/ConstantDesc"), (0, .class_ 4), (0, u "java/lang/Object")] 32

/-- java/lang/constant/ConstantDesc -/
def k7 : Class := { plain "java/lang/constant/ConstantDesc" (some 0) with
  accessFlags := 1537
  interfaces := #[]
  cf := some (fileOf pool7 1 #[] #[] 1537 3 #[] #[])
  fields := #[]
  methods := #[]
  instanceTypes := #[]
  staticTypes := #[]
  resolved := Array.replicate 37 none
  statics := none }

def pool8 : Array CpInfo := pool [(1, .class_ 2), (0, u "java/lang/Integer"), (16, u "digits"), (0, u "[C"), (46, u "<init>"), (17, u "DigitOnes"), (0, u "[B"), (2, u "DigitTens"), (10, .nameAndType 67 101), (0, u "()V"), (85, u "valueOf"), (0, u "(I)Ljava/lang/Integer;"), (0, .class_ 190), (0, u "java/lang/Integer$IntegerCache"), (0, .fieldref 189 192), (0, .nameAndType 193 194), (0, u "high"), (0, u "I"), (0, .fieldref 189 196), (0, .nameAndType 197 198), (0, u "cache"), (0, u "[Ljava/lang/Integer;"), (0, .methodref 1 200), (0, .nameAndType 67 201), (0, u "(I)V"), (0, .methodref 203 100), (0, .class_ 204), (0, u "java/lang/Number"), (0, .fieldref 1 206), (0, .nameAndType 207 194), (0, u "value"), (94, u "TYPE"), (0, u "Ljava/lang/Class;"), (0, .class_ 305), (0, u "java/lang/Comparable"), (0, .class_ 307), (0, u "java/lang/constant/Constable"), (0, .class_ 309), (0, u "java/lang/constant/ConstantDesc"), (0, u "MIN_VALUE"), (1, u "MAX_VALUE"), (3, u "SIZE"), (1, u "BYTES"), (1, u "serialVersionUID"), (0, u "J")] 131

def k8c0 : Code := { maxStack := 3, maxLocals := 1, code := jdk_33_method_22_code, exceptionTable := #[], attributes := #[] }
def k8m0 : Method := { name := "valueOf", desc := "(I)Ljava/lang/Integer;", sig := { parameters := [.int], returnType := some (.object "java/lang/Integer") }, accessFlags := 9, code := some k8c0 }
def k8c1 : Code := { maxStack := 2, maxLocals := 2, code := jdk_33_method_23_code, exceptionTable := #[], attributes := #[] }
def k8m1 : Method := { name := "<init>", desc := "(I)V", sig := { parameters := [.int], returnType := none }, accessFlags := 1, code := some k8c1 }
/-- java/lang/Integer -/
def k8 : Class := { plain "java/lang/Integer" (some 4) with
  accessFlags := 49
  interfaces := #[5, 6, 7]
  cf := some (fileOf pool8 1 #[.nestMembers #[189]] #[{ accessFlags := 9, nameIndex := 187, descriptorIndex := 188, attributes := #[] }, { accessFlags := 1, nameIndex := 67, descriptorIndex := 201, attributes := #[] }] 49 203 #[304, 306, 308] #[{ accessFlags := 25, nameIndex := 310, descriptorIndex := 194, attributes := #[] }, { accessFlags := 25, nameIndex := 312, descriptorIndex := 194, attributes := #[] }, { accessFlags := 25, nameIndex := 302, descriptorIndex := 303, attributes := #[] }, { accessFlags := 24, nameIndex := 19, descriptorIndex := 20, attributes := #[] }, { accessFlags := 24, nameIndex := 89, descriptorIndex := 86, attributes := #[] }, { accessFlags := 24, nameIndex := 85, descriptorIndex := 86, attributes := #[] }, { accessFlags := 18, nameIndex := 207, descriptorIndex := 194, attributes := #[] }, { accessFlags := 25, nameIndex := 316, descriptorIndex := 194, attributes := #[] }, { accessFlags := 25, nameIndex := 318, descriptorIndex := 194, attributes := #[] }, { accessFlags := 26, nameIndex := 320, descriptorIndex := 321, attributes := #[] }])
  fields := #[{ name := "MIN_VALUE", type := .int, accessFlags := 25, slot := 0, constantValue := 0 }, { name := "MAX_VALUE", type := .int, accessFlags := 25, slot := 1, constantValue := 0 }, { name := "TYPE", type := (.object "java/lang/Class"), accessFlags := 25, slot := 2, constantValue := 0 }, { name := "digits", type := (.array .char), accessFlags := 24, slot := 3, constantValue := 0 }, { name := "DigitTens", type := (.array .byte), accessFlags := 24, slot := 4, constantValue := 0 }, { name := "DigitOnes", type := (.array .byte), accessFlags := 24, slot := 5, constantValue := 0 }, { name := "value", type := .int, accessFlags := 18, slot := 0, constantValue := 0 }, { name := "SIZE", type := .int, accessFlags := 25, slot := 6, constantValue := 0 }, { name := "BYTES", type := .int, accessFlags := 25, slot := 7, constantValue := 0 }, { name := "serialVersionUID", type := .long, accessFlags := 26, slot := 8, constantValue := 0 }]
  methods := #[k8m0, k8m1]
  instanceTypes := #[.int]
  staticTypes := #[.int, .int, (.object "java/lang/Class"), (.array .char), (.array .byte), (.array .byte), .int, .int, .long]
  resolved := Array.replicate 453 none
  statics := none }

def pool9 : Array CpInfo := pool [(2, .class_ 4), (1, u "java/lang/Object"), (0, u "<init>"), (0, u "()V"), (0, .class_ 8), (0, u "java/lang/Integer"), (7, .class_ 18), (1, u "java/lang/Integer$IntegerCache"), (0, u "$assertionsDisabled"), (0, u "Z"), (26, u "high"), (0, u "I"), (8, u "archivedCache"), (0, u "[Ljava/lang/Integer;"), (12, u "cache"), (0, u "low")] 27

def k9m0 : Method := { name := "<init>", desc := "()V", sig := { parameters := [], returnType := none }, accessFlags := 2, code := none }
/-- java/lang/Integer$IntegerCache -/
def k9 : Class := { plain "java/lang/Integer$IntegerCache" (some 0) with
  accessFlags := 48
  interfaces := #[]
  cf := some (fileOf pool9 16 #[.nestHost 7] #[{ accessFlags := 2, nameIndex := 5, descriptorIndex := 6, attributes := #[] }] 48 2 #[] #[{ accessFlags := 24, nameIndex := 72, descriptorIndex := 48, attributes := #[] }, { accessFlags := 24, nameIndex := 47, descriptorIndex := 48, attributes := #[] }, { accessFlags := 24, nameIndex := 71, descriptorIndex := 58, attributes := #[] }, { accessFlags := 8, nameIndex := 57, descriptorIndex := 58, attributes := #[] }, { accessFlags := 4120, nameIndex := 19, descriptorIndex := 20, attributes := #[] }])
  fields := #[{ name := "low", type := .int, accessFlags := 24, slot := 0, constantValue := 0 }, { name := "high", type := .int, accessFlags := 24, slot := 1, constantValue := 0 }, { name := "cache", type := (.array (.object "java/lang/Integer")), accessFlags := 24, slot := 2, constantValue := 0 }, { name := "archivedCache", type := (.array (.object "java/lang/Integer")), accessFlags := 8, slot := 3, constantValue := 0 }, { name := "$assertionsDisabled", type := .boolean, accessFlags := 4120, slot := 4, constantValue := 0 }]
  methods := #[k9m0]
  instanceTypes := #[]
  staticTypes := #[.int, .int, (.array (.object "java/lang/Integer")), (.array (.object "java/lang/Integer")), .boolean]
  resolved := Array.replicate 100 none
  statics := some 0 }

def pool10 : Array CpInfo := pool [(1, u "java/lang/Cloneable"), (0, .class_ 1), (0, u "java/lang/Object"), (0, .class_ 3)] 3

/-- java/lang/Cloneable -/
def k10 : Class := { plain "java/lang/Cloneable" (some 0) with
  accessFlags := 1537
  interfaces := #[]
  cf := some (fileOf pool10 2 #[] #[] 1537 4 #[] #[])
  fields := #[]
  methods := #[]
  instanceTypes := #[]
  staticTypes := #[]
  resolved := Array.replicate 8 none
  statics := none }

/-- the primitive byte -/
def k11 : Class := { plain "byte" none with kind := .primitive 'B', accessFlags := 0x411 }
/-- [B -/
def k12 : Class := { plain "[B" (some 0) with kind := .array 11 .byte, interfaces := #[10, 3], accessFlags := 1041 }

/-- the primitive int -/
def k13 : Class := { plain "int" none with kind := .primitive 'I', accessFlags := 0x411 }
/-- [I -/
def k14 : Class := { plain "[I" (some 0) with kind := .array 13 .int, interfaces := #[10, 3], accessFlags := 1041 }

/-- [Ljava/lang/Integer; -/
def k15 : Class := { plain "[Ljava/lang/Integer;" (some 0) with kind := .array 8 (.object "java/lang/Integer"), interfaces := #[10, 3], accessFlags := 1041 }

def heap : Heap := #[{ cls := 9, slots := #[.int 0, .int 127, .ref 1, .null, .int 0], vm := .statics 9 },
  { cls := 15, slots := #[.ref 2, .ref 3, .ref 4, .ref 5, .ref 6, .ref 7, .ref 8, .ref 9, .ref 10, .ref 11, .ref 12, .ref 13, .ref 14, .ref 15, .ref 16, .ref 17, .ref 18, .ref 19, .ref 20, .ref 21, .ref 22, .ref 23, .ref 24, .ref 25, .ref 26, .ref 27, .ref 28, .ref 29, .ref 30, .ref 31, .ref 32, .ref 33, .ref 34, .ref 35, .ref 36, .ref 37, .ref 38, .ref 39, .ref 40, .ref 41, .ref 42, .ref 43, .ref 44, .ref 45, .ref 46, .ref 47, .ref 48, .ref 49, .ref 50, .ref 51, .ref 52, .ref 53, .ref 54, .ref 55, .ref 56, .ref 57, .ref 58, .ref 59, .ref 60, .ref 61, .ref 62, .ref 63, .ref 64, .ref 65, .ref 66, .ref 67, .ref 68, .ref 69, .ref 70, .ref 71, .ref 72, .ref 73, .ref 74, .ref 75, .ref 76, .ref 77, .ref 78, .ref 79, .ref 80, .ref 81, .ref 82, .ref 83, .ref 84, .ref 85, .ref 86, .ref 87, .ref 88, .ref 89, .ref 90, .ref 91, .ref 92, .ref 93, .ref 94, .ref 95, .ref 96, .ref 97, .ref 98, .ref 99, .ref 100, .ref 101, .ref 102, .ref 103, .ref 104, .ref 105, .ref 106, .ref 107, .ref 108, .ref 109, .ref 110, .ref 111, .ref 112, .ref 113, .ref 114, .ref 115, .ref 116, .ref 117, .ref 118, .ref 119, .ref 120, .ref 121, .ref 122, .ref 123, .ref 124, .ref 125, .ref 126, .ref 127, .ref 128, .ref 129, .ref 130, .ref 131, .ref 132, .ref 133, .ref 134, .ref 135, .ref 136, .ref 137, .ref 138, .ref 139, .ref 140, .ref 141, .ref 142, .ref 143, .ref 144, .ref 145, .ref 146, .ref 147, .ref 148, .ref 149, .ref 150, .ref 151, .ref 152, .ref 153, .ref 154, .ref 155, .ref 156, .ref 157, .ref 158, .ref 159, .ref 160, .ref 161, .ref 162, .ref 163, .ref 164, .ref 165, .ref 166, .ref 167, .ref 168, .ref 169, .ref 170, .ref 171, .ref 172, .ref 173, .ref 174, .ref 175, .ref 176, .ref 177, .ref 178, .ref 179, .ref 180, .ref 181, .ref 182, .ref 183, .ref 184, .ref 185, .ref 186, .ref 187, .ref 188, .ref 189, .ref 190, .ref 191, .ref 192, .ref 193, .ref 194, .ref 195, .ref 196, .ref 197, .ref 198, .ref 199, .ref 200, .ref 201, .ref 202, .ref 203, .ref 204, .ref 205, .ref 206, .ref 207, .ref 208, .ref 209, .ref 210, .ref 211, .ref 212, .ref 213, .ref 214, .ref 215, .ref 216, .ref 217, .ref 218, .ref 219, .ref 220, .ref 221, .ref 222, .ref 223, .ref 224, .ref 225, .ref 226, .ref 227, .ref 228, .ref 229, .ref 230, .ref 231, .ref 232, .ref 233, .ref 234, .ref 235, .ref 236, .ref 237, .ref 238, .ref 239, .ref 240, .ref 241, .ref 242, .ref 243, .ref 244, .ref 245, .ref 246, .ref 247, .ref 248, .ref 249, .ref 250, .ref 251, .ref 252, .ref 253, .ref 254, .ref 255, .ref 256, .ref 257], vm := .none },
  { cls := 8, slots := #[.int (-128)], vm := .none },
  { cls := 8, slots := #[.int (-127)], vm := .none },
  { cls := 8, slots := #[.int (-126)], vm := .none },
  { cls := 8, slots := #[.int (-125)], vm := .none },
  { cls := 8, slots := #[.int (-124)], vm := .none },
  { cls := 8, slots := #[.int (-123)], vm := .none },
  { cls := 8, slots := #[.int (-122)], vm := .none },
  { cls := 8, slots := #[.int (-121)], vm := .none },
  { cls := 8, slots := #[.int (-120)], vm := .none },
  { cls := 8, slots := #[.int (-119)], vm := .none },
  { cls := 8, slots := #[.int (-118)], vm := .none },
  { cls := 8, slots := #[.int (-117)], vm := .none },
  { cls := 8, slots := #[.int (-116)], vm := .none },
  { cls := 8, slots := #[.int (-115)], vm := .none },
  { cls := 8, slots := #[.int (-114)], vm := .none },
  { cls := 8, slots := #[.int (-113)], vm := .none },
  { cls := 8, slots := #[.int (-112)], vm := .none },
  { cls := 8, slots := #[.int (-111)], vm := .none },
  { cls := 8, slots := #[.int (-110)], vm := .none },
  { cls := 8, slots := #[.int (-109)], vm := .none },
  { cls := 8, slots := #[.int (-108)], vm := .none },
  { cls := 8, slots := #[.int (-107)], vm := .none },
  { cls := 8, slots := #[.int (-106)], vm := .none },
  { cls := 8, slots := #[.int (-105)], vm := .none },
  { cls := 8, slots := #[.int (-104)], vm := .none },
  { cls := 8, slots := #[.int (-103)], vm := .none },
  { cls := 8, slots := #[.int (-102)], vm := .none },
  { cls := 8, slots := #[.int (-101)], vm := .none },
  { cls := 8, slots := #[.int (-100)], vm := .none },
  { cls := 8, slots := #[.int (-99)], vm := .none },
  { cls := 8, slots := #[.int (-98)], vm := .none },
  { cls := 8, slots := #[.int (-97)], vm := .none },
  { cls := 8, slots := #[.int (-96)], vm := .none },
  { cls := 8, slots := #[.int (-95)], vm := .none },
  { cls := 8, slots := #[.int (-94)], vm := .none },
  { cls := 8, slots := #[.int (-93)], vm := .none },
  { cls := 8, slots := #[.int (-92)], vm := .none },
  { cls := 8, slots := #[.int (-91)], vm := .none },
  { cls := 8, slots := #[.int (-90)], vm := .none },
  { cls := 8, slots := #[.int (-89)], vm := .none },
  { cls := 8, slots := #[.int (-88)], vm := .none },
  { cls := 8, slots := #[.int (-87)], vm := .none },
  { cls := 8, slots := #[.int (-86)], vm := .none },
  { cls := 8, slots := #[.int (-85)], vm := .none },
  { cls := 8, slots := #[.int (-84)], vm := .none },
  { cls := 8, slots := #[.int (-83)], vm := .none },
  { cls := 8, slots := #[.int (-82)], vm := .none },
  { cls := 8, slots := #[.int (-81)], vm := .none },
  { cls := 8, slots := #[.int (-80)], vm := .none },
  { cls := 8, slots := #[.int (-79)], vm := .none },
  { cls := 8, slots := #[.int (-78)], vm := .none },
  { cls := 8, slots := #[.int (-77)], vm := .none },
  { cls := 8, slots := #[.int (-76)], vm := .none },
  { cls := 8, slots := #[.int (-75)], vm := .none },
  { cls := 8, slots := #[.int (-74)], vm := .none },
  { cls := 8, slots := #[.int (-73)], vm := .none },
  { cls := 8, slots := #[.int (-72)], vm := .none },
  { cls := 8, slots := #[.int (-71)], vm := .none },
  { cls := 8, slots := #[.int (-70)], vm := .none },
  { cls := 8, slots := #[.int (-69)], vm := .none },
  { cls := 8, slots := #[.int (-68)], vm := .none },
  { cls := 8, slots := #[.int (-67)], vm := .none },
  { cls := 8, slots := #[.int (-66)], vm := .none },
  { cls := 8, slots := #[.int (-65)], vm := .none },
  { cls := 8, slots := #[.int (-64)], vm := .none },
  { cls := 8, slots := #[.int (-63)], vm := .none },
  { cls := 8, slots := #[.int (-62)], vm := .none },
  { cls := 8, slots := #[.int (-61)], vm := .none },
  { cls := 8, slots := #[.int (-60)], vm := .none },
  { cls := 8, slots := #[.int (-59)], vm := .none },
  { cls := 8, slots := #[.int (-58)], vm := .none },
  { cls := 8, slots := #[.int (-57)], vm := .none },
  { cls := 8, slots := #[.int (-56)], vm := .none },
  { cls := 8, slots := #[.int (-55)], vm := .none },
  { cls := 8, slots := #[.int (-54)], vm := .none },
  { cls := 8, slots := #[.int (-53)], vm := .none },
  { cls := 8, slots := #[.int (-52)], vm := .none },
  { cls := 8, slots := #[.int (-51)], vm := .none },
  { cls := 8, slots := #[.int (-50)], vm := .none },
  { cls := 8, slots := #[.int (-49)], vm := .none },
  { cls := 8, slots := #[.int (-48)], vm := .none },
  { cls := 8, slots := #[.int (-47)], vm := .none },
  { cls := 8, slots := #[.int (-46)], vm := .none },
  { cls := 8, slots := #[.int (-45)], vm := .none },
  { cls := 8, slots := #[.int (-44)], vm := .none },
  { cls := 8, slots := #[.int (-43)], vm := .none },
  { cls := 8, slots := #[.int (-42)], vm := .none },
  { cls := 8, slots := #[.int (-41)], vm := .none },
  { cls := 8, slots := #[.int (-40)], vm := .none },
  { cls := 8, slots := #[.int (-39)], vm := .none },
  { cls := 8, slots := #[.int (-38)], vm := .none },
  { cls := 8, slots := #[.int (-37)], vm := .none },
  { cls := 8, slots := #[.int (-36)], vm := .none },
  { cls := 8, slots := #[.int (-35)], vm := .none },
  { cls := 8, slots := #[.int (-34)], vm := .none },
  { cls := 8, slots := #[.int (-33)], vm := .none },
  { cls := 8, slots := #[.int (-32)], vm := .none },
  { cls := 8, slots := #[.int (-31)], vm := .none },
  { cls := 8, slots := #[.int (-30)], vm := .none },
  { cls := 8, slots := #[.int (-29)], vm := .none },
  { cls := 8, slots := #[.int (-28)], vm := .none },
  { cls := 8, slots := #[.int (-27)], vm := .none },
  { cls := 8, slots := #[.int (-26)], vm := .none },
  { cls := 8, slots := #[.int (-25)], vm := .none },
  { cls := 8, slots := #[.int (-24)], vm := .none },
  { cls := 8, slots := #[.int (-23)], vm := .none },
  { cls := 8, slots := #[.int (-22)], vm := .none },
  { cls := 8, slots := #[.int (-21)], vm := .none },
  { cls := 8, slots := #[.int (-20)], vm := .none },
  { cls := 8, slots := #[.int (-19)], vm := .none },
  { cls := 8, slots := #[.int (-18)], vm := .none },
  { cls := 8, slots := #[.int (-17)], vm := .none },
  { cls := 8, slots := #[.int (-16)], vm := .none },
  { cls := 8, slots := #[.int (-15)], vm := .none },
  { cls := 8, slots := #[.int (-14)], vm := .none },
  { cls := 8, slots := #[.int (-13)], vm := .none },
  { cls := 8, slots := #[.int (-12)], vm := .none },
  { cls := 8, slots := #[.int (-11)], vm := .none },
  { cls := 8, slots := #[.int (-10)], vm := .none },
  { cls := 8, slots := #[.int (-9)], vm := .none },
  { cls := 8, slots := #[.int (-8)], vm := .none },
  { cls := 8, slots := #[.int (-7)], vm := .none },
  { cls := 8, slots := #[.int (-6)], vm := .none },
  { cls := 8, slots := #[.int (-5)], vm := .none },
  { cls := 8, slots := #[.int (-4)], vm := .none },
  { cls := 8, slots := #[.int (-3)], vm := .none },
  { cls := 8, slots := #[.int (-2)], vm := .none },
  { cls := 8, slots := #[.int (-1)], vm := .none },
  { cls := 8, slots := #[.int (0)], vm := .none },
  { cls := 8, slots := #[.int (1)], vm := .none },
  { cls := 8, slots := #[.int (2)], vm := .none },
  { cls := 8, slots := #[.int (3)], vm := .none },
  { cls := 8, slots := #[.int (4)], vm := .none },
  { cls := 8, slots := #[.int (5)], vm := .none },
  { cls := 8, slots := #[.int (6)], vm := .none },
  { cls := 8, slots := #[.int (7)], vm := .none },
  { cls := 8, slots := #[.int (8)], vm := .none },
  { cls := 8, slots := #[.int (9)], vm := .none },
  { cls := 8, slots := #[.int (10)], vm := .none },
  { cls := 8, slots := #[.int (11)], vm := .none },
  { cls := 8, slots := #[.int (12)], vm := .none },
  { cls := 8, slots := #[.int (13)], vm := .none },
  { cls := 8, slots := #[.int (14)], vm := .none },
  { cls := 8, slots := #[.int (15)], vm := .none },
  { cls := 8, slots := #[.int (16)], vm := .none },
  { cls := 8, slots := #[.int (17)], vm := .none },
  { cls := 8, slots := #[.int (18)], vm := .none },
  { cls := 8, slots := #[.int (19)], vm := .none },
  { cls := 8, slots := #[.int (20)], vm := .none },
  { cls := 8, slots := #[.int (21)], vm := .none },
  { cls := 8, slots := #[.int (22)], vm := .none },
  { cls := 8, slots := #[.int (23)], vm := .none },
  { cls := 8, slots := #[.int (24)], vm := .none },
  { cls := 8, slots := #[.int (25)], vm := .none },
  { cls := 8, slots := #[.int (26)], vm := .none },
  { cls := 8, slots := #[.int (27)], vm := .none },
  { cls := 8, slots := #[.int (28)], vm := .none },
  { cls := 8, slots := #[.int (29)], vm := .none },
  { cls := 8, slots := #[.int (30)], vm := .none },
  { cls := 8, slots := #[.int (31)], vm := .none },
  { cls := 8, slots := #[.int (32)], vm := .none },
  { cls := 8, slots := #[.int (33)], vm := .none },
  { cls := 8, slots := #[.int (34)], vm := .none },
  { cls := 8, slots := #[.int (35)], vm := .none },
  { cls := 8, slots := #[.int (36)], vm := .none },
  { cls := 8, slots := #[.int (37)], vm := .none },
  { cls := 8, slots := #[.int (38)], vm := .none },
  { cls := 8, slots := #[.int (39)], vm := .none },
  { cls := 8, slots := #[.int (40)], vm := .none },
  { cls := 8, slots := #[.int (41)], vm := .none },
  { cls := 8, slots := #[.int (42)], vm := .none },
  { cls := 8, slots := #[.int (43)], vm := .none },
  { cls := 8, slots := #[.int (44)], vm := .none },
  { cls := 8, slots := #[.int (45)], vm := .none },
  { cls := 8, slots := #[.int (46)], vm := .none },
  { cls := 8, slots := #[.int (47)], vm := .none },
  { cls := 8, slots := #[.int (48)], vm := .none },
  { cls := 8, slots := #[.int (49)], vm := .none },
  { cls := 8, slots := #[.int (50)], vm := .none },
  { cls := 8, slots := #[.int (51)], vm := .none },
  { cls := 8, slots := #[.int (52)], vm := .none },
  { cls := 8, slots := #[.int (53)], vm := .none },
  { cls := 8, slots := #[.int (54)], vm := .none },
  { cls := 8, slots := #[.int (55)], vm := .none },
  { cls := 8, slots := #[.int (56)], vm := .none },
  { cls := 8, slots := #[.int (57)], vm := .none },
  { cls := 8, slots := #[.int (58)], vm := .none },
  { cls := 8, slots := #[.int (59)], vm := .none },
  { cls := 8, slots := #[.int (60)], vm := .none },
  { cls := 8, slots := #[.int (61)], vm := .none },
  { cls := 8, slots := #[.int (62)], vm := .none },
  { cls := 8, slots := #[.int (63)], vm := .none },
  { cls := 8, slots := #[.int (64)], vm := .none },
  { cls := 8, slots := #[.int (65)], vm := .none },
  { cls := 8, slots := #[.int (66)], vm := .none },
  { cls := 8, slots := #[.int (67)], vm := .none },
  { cls := 8, slots := #[.int (68)], vm := .none },
  { cls := 8, slots := #[.int (69)], vm := .none },
  { cls := 8, slots := #[.int (70)], vm := .none },
  { cls := 8, slots := #[.int (71)], vm := .none },
  { cls := 8, slots := #[.int (72)], vm := .none },
  { cls := 8, slots := #[.int (73)], vm := .none },
  { cls := 8, slots := #[.int (74)], vm := .none },
  { cls := 8, slots := #[.int (75)], vm := .none },
  { cls := 8, slots := #[.int (76)], vm := .none },
  { cls := 8, slots := #[.int (77)], vm := .none },
  { cls := 8, slots := #[.int (78)], vm := .none },
  { cls := 8, slots := #[.int (79)], vm := .none },
  { cls := 8, slots := #[.int (80)], vm := .none },
  { cls := 8, slots := #[.int (81)], vm := .none },
  { cls := 8, slots := #[.int (82)], vm := .none },
  { cls := 8, slots := #[.int (83)], vm := .none },
  { cls := 8, slots := #[.int (84)], vm := .none },
  { cls := 8, slots := #[.int (85)], vm := .none },
  { cls := 8, slots := #[.int (86)], vm := .none },
  { cls := 8, slots := #[.int (87)], vm := .none },
  { cls := 8, slots := #[.int (88)], vm := .none },
  { cls := 8, slots := #[.int (89)], vm := .none },
  { cls := 8, slots := #[.int (90)], vm := .none },
  { cls := 8, slots := #[.int (91)], vm := .none },
  { cls := 8, slots := #[.int (92)], vm := .none },
  { cls := 8, slots := #[.int (93)], vm := .none },
  { cls := 8, slots := #[.int (94)], vm := .none },
  { cls := 8, slots := #[.int (95)], vm := .none },
  { cls := 8, slots := #[.int (96)], vm := .none },
  { cls := 8, slots := #[.int (97)], vm := .none },
  { cls := 8, slots := #[.int (98)], vm := .none },
  { cls := 8, slots := #[.int (99)], vm := .none },
  { cls := 8, slots := #[.int (100)], vm := .none },
  { cls := 8, slots := #[.int (101)], vm := .none },
  { cls := 8, slots := #[.int (102)], vm := .none },
  { cls := 8, slots := #[.int (103)], vm := .none },
  { cls := 8, slots := #[.int (104)], vm := .none },
  { cls := 8, slots := #[.int (105)], vm := .none },
  { cls := 8, slots := #[.int (106)], vm := .none },
  { cls := 8, slots := #[.int (107)], vm := .none },
  { cls := 8, slots := #[.int (108)], vm := .none },
  { cls := 8, slots := #[.int (109)], vm := .none },
  { cls := 8, slots := #[.int (110)], vm := .none },
  { cls := 8, slots := #[.int (111)], vm := .none },
  { cls := 8, slots := #[.int (112)], vm := .none },
  { cls := 8, slots := #[.int (113)], vm := .none },
  { cls := 8, slots := #[.int (114)], vm := .none },
  { cls := 8, slots := #[.int (115)], vm := .none },
  { cls := 8, slots := #[.int (116)], vm := .none },
  { cls := 8, slots := #[.int (117)], vm := .none },
  { cls := 8, slots := #[.int (118)], vm := .none },
  { cls := 8, slots := #[.int (119)], vm := .none },
  { cls := 8, slots := #[.int (120)], vm := .none },
  { cls := 8, slots := #[.int (121)], vm := .none },
  { cls := 8, slots := #[.int (122)], vm := .none },
  { cls := 8, slots := #[.int (123)], vm := .none },
  { cls := 8, slots := #[.int (124)], vm := .none },
  { cls := 8, slots := #[.int (125)], vm := .none },
  { cls := 8, slots := #[.int (126)], vm := .none },
  { cls := 8, slots := #[.int (127)], vm := .none }]
def classes : Array Class := #[k0, k1, k2, k3, k4, k5, k6, k7, k8, k9, k10, k11, k12, k13, k14, k15]
def interned : List (Array UInt16 × Addr) := []
def slotsUsed : Nat := 517
def theMethod : MethodId := ⟨1, 1⟩
def args0 : Array Value := #[.int 5, .long 3, .long 2, .int 7, .int 1, .long 9]
def aboutOver (below : List Frame) : State where
  vm := { classes := classes, interned := interned.toArray }
  heap := heap
  slotsUsed := slotsUsed
  threads := #[{ frames := .invoking theMethod args0 :: below }]
def below0 : List Frame := [.native { method := ⟨0, 0⟩, args := #[] }]
def about1 : State := aboutOver below0
def p0 : Program := .bare "" "" ""
def e0 : Env := launch0.env 0 0 0
theorem w_frames : about1.frames = Frame.invoking theMethod args0 :: below0 := rfl
set_option maxRecDepth 65536 in
theorem w_args : argsFit about1.vm theMethod args0 = true := by decide +kernel
set_option maxRecDepth 65536 in
theorem w_heap : heapFits about1 = true := by decide +kernel
set_option maxRecDepth 65536 in
theorem w_runnable : about1.curStatus? = some .runnable := by decide +kernel
set_option maxRecDepth 65536 in
theorem w_alone : about1.alone = true := by decide +kernel
set_option maxRecDepth 65536 in
theorem w_named : about1.methodNamed? x = some theMethod := by decide +kernel
set_option maxRecDepth 65536 in
theorem w_hears : about1.hears theMethod below0 = true := by decide +kernel
set_option maxRecDepth 65536 in
theorem w_ripe : about1.ripe theMethod args0 below0 = true := by decide +kernel
theorem w_running : about1.status = .running := rfl
set_option maxRecDepth 65536 in
theorem w_room : about1.hasRoom e0.platform room_1 = true :=
  launch0.hasRoom_least _ room_1 (by decide +kernel) (by decide +kernel) (by decide +kernel) (by decide +kernel) (by decide +kernel) (by decide +kernel)
theorem allAtoms_all (ts : List Jvm.Cond) (a : Array Jvm.Value) (st : Jvm.State) : (allAtoms ts).before a st = ts.all (fun c => c.before a st) := by
  induction ts with
  | nil => rfl
  | cons c t ih =>
    show (Jvm.Cond.and c (allAtoms t)).before a st = _
    rw [Jvm.Cond.before_and, ih, List.all_cons]
def words1 : List Jvm.Cond := Jvm.Cond.code x code maxLocals ret :: tables_1
/-- a 'code' word, met by the world's own term for the bytes: nothing is compared byte by byte -/
theorem code_word {y : MethodName} {bytes : ByteArray} {mx : Nat} {rt : Option FieldType} {a : Array Value} {s : State} {m : MethodId} {meth : Method} {c : Code} (h1 : s.methodNamed? y = some m) (h2 : s.vm.method? m = some meth) (h3 : meth.code = some c) (h4 : c.code = bytes)
    (h5 : (c.maxLocals == mx && c.exceptionTable.isEmpty && decide (c.maxStack ≤ mostOperands) && decide (meth.sig.returnType = rt) && !meth.locks && decide (parseMethodDescriptor y.desc = some meth.sig)) = true) : (Jvm.Cond.code y bytes mx rt).before a s = true := by
  simp only [Bool.and_eq_true, beq_iff_eq, Bool.not_eq_true', decide_eq_true_eq] at h5
  obtain ⟨⟨⟨⟨⟨g1, g2⟩, g3⟩, g4⟩, g5⟩, g6⟩ := h5
  simp [Cond.before, Cond.holds, Cond.value, h1, h2, h3, h4, g1, g2, g3, g4, g5, g6]
def isCode : Jvm.Cond → Bool
  | .code _ _ _ _ => true
  | _ => false
theorem all_split {L : List Jvm.Cond} {P : Jvm.Cond → Bool} (h1 : L.all (fun c => isCode c || P c) = true) (h2 : ∀ c ∈ L.filter isCode, P c = true) : L.all P = true := by
  refine List.all_eq_true.mpr fun c hc => ?_
  have h := List.all_eq_true.mp h1 c hc
  rcases Bool.eq_false_or_eq_true (isCode c) with hi | hi
  · exact h2 c (List.mem_filter.mpr ⟨hc, hi⟩)
  · simpa [hi] using h
set_option maxRecDepth 65536 in
theorem w_c0 : (Jvm.Cond.code x code maxLocals ret).before args0 about1 = true := code_word (m := ⟨1, 1⟩) (meth := k1m1) (c := k1c1) (by decide +kernel) rfl rfl rfl (by decide +kernel)
set_option maxRecDepth 65536 in
theorem w_c1 : (Jvm.Cond.code ({ cls := "com/example/bound_quorum/boundquorum/replication/Vote", name := "<init>", desc := "(IJJ)V" } : Jvm.MethodName) prog_29_method_1_code (6 : Nat) (Option.none : Option Jvm.ClassFile.FieldType)).before args0 about1 = true := code_word (m := ⟨2, 0⟩) (meth := k2m0) (c := k2c0) (by decide +kernel) rfl rfl rfl (by decide +kernel)
set_option maxRecDepth 65536 in
theorem w_c2 : (Jvm.Cond.code ({ cls := "java/lang/Object", name := "<init>", desc := "()V" } : Jvm.MethodName) object_method_1_code (1 : Nat) (Option.none : Option Jvm.ClassFile.FieldType)).before args0 about1 = true := code_word (m := ⟨0, 0⟩) (meth := k0m0) (c := k0c0) (by decide +kernel) rfl rfl rfl (by decide +kernel)
set_option maxRecDepth 65536 in
theorem w_c3 : (Jvm.Cond.code ({ cls := "java/lang/Integer", name := "valueOf", desc := "(I)Ljava/lang/Integer;" } : Jvm.MethodName) jdk_33_method_22_code (1 : Nat) (Option.some (Jvm.ClassFile.FieldType.object "java/lang/Integer"))).before args0 about1 = true := code_word (m := ⟨8, 0⟩) (meth := k8m0) (c := k8c0) (by decide +kernel) rfl rfl rfl (by decide +kernel)
set_option maxRecDepth 65536 in
theorem w_c4 : (Jvm.Cond.code ({ cls := "com/example/bound_quorum/boundquorum/replication/Vote", name := "equals", desc := "(Ljava/lang/Object;)Z" } : Jvm.MethodName) prog_29_method_7_code (3 : Nat) (Option.some Jvm.ClassFile.FieldType.boolean)).before args0 about1 = true := code_word (m := ⟨2, 1⟩) (meth := k2m1) (c := k2c1) (by decide +kernel) rfl rfl rfl (by decide +kernel)
set_option maxRecDepth 65536 in
theorem w_c5 : (Jvm.Cond.code ({ cls := "java/lang/Integer", name := "<init>", desc := "(I)V" } : Jvm.MethodName) jdk_33_method_23_code (2 : Nat) (Option.none : Option Jvm.ClassFile.FieldType)).before args0 about1 = true := code_word (m := ⟨8, 1⟩) (meth := k8m1) (c := k8c1) (by decide +kernel) rfl rfl rfl (by decide +kernel)
set_option maxRecDepth 65536 in
theorem w_c6 : (Jvm.Cond.code ({ cls := "java/lang/Number", name := "<init>", desc := "()V" } : Jvm.MethodName) jdk_18_method_1_code (1 : Nat) (Option.none : Option Jvm.ClassFile.FieldType)).before args0 about1 = true := code_word (m := ⟨4, 0⟩) (meth := k4m0) (c := k4c0) (by decide +kernel) rfl rfl rfl (by decide +kernel)
def codes1 : List Jvm.Cond := [Jvm.Cond.code x code maxLocals ret, Jvm.Cond.code ({ cls := "com/example/bound_quorum/boundquorum/replication/Vote", name := "<init>", desc := "(IJJ)V" } : Jvm.MethodName) prog_29_method_1_code (6 : Nat) (Option.none : Option Jvm.ClassFile.FieldType), Jvm.Cond.code ({ cls := "java/lang/Object", name := "<init>", desc := "()V" } : Jvm.MethodName) object_method_1_code (1 : Nat) (Option.none : Option Jvm.ClassFile.FieldType), Jvm.Cond.code ({ cls := "java/lang/Integer", name := "valueOf", desc := "(I)Ljava/lang/Integer;" } : Jvm.MethodName) jdk_33_method_22_code (1 : Nat) (Option.some (Jvm.ClassFile.FieldType.object "java/lang/Integer")), Jvm.Cond.code ({ cls := "com/example/bound_quorum/boundquorum/replication/Vote", name := "equals", desc := "(Ljava/lang/Object;)Z" } : Jvm.MethodName) prog_29_method_7_code (3 : Nat) (Option.some Jvm.ClassFile.FieldType.boolean), Jvm.Cond.code ({ cls := "java/lang/Integer", name := "<init>", desc := "(I)V" } : Jvm.MethodName) jdk_33_method_23_code (2 : Nat) (Option.none : Option Jvm.ClassFile.FieldType), Jvm.Cond.code ({ cls := "java/lang/Number", name := "<init>", desc := "()V" } : Jvm.MethodName) jdk_18_method_1_code (1 : Nat) (Option.none : Option Jvm.ClassFile.FieldType)]
set_option maxRecDepth 65536 in
theorem codes_eq : words1.filter isCode = codes1 := rfl
theorem w_codes : ∀ c ∈ words1.filter isCode, c.before args0 about1 = true := by
  rw [codes_eq]
  intro c hc
  simp only [codes1, List.mem_cons, List.not_mem_nil, or_false] at hc
  rcases hc with rfl | rfl | rfl | rfl | rfl | rfl | rfl
  · exact w_c0
  · exact w_c1
  · exact w_c2
  · exact w_c3
  · exact w_c4
  · exact w_c5
  · exact w_c6
set_option maxRecDepth 65536 in
theorem w_t1 : (words1.take 24).all (fun c => isCode c || c.before args0 about1) = true := by decide +kernel
set_option maxRecDepth 65536 in
theorem w_t2 : (words1.drop 24).all (fun c => isCode c || c.before args0 about1) = true := by decide +kernel
theorem w_tables : (allAtoms (Jvm.Cond.code x code maxLocals ret :: tables_1)).before args0 about1 = true := by
  rw [allAtoms_all]
  show words1.all (fun c => c.before args0 about1) = true
  refine all_split ?_ w_codes
  rw [← List.take_append_drop 24 words1, List.all_append, w_t1, w_t2]
  rfl
set_option maxRecDepth 65536 in
theorem w_rest : rest_1_c.before args0 about1 = true := by decide +kernel
set_option maxRecDepth 65536 in
theorem w_case : (Jvm.Cond.and given_1 narrow_1).before args0 about1 = true := by decide +kernel
theorem w_applies : (headSpec (Jvm.Cond.code x code maxLocals ret :: tables_1) room_1).applies x e0.platform about1 = true :=
  (Spec.applies_iff w_frames).mpr ⟨w_running, w_runnable, w_alone, w_named, w_hears, w_ripe, w_room, w_tables⟩
theorem atStart : AtStart classFile x code maxLocals ret World_1 tables_1 room_1 Calls_1 rest_1 Pre_1 launch0 p0 e0 about1 theMethod args0 below0 :=
  ⟨lists_1, trivial, launch0.admits_env _ _ _, launch0.least_env, fairChoices_fair.cas, fairChoices_fair.clock, w_frames, w_args, w_heap, w_applies, trivial, w_rest, w_case⟩
end start1
theorem witness_1 : WitnessClaimed_1 := ⟨start1.p0, start1.e0, start1.about1, start1.theMethod, start1.args0, start1.below0, start1.atStart⟩
end Jvm.Pilot.@@N@@
