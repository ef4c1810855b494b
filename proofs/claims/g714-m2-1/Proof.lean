import JvmDerived
import JvmDerived.Pilot.@@N@@Statement
import JvmDerived.Pilot.@@N@@Code
set_option linter.unusedVariables false
set_option linter.unusedSimpArgs false
namespace Jvm.OwnKit
open Sem ClassFile Op Lib Jvm.Stand Jvm.Free Jvm.LawKit Jvm.RoadKit
/-- from the state A the run comes to an end as the contract asks it -/
def OwnEnd (p : Program) (e : Env) (below : List Frame) (s : State) (Q : Option Value → Heap → List Loc → Prop) (kc ks : Nat) (A : State) : Prop :=
  ∃ (s₂ : State) (o : Outcome), Steps p.tables e below A s₂ ∧ s₂.status = .running ∧ Ended s₂ below o ∧ ∃ v L, o = .returned v ∧ Q v s₂.heap L ∧ FrameEnd s o s₂ L kc ks
section Own
variable {p : Program} {l : Launch} {e : Env} {R : Room} {s : State} {m : MethodId} {args : Array Value} {below : List Frame} {meth : Method} {c : Code} {T : State} {locs : List Loc} {cells slots : Nat} {Z : State} {a0 : Array Value} {h : Heap}
variable {Q : Option Value → Heap → List Loc → Prop} {kc ks : Nat}
theorem go {A B : State} (k : ∀ t, Steps p.tables e below B t → Steps p.tables e below A t) (F : OwnEnd p e below s Q kc ks B) : OwnEnd p e below s Q kc ks A := by
  obtain ⟨s₂, o, h1, r⟩ := F; exact ⟨s₂, o, k _ h1, r⟩
theorem up {cells' slots' : Nat} (X : Stand p l e R s m args below meth c T locs cells slots) (h1 : cells ≤ cells') (h2 : slots ≤ slots') : Stand p l e R s m args below meth c T locs cells' slots' :=
  ⟨X.admits, X.cas, X.clock, X.frames, X.room, X.hears, X.method, X.code, X.here, X.tail, X.warmed, X.limits, X.bytes, X.same.mono h1 h2⟩
theorem done (X : Stand p l e R s m args below meth c T locs cells slots) (hlk : meth.locks = false) {v : Option Value} (hv : meth.sig.returnType = none → v = none) {A : State}
    (st : ∀ fs, (∀ (f : JFrame) (acts : List Action), f.method = m → f.locked = none → f.entered = [] → (doReturn e (T.setTop f) acts v).1 = T.setFrames fs) → Steps p.tables e below A (T.setFrames fs))
    (eT : T.heap = h) (hk : cells ≤ kc) (hs : slots ≤ ks) (hQ : Q v h locs) : OwnEnd p e below s Q kc ks A := by
  obtain ⟨fs, hr, hrun, hended, hW, hsame⟩ := X.leave (v := v) hv hlk
  exact ⟨_, _, st fs hr, hrun, hended, _, _, rfl, (by show Q v T.heap locs; rw [eT]; exact hQ), ⟨_, rfl⟩, hW, hsame.mono hk hs⟩
theorem endI (X : Stand p l e R s m args below meth c T locs cells slots) (hx : p.tables.exec = Jvm.exec) (hlk : meth.locks = false) (hret : meth.sig.returnType = some .int) {pc : Nat} {Ls : Array Slot} {z : Int32} {rest : List Value} (hd : decode c.code pc = .ok (.ireturn, 1))
    (eT : T.heap = h) (hk : cells ≤ kc) (hs : slots ≤ ks) (hQ : Q (some (.int z)) h locs) : OwnEnd p e below s Q kc ks (T.setTop (mkF m pc Ls (.int z :: rest))) :=
  done X hlk (fun q => by rw [hret] at q; cases q) (fun fs hr => retOut X hx (w := .int z) hret rfl (Or.inl ⟨rfl, Or.inl rfl, z, rfl⟩) hd hr) eT hk hs hQ
theorem endN (X : Stand p l e R s m args below meth c T locs cells slots) (hx : p.tables.exec = Jvm.exec) (hlk : meth.locks = false) {t : FieldType} (ht : t = .boolean ∨ t = .byte ∨ t = .char ∨ t = .short) (hret : meth.sig.returnType = some t) {pc : Nat} {Ls : Array Slot} {z : Int32} {rest : List Value} (hd : decode c.code pc = .ok (.ireturn, 1))
    (eT : T.heap = h) (hk : cells ≤ kc) (hs : slots ≤ ks) (hQ : Q (some (.int (nar t z))) h locs) : OwnEnd p e below s Q kc ks (T.setTop (mkF m pc Ls (.int z :: rest))) :=
  done X hlk (fun q => by rw [hret] at q; cases q) (fun fs hr => retN X hx hret ht hd hr) eT hk hs hQ
theorem endJ (X : Stand p l e R s m args below meth c T locs cells slots) (hx : p.tables.exec = Jvm.exec) (hlk : meth.locks = false) (hret : meth.sig.returnType = some .long) {pc : Nat} {Ls : Array Slot} {z : Int64} {rest : List Value} (hd : decode c.code pc = .ok (.lreturn, 1))
    (eT : T.heap = h) (hk : cells ≤ kc) (hs : slots ≤ ks) (hQ : Q (some (.long z)) h locs) : OwnEnd p e below s Q kc ks (T.setTop (mkF m pc Ls (.long z :: rest))) :=
  done X hlk (fun q => by rw [hret] at q; cases q) (fun fs hr => retOut X hx (w := .long z) hret rfl (Or.inr (Or.inl ⟨rfl, rfl, z, rfl⟩)) hd hr) eT hk hs hQ
theorem endA (X : Stand p l e R s m args below meth c T locs cells slots) (hx : p.tables.exec = Jvm.exec) (hlk : meth.locks = false) {t : FieldType} (hret : meth.sig.returnType = some t) (ht : t.isReference = true) {pc : Nat} {Ls : Array Slot} {w : Value} (hw : w.isRef = true) {rest : List Value} (hd : decode c.code pc = .ok (.areturn, 1))
    (eT : T.heap = h) (hk : cells ≤ kc) (hs : slots ≤ ks) (hQ : Q (some w) h locs) : OwnEnd p e below s Q kc ks (T.setTop (mkF m pc Ls (w :: rest))) :=
  done X hlk (fun q => by rw [hret] at q; cases q) (fun fs hr => retOut X hx (w := w) hret (by cases t <;> first | rfl | cases ht) (Or.inr (Or.inr (Or.inr (Or.inr ⟨rfl, ht, hw⟩)))) hd hr) eT hk hs hQ
theorem endV (X : Stand p l e R s m args below meth c T locs cells slots) (hx : p.tables.exec = Jvm.exec) (hlk : meth.locks = false) (hret : meth.sig.returnType = none) {pc : Nat} {Ls : Array Slot} (hd : decode c.code pc = .ok (.return_, 1))
    (eT : T.heap = h) (hk : cells ≤ kc) (hs : slots ≤ ks) (hQ : Q none h locs) : OwnEnd p e below s Q kc ks (T.setTop (mkF m pc Ls [])) :=
  done X hlk (fun _ => rfl) (fun fs hr => X.returnOut hx hret hd hr) eT hk hs hQ
theorem nar01 {P : Prop} [Decidable P] : nar .boolean (if P then (1 : Int32) else 0) = if P then (1 : Int32) else 0 := by split <;> rfl
section Call
variable {own : String} {index : Nat} {y z : MethodName} {bytes : ByteArray} {maxL W : Nat} {ret : Option FieldType} {rm : Room} {as' : Array Value} {Qc : Option Value → Heap → List Loc → Prop} {g : JFrame} {argsL rest : List Value}
theorem callStat (X : Stand p l e R s m args below meth c T locs cells slots) (hx : p.tables.exec = Jvm.exec) (hZ : Z.Warmed39 s.vm) (hown : s.vm.findClass own = some m.cls)
    (w1 : (Cond.methodLink own index y).before a0 Z = true) (w2 : (Cond.static y).before a0 Z = true) (w3 : (Cond.initialized y.cls).before a0 Z = true) (w4 : (Cond.code y bytes maxL ret).before a0 Z = true)
    (hy : y.cls ≠ "java/lang/invoke/MethodHandle" ∧ y.cls ≠ "java/lang/invoke/VarHandle")
    (hM : MetFree l y (head1 [Cond.code y bytes maxL ret] rm) (fun a U => a = as' ∧ Z.Warmed39 U.vm ∧ U.heap = h) (fun _ _ _ _ _ => True) (fun _ U o U' => ∃ v L, o = .returned v ∧ Qc v U'.heap L ∧ FrameEnd U o U' L rm.cells rm.slots))
    (hf : rm.frames + 1 ≤ R.frames) (hl : W + (maxL + 11) + rm.locals ≤ R.locals) (eT : T.heap = h) (hg : g.method = m) (hsize : g.locals.size = c.maxLocals) (ha : argsL.toArray = as')
    (hlen : ∀ sig, parseMethodDescriptor y.desc = some sig → argsL.length = sig.parameters.length) (hstack : g.stack = argsL.reverse ++ rest) (hW : 2 * g.monitorRoom + (rest.map fun v => v.category).sum ≤ W) (hdg : decode c.code g.pc = .ok (.invokestatic index, 3))
    (hc : cells + rm.cells ≤ R.cells) (hs : slots + rm.slots ≤ R.slots) :
    ∃ (v : Option Value) (T' : State) (L : List Loc), Stand p l e R s m args below meth c T' (locs ++ L) (cells + rm.cells) (slots + rm.slots) ∧ Qc v T'.heap L ∧ ∀ target, Steps p.tables e below (T'.setTop { g with pc := g.pc + 3, stack := v.toList ++ rest }) target → Steps p.tables e below (T.setTop g) target := by
  obtain ⟨v, _, ⟨T', L', k', n'⟩, -, X', ⟨L, hQ, l1, l2, l3⟩, st⟩ := Jvm.LawKit.callS X hx hown (mvT hZ w1) (mvT hZ w2) (mvT hZ w3) (mvT hZ w4) hy (backOf (W := W) hM hZ w4 w3 hf hl) (g := g) hg hsize (argsL := argsL) (rest := rest) hlen hstack hW hdg (fun _ _ => ⟨ha, eT, hc, hs⟩)
  dsimp only [Pt.U, Pt.locs, Pt.cells, Pt.slots] at X' l1 l2 l3 st hQ
  subst l1 l2 l3
  exact ⟨v, T', L, X', hQ, st⟩
theorem callInit (X : Stand p l e R s m args below meth c T locs cells slots) (hx : p.tables.exec = Jvm.exec) (hZ : Z.Warmed39 s.vm) (hown : s.vm.findClass own = some m.cls) (hy1 : y.name = "<init>")
    (w1 : (Cond.methodLink own index y).before a0 Z = true) (w2 : (Cond.instanceMethod y).before a0 Z = true) (w3 : (Cond.initialized y.cls).before a0 Z = true) (w4 : (Cond.code y bytes maxL none).before a0 Z = true)
    (hy : y.cls ≠ "java/lang/invoke/MethodHandle" ∧ y.cls ≠ "java/lang/invoke/VarHandle")
    (hM : MetFree l y (head1 [Cond.code y bytes maxL none] rm) (fun a U => a = as' ∧ Z.Warmed39 U.vm ∧ U.heap = h) (fun _ _ _ _ _ => True) (fun _ U o U' => ∃ v L, o = .returned v ∧ Qc v U'.heap L ∧ FrameEnd U o U' L rm.cells rm.slots))
    (hf : rm.frames + 1 ≤ R.frames) (hl : W + (maxL + 11) + rm.locals ≤ R.locals) (eT : T.heap = h) (hg : g.method = m) (hsize : g.locals.size = c.maxLocals) {a : Addr} (ha : (Value.ref a :: argsL).toArray = as')
    (hlen : ∀ sig, parseMethodDescriptor y.desc = some sig → argsL.length = sig.parameters.length) (hstack : g.stack = argsL.reverse ++ .ref a :: rest) (hW : 2 * g.monitorRoom + (rest.map fun v => v.category).sum ≤ W) (hdg : decode c.code g.pc = .ok (.invokespecial index, 3))
    (hc : cells + rm.cells ≤ R.cells) (hs : slots + rm.slots ≤ R.slots) :
    ∃ (v : Option Value) (T' : State) (L : List Loc), Stand p l e R s m args below meth c T' (locs ++ L) (cells + rm.cells) (slots + rm.slots) ∧ Qc v T'.heap L ∧ ∀ target, Steps p.tables e below (T'.setTop { g with pc := g.pc + 3, stack := v.toList ++ rest }) target → Steps p.tables e below (T.setTop g) target := by
  obtain ⟨v, _, ⟨T', L', k', n'⟩, -, X', ⟨L, hQ, l1, l2, l3⟩, st⟩ := X.specialBack hx hy1 hown (mvT hZ w1) (mvT hZ w2) (mvT hZ w4) hy (backOf (W := W) hM hZ w4 w3 hf hl) (g := g) hg hsize (Steps.refl _) (a := a) (argsL := argsL) (rest := rest) hlen hstack hW hdg (fun _ _ => ⟨ha, eT, hc, hs⟩)
  dsimp only [Pt.U, Pt.locs, Pt.cells, Pt.slots] at X' l1 l2 l3 st hQ
  subst l1 l2 l3
  exact ⟨v, T', L, X', hQ, fun _ k => st.trans k⟩
theorem callVirt (X : Stand p l e R s m args below meth c T locs cells slots) (hx : p.tables.exec = Jvm.exec) (hZ : Z.Warmed39 s.vm) (hown : s.vm.findClass own = some m.cls) {C : String}
    (w1 : (Cond.methodLink own index y).before a0 Z = true) (w2 : (Cond.declares y).before a0 Z = true) (hnf : NotFace s y) (w3 : (Cond.selects C y z).before a0 Z = true) (w5 : (Cond.instanceMethod z).before a0 Z = true) (w6 : (Cond.initialized z.cls).before a0 Z = true) (w4 : (Cond.code z bytes maxL ret).before a0 Z = true)
    (hy : y.cls ≠ "java/lang/invoke/MethodHandle" ∧ y.cls ≠ "java/lang/invoke/VarHandle")
    (hM : MetFree l z (head1 [Cond.code z bytes maxL ret] rm) (fun a U => a = as' ∧ Z.Warmed39 U.vm ∧ U.heap = h) (fun _ _ _ _ _ => True) (fun _ U o U' => ∃ v L, o = .returned v ∧ Qc v U'.heap L ∧ FrameEnd U o U' L rm.cells rm.slots))
    (hf : rm.frames + 1 ≤ R.frames) (hl : W + (maxL + 11) + rm.locals ≤ R.locals) (eT : T.heap = h) {a : Addr} (E : Exa Z h a C) (hg : g.method = m) (hsize : g.locals.size = c.maxLocals) (ha : (Value.ref a :: argsL).toArray = as')
    (hlen : ∀ sig, parseMethodDescriptor y.desc = some sig → argsL.length = sig.parameters.length) (hstack : g.stack = argsL.reverse ++ .ref a :: rest) (hW : 2 * g.monitorRoom + (rest.map fun v => v.category).sum ≤ W) (hdg : decode c.code g.pc = .ok (.invokevirtual index, 3))
    (hc : cells + rm.cells ≤ R.cells) (hs : slots + rm.slots ≤ R.slots) :
    ∃ (v : Option Value) (T' : State) (L : List Loc), Stand p l e R s m args below meth c T' (locs ++ L) (cells + rm.cells) (slots + rm.slots) ∧ Qc v T'.heap L ∧ ∀ target, Steps p.tables e below (T'.setTop { g with pc := g.pc + 3, stack := v.toList ++ rest }) target → Steps p.tables e below (T.setTop g) target := by
  obtain ⟨cq, kq, q1, q2, q3⟩ := isOf hZ eT E
  obtain ⟨v, _, ⟨T', L', k', n'⟩, -, X', ⟨L, hQ, l1, l2, l3⟩, st⟩ := X.virtualBack hx hown (mvT hZ w1) (mvT hZ w2) hnf (mvT hZ w3) (mvT hZ w5) hy (backOf (W := W) hM hZ w4 w6 hf hl) q1 q3 (g := g) hg hsize (Steps.refl _) (argsL := argsL) (rest := rest) hlen hstack hW hdg (fun _ _ => ⟨ha, eT, hc, hs⟩)
  dsimp only [Pt.U, Pt.locs, Pt.cells, Pt.slots] at X' l1 l2 l3 st hQ
  subst l1 l2 l3
  exact ⟨v, T', L, X', hQ, fun _ k => st.trans k⟩
theorem callUp (X : Stand p l e R s m args below meth c T locs cells slots) (hx : p.tables.exec = Jvm.exec) (hZ : Z.Warmed39 s.vm) (hown : s.vm.findClass own = some m.cls) {C owner : String}
    (w1 : (Cond.methodLink own index y).before a0 Z = true) (w0 : (Cond.sameMethod y.cls owner y.name y.desc).before a0 Z = true) (w2 : (Cond.declares ⟨owner, y.name, y.desc⟩).before a0 Z = true) (ho : owner ≠ "java/lang/invoke/MethodHandle" ∧ owner ≠ "java/lang/invoke/VarHandle")
    (w3 : (Cond.selects C y z).before a0 Z = true) (w5 : (Cond.instanceMethod z).before a0 Z = true) (w6 : (Cond.initialized z.cls).before a0 Z = true) (w4 : (Cond.code z bytes maxL ret).before a0 Z = true)
    (hM : MetFree l z (head1 [Cond.code z bytes maxL ret] rm) (fun a U => a = as' ∧ Z.Warmed39 U.vm ∧ U.heap = h) (fun _ _ _ _ _ => True) (fun _ U o U' => ∃ v L, o = .returned v ∧ Qc v U'.heap L ∧ FrameEnd U o U' L rm.cells rm.slots))
    (hf : rm.frames + 1 ≤ R.frames) (hl : W + (maxL + 11) + rm.locals ≤ R.locals) (eT : T.heap = h) {a : Addr} (E : Exa Z h a C) (hg : g.method = m) (hsize : g.locals.size = c.maxLocals) (ha : (Value.ref a :: argsL).toArray = as')
    (hlen : ∀ sig, parseMethodDescriptor y.desc = some sig → argsL.length = sig.parameters.length) (hstack : g.stack = argsL.reverse ++ .ref a :: rest) (hW : 2 * g.monitorRoom + (rest.map fun v => v.category).sum ≤ W) (hdg : decode c.code g.pc = .ok (.invokevirtual index, 3))
    (hc : cells + rm.cells ≤ R.cells) (hs : slots + rm.slots ≤ R.slots) :
    ∃ (v : Option Value) (T' : State) (L : List Loc), Stand p l e R s m args below meth c T' (locs ++ L) (cells + rm.cells) (slots + rm.slots) ∧ Qc v T'.heap L ∧ ∀ target, Steps p.tables e below (T'.setTop { g with pc := g.pc + 3, stack := v.toList ++ rest }) target → Steps p.tables e below (T.setTop g) target := by
  obtain ⟨cq, kq, q1, q2, q3⟩ := isOf hZ eT E
  obtain ⟨v, _, ⟨T', L', k', n'⟩, -, X', ⟨L, hQ, l1, l2, l3⟩, st⟩ := X.virtualBackUp hx hown (mvT hZ w1) (mvT hZ w0) (mvT hZ w2) ho (mvT hZ w3) (mvT hZ w5) (backOf (W := W) hM hZ w4 w6 hf hl) q1 q3 (g := g) hg hsize (Steps.refl _) (argsL := argsL) (rest := rest) hlen hstack hW hdg (fun _ _ => ⟨ha, eT, hc, hs⟩)
  dsimp only [Pt.U, Pt.locs, Pt.cells, Pt.slots] at X' l1 l2 l3 st hQ
  subst l1 l2 l3
  exact ⟨v, T', L, X', hQ, fun _ k => st.trans k⟩
theorem callPriv (X : Stand p l e R s m args below meth c T locs cells slots) (hx : p.tables.exec = Jvm.exec) (hZ : Z.Warmed39 s.vm) (hown : s.vm.findClass own = some m.cls) {C : String} {kk : Nat}
    (w1 : (Cond.methodLink own index y).before a0 Z = true) (w2 : (Cond.instanceMethod y).before a0 Z = true) (wp : (Cond.privateMethod y).before a0 Z = true) (wi : (Cond.instantiable y.cls kk).before a0 Z = true) (w6 : (Cond.initialized y.cls).before a0 Z = true) (w4 : (Cond.code y bytes maxL ret).before a0 Z = true)
    (hy : y.cls ≠ "java/lang/invoke/MethodHandle" ∧ y.cls ≠ "java/lang/invoke/VarHandle")
    (hM : MetFree l y (head1 [Cond.code y bytes maxL ret] rm) (fun a U => a = as' ∧ Z.Warmed39 U.vm ∧ U.heap = h) (fun _ _ _ _ _ => True) (fun _ U o U' => ∃ v L, o = .returned v ∧ Qc v U'.heap L ∧ FrameEnd U o U' L rm.cells rm.slots))
    (hf : rm.frames + 1 ≤ R.frames) (hl : W + (maxL + 11) + rm.locals ≤ R.locals) (eT : T.heap = h) {a : Addr} (E : Exa Z h a C) (hg : g.method = m) (hsize : g.locals.size = c.maxLocals) (ha : (Value.ref a :: argsL).toArray = as')
    (hlen : ∀ sig, parseMethodDescriptor y.desc = some sig → argsL.length = sig.parameters.length) (hstack : g.stack = argsL.reverse ++ .ref a :: rest) (hW : 2 * g.monitorRoom + (rest.map fun v => v.category).sum ≤ W) (hdg : decode c.code g.pc = .ok (.invokevirtual index, 3))
    (hc : cells + rm.cells ≤ R.cells) (hs : slots + rm.slots ≤ R.slots) :
    ∃ (v : Option Value) (T' : State) (L : List Loc), Stand p l e R s m args below meth c T' (locs ++ L) (cells + rm.cells) (slots + rm.slots) ∧ Qc v T'.heap L ∧ ∀ target, Steps p.tables e below (T'.setTop { g with pc := g.pc + 3, stack := v.toList ++ rest }) target → Steps p.tables e below (T.setTop g) target := by
  obtain ⟨c2, k2, i1, i2, -, i4, -⟩ := Cond.instantiable_spec (mvT hZ wi (args := args))
  simp only [Bool.or_eq_false_iff] at i4
  have hpriv := Cond.privateMethod_at (mvP hZ wp (args := args))
  have hsel := selects_self_of_private (args := args) i1 i2 i4.1 hpriv (mvT hZ w2) hy
  obtain ⟨cl, q1, q2⟩ := E.cell
  obtain ⟨v, _, ⟨T', L', k', n'⟩, -, X', ⟨L, hQ, l1, l2, l3⟩, st⟩ := X.privateBack hx hown (mvT hZ w1) (mvT hZ w2) hsel hpriv (mvT hZ w4) hy (backOf (W := W) hM hZ w4 w6 hf hl) (g := g) hg hsize (Steps.refl _) (a := a) (cell := cl) (by rw [eT]; exact q1) q2 (argsL := argsL) (rest := rest) hlen hstack hW hdg (fun _ _ => ⟨ha, eT, hc, hs⟩)
  dsimp only [Pt.U, Pt.locs, Pt.cells, Pt.slots] at X' l1 l2 l3 st hQ
  subst l1 l2 l3
  exact ⟨v, T', L, X', hQ, fun _ k => st.trans k⟩
theorem callFace (X : Stand p l e R s m args below meth c T locs cells slots) (hx : p.tables.exec = Jvm.exec) (hZ : Z.Warmed39 s.vm) (hown : s.vm.findClass own = some m.cls) {C : String} {count : Nat}
    (w1 : (Cond.methodLink own index y).before a0 Z = true) (w2 : (Cond.declares y).before a0 Z = true) (wf : (Cond.interfaceMethod y.cls y.cls y.name y.desc).before args s = true) (w3 : (Cond.selects C y z).before a0 Z = true) (w5 : (Cond.instanceMethod z).before a0 Z = true) (wu : (Cond.publicMethod z).before a0 Z = true) (wh : (Cond.unhidden C y.name y.desc).before a0 Z = true) (wk : (Cond.castable C y.cls).before a0 Z = true) (w6 : (Cond.initialized z.cls).before a0 Z = true) (w4 : (Cond.code z bytes maxL ret).before a0 Z = true)
    (hy : y.cls ≠ "java/lang/invoke/MethodHandle" ∧ y.cls ≠ "java/lang/invoke/VarHandle")
    (hM : MetFree l z (head1 [Cond.code z bytes maxL ret] rm) (fun a U => a = as' ∧ Z.Warmed39 U.vm ∧ U.heap = h) (fun _ _ _ _ _ => True) (fun _ U o U' => ∃ v L, o = .returned v ∧ Qc v U'.heap L ∧ FrameEnd U o U' L rm.cells rm.slots))
    (hf : rm.frames + 1 ≤ R.frames) (hl : W + (maxL + 11) + rm.locals ≤ R.locals) (eT : T.heap = h) {a : Addr} (E : Exa Z h a C) (hg : g.method = m) (hsize : g.locals.size = c.maxLocals) (ha : (Value.ref a :: argsL).toArray = as')
    (hlen : ∀ sig, parseMethodDescriptor y.desc = some sig → argsL.length = sig.parameters.length) (hstack : g.stack = argsL.reverse ++ .ref a :: rest) (hW : 2 * g.monitorRoom + (rest.map fun v => v.category).sum ≤ W) (hdg : decode c.code g.pc = .ok (.invokeinterface index count, 5))
    (hc : cells + rm.cells ≤ R.cells) (hs : slots + rm.slots ≤ R.slots) :
    ∃ (v : Option Value) (T' : State) (L : List Loc), Stand p l e R s m args below meth c T' (locs ++ L) (cells + rm.cells) (slots + rm.slots) ∧ Qc v T'.heap L ∧ ∀ target, Steps p.tables e below (T'.setTop { g with pc := g.pc + 5, stack := v.toList ++ rest }) target → Steps p.tables e below (T.setTop g) target := by
  obtain ⟨cq, kq, q1, q2, q3⟩ := isOf hZ eT E
  obtain ⟨v, _, ⟨T', L', k', n'⟩, -, X', ⟨L, hQ, l1, l2, l3⟩, st⟩ := X.interfaceBack hx hown (mvT hZ w1) (mvT hZ w2) wf (mvT hZ w3) (mvT hZ w5) (mvT hZ wu) (mvT hZ wh) (mvT hZ wk) hy (backOf (W := W) hM hZ w4 w6 hf hl) q1 q2 q3 (g := g) hg hsize (Steps.refl _) (argsL := argsL) (rest := rest) hlen hstack hW hdg (fun _ _ => ⟨ha, eT, hc, hs⟩)
  dsimp only [Pt.U, Pt.locs, Pt.cells, Pt.slots] at X' l1 l2 l3 st hQ
  subst l1 l2 l3
  exact ⟨v, T', L, X', hQ, fun _ k => st.trans k⟩
end Call
/-- an object of C is none of K (K a class that can be made) -/
theorem NSroot {O K : String} {kk : Nat} (w : (Cond.noSuperclass O).before a0 Z = true) (wk : (Cond.instantiable K kk).before a0 Z = true) (hn : O ≠ K) : NS Z O K := by
  obtain ⟨c, k, h1, h2, h3, -, -⟩ := Cond.noSuperclass_spec w
  obtain ⟨t, kt, g1, -⟩ := Cond.instantiable_spec wk
  have ne := ids_ne h1 g1 hn
  refine ⟨c, t, h1, g1, fun fuel => ?_⟩
  cases fuel with
  | zero => rfl
  | succ f => simp [Vm.isSubclassAux, ne, h2, h3]
theorem NSno {C S K : String} {kk : Nat} (w : (Cond.superclass C S).before a0 Z = true) (wk : (Cond.instantiable K kk).before a0 Z = true) (n : NS Z C K) (hn : C ≠ K) : ∃ c t, Z.vm.findClass C = some c ∧ Z.vm.findClass K = some t ∧ Z.vm.assignable c t = false := by
  obtain ⟨c, t, h0, g0, n3⟩ := n
  obtain ⟨p, k, kp, h1, h2, h3, h4, h5, -, h7⟩ := Cond.superclass_spec h0 w
  obtain ⟨t', k', g1, g2, g5, g7, -⟩ := Cond.instantiable_spec wk
  cases g0.symm.trans g1
  simp only [Bool.or_eq_false_iff] at g7
  have ne := ids_ne h0 g0 hn
  refine ⟨c, t, h0, g0, ?_⟩
  show Z.vm.assignableAux (255 + 1) c t = false
  simp [Vm.assignableAux, ne, h2, g2, h5, g5, g7.1, Vm.isSubclass, n3]
end Own
end Jvm.OwnKit
namespace Jvm.OwnKit
open Sem ClassFile Op Lib Jvm.Stand Jvm.Free Jvm.LawKit Jvm.RoadKit
section Arrays
variable {p : Program} {l : Launch} {e : Env} {R : Room} {s : State} {m : MethodId} {args : Array Value} {below : List Frame} {meth : Method} {c : Code} {T : State} {locs : List Loc} {cells slots : Nat} {Z : State} {h : Heap}
variable {a : Addr} {k : ClassId} {z j : Int32} {vs : List Value} {dv : Value} {i : Nat} {g : JFrame} {rest : List Value}
theorem stBv (X : Stand p l e R s m args below meth c T locs cells slots) (hx : p.tables.exec = Jvm.exec) (hZ : Z.Warmed39 s.vm) (eT : T.heap = h) (F : Arv Z h a k .byte z vs dv) {x : Int32} (h1 : ¬ j < 0) (h2 : j < z) (h3 : j.toNatClampNeg = i) (h4 : i < vs.length)
    (hg : g.method = m) (hs : g.stack = .int x :: .int j :: .ref a :: rest) (hd : decode c.code g.pc = .ok (.bastore, 1)) :
    ∃ T' h', Stand p l e R s m args below meth c T' (locs ++ [⟨a, i⟩]) cells slots ∧ T'.heap = h' ∧ Wr h h' a i (.int (nar .byte x)) ∧ Arv Z h' a k .byte z (vs.set i (.int (nar .byte x))) dv ∧ ∀ target, Steps p.tables e below (T'.setTop { g with pc := g.pc + 1, stack := rest }) target → Steps p.tables e below (T.setTop g) target := by
  obtain ⟨cl, A, q1, S, q3, H, G⟩ := F
  subst h3
  obtain ⟨T', h', X', e', W, st⟩ := stB X hx hZ eT A (inb_of S ⟨h1, h2⟩) hg hs hd
  exact ⟨T', h', X', e', W, Arv.set A q1 S q3 H G (fits_nar_byte _) W _ rfl h4, st⟩
theorem stIv (X : Stand p l e R s m args below meth c T locs cells slots) (hx : p.tables.exec = Jvm.exec) (hZ : Z.Warmed39 s.vm) (eT : T.heap = h) (F : Arv Z h a k .int z vs dv) {x : Int32} (h1 : ¬ j < 0) (h2 : j < z) (h3 : j.toNatClampNeg = i) (h4 : i < vs.length)
    (hg : g.method = m) (hs : g.stack = .int x :: .int j :: .ref a :: rest) (hd : decode c.code g.pc = .ok (.iastore, 1)) :
    ∃ T' h', Stand p l e R s m args below meth c T' (locs ++ [⟨a, i⟩]) cells slots ∧ T'.heap = h' ∧ Wr h h' a i (.int x) ∧ Arv Z h' a k .int z (vs.set i (.int x)) dv ∧ ∀ target, Steps p.tables e below (T'.setTop { g with pc := g.pc + 1, stack := rest }) target → Steps p.tables e below (T.setTop g) target := by
  obtain ⟨cl, A, q1, S, q3, H, G⟩ := F
  subst h3
  obtain ⟨T', h', X', e', W, st⟩ := stI X hx hZ eT A (inb_of S ⟨h1, h2⟩) hg hs hd
  exact ⟨T', h', X', e', W, Arv.set A q1 S q3 H G rfl W _ rfl h4, st⟩
theorem stCv (X : Stand p l e R s m args below meth c T locs cells slots) (hx : p.tables.exec = Jvm.exec) (hZ : Z.Warmed39 s.vm) (eT : T.heap = h) (F : Arv Z h a k .char z vs dv) {x : Int32} (h1 : ¬ j < 0) (h2 : j < z) (h3 : j.toNatClampNeg = i) (h4 : i < vs.length)
    (hg : g.method = m) (hs : g.stack = .int x :: .int j :: .ref a :: rest) (hd : decode c.code g.pc = .ok (.castore, 1)) :
    ∃ T' h', Stand p l e R s m args below meth c T' (locs ++ [⟨a, i⟩]) cells slots ∧ T'.heap = h' ∧ Wr h h' a i (.int (nar .char x)) ∧ Arv Z h' a k .char z (vs.set i (.int (nar .char x))) dv ∧ ∀ target, Steps p.tables e below (T'.setTop { g with pc := g.pc + 1, stack := rest }) target → Steps p.tables e below (T.setTop g) target := by
  obtain ⟨cl, A, q1, S, q3, H, G⟩ := F
  subst h3
  obtain ⟨T', h', X', e', W, st⟩ := stC X hx hZ eT A (inb_of S ⟨h1, h2⟩) hg hs hd
  exact ⟨T', h', X', e', W, Arv.set A q1 S q3 H G (fits_nar_char _) W _ rfl h4, st⟩
theorem ldBv (X : Stand p l e R s m args below meth c T locs cells slots) (hx : p.tables.exec = Jvm.exec) (hZ : Z.Warmed39 s.vm) (eT : T.heap = h) (F : Arv Z h a k .byte z vs dv) {w : Int32} (h1 : ¬ j < 0) (h2 : j < z) (h3 : j.toNatClampNeg = i) (hv : vs.getD i dv = .int w)
    (hg : g.method = m) (hs : g.stack = .int j :: .ref a :: rest) (hd : decode c.code g.pc = .ok (.baload, 1)) : ∀ target, Steps p.tables e below (T.setTop { g with pc := g.pc + 1, stack := .int w :: rest }) target → Steps p.tables e below (T.setTop g) target := by
  obtain ⟨cl, A, q1, S, q3, H, G⟩ := F
  subst h3
  exact X.baloadBytes hx (by rw [eT]; exact A.1) (State.isArrayOf_alike hZ.alike A.2.1) A.2.2 (inb_of S ⟨h1, h2⟩) (H.at (inb_of S ⟨h1, h2⟩) hv) hg hs hd
theorem ldIv (X : Stand p l e R s m args below meth c T locs cells slots) (hx : p.tables.exec = Jvm.exec) (hZ : Z.Warmed39 s.vm) (eT : T.heap = h) (F : Arv Z h a k .int z vs dv) {w : Int32} (h1 : ¬ j < 0) (h2 : j < z) (h3 : j.toNatClampNeg = i) (hv : vs.getD i dv = .int w)
    (hg : g.method = m) (hs : g.stack = .int j :: .ref a :: rest) (hd : decode c.code g.pc = .ok (.iaload, 1)) : ∀ target, Steps p.tables e below (T.setTop { g with pc := g.pc + 1, stack := .int w :: rest }) target → Steps p.tables e below (T.setTop g) target := by
  obtain ⟨cl, A, q1, S, q3, H, G⟩ := F
  subst h3
  exact X.iaload hx (by rw [eT]; exact A.1) (State.isArrayOf_alike hZ.alike A.2.1) A.2.2 (inb_of S ⟨h1, h2⟩) (H.at (inb_of S ⟨h1, h2⟩) hv) hg hs hd
theorem ldCv (X : Stand p l e R s m args below meth c T locs cells slots) (hx : p.tables.exec = Jvm.exec) (hZ : Z.Warmed39 s.vm) (eT : T.heap = h) (F : Arv Z h a k .char z vs dv) {w : Int32} (h1 : ¬ j < 0) (h2 : j < z) (h3 : j.toNatClampNeg = i) (hv : vs.getD i dv = .int w)
    (hg : g.method = m) (hs : g.stack = .int j :: .ref a :: rest) (hd : decode c.code g.pc = .ok (.caload, 1)) : ∀ target, Steps p.tables e below (T.setTop { g with pc := g.pc + 1, stack := .int w :: rest }) target → Steps p.tables e below (T.setTop g) target := by
  obtain ⟨cl, A, q1, S, q3, H, G⟩ := F
  subst h3
  exact X.caload hx (by rw [eT]; exact A.1) (State.isArrayOf_alike hZ.alike A.2.1) A.2.2 (inb_of S ⟨h1, h2⟩) (H.at (inb_of S ⟨h1, h2⟩) hv) hg hs hd
theorem stRv {ty : FieldType} {y : Addr} {C : String} (X : Stand p l e R s m args below meth c T locs cells slots) (hx : p.tables.exec = Jvm.exec) (hZ : Z.Warmed39 s.vm) (eT : T.heap = h) (F : Arv Z h a k ty z vs dv) (O : Ovr Z k C) (I : Ins Z h y C true) (hty : ty.isReference = true) (hfit : fits ty (.ref y) = true) (h1 : ¬ j < 0) (h2 : j < z) (h3 : j.toNatClampNeg = i) (h4 : i < vs.length)
    (hg : g.method = m) (hs : g.stack = .ref y :: .int j :: .ref a :: rest) (hd : decode c.code g.pc = .ok (.aastore, 1)) :
    ∃ T' h', Stand p l e R s m args below meth c T' (locs ++ [⟨a, i⟩]) cells slots ∧ T'.heap = h' ∧ Wr h h' a i (.ref y) ∧ Arv Z h' a k ty z (vs.set i (.ref y)) dv ∧ ∀ target, Steps p.tables e below (T'.setTop { g with pc := g.pc + 1, stack := rest }) target → Steps p.tables e below (T.setTop g) target := by
  obtain ⟨cl, A, q1, S, q3, H, G⟩ := F
  subst h3
  obtain ⟨T', h', X', e', W, st⟩ := stR X hx hZ eT A (inb_of S ⟨h1, h2⟩) hty (Sto.ofV A q1 O I) hg hs hd
  exact ⟨T', h', X', e', W, Arv.set A q1 S q3 H G hfit W _ rfl h4, st⟩
theorem stNv {ty : FieldType} (X : Stand p l e R s m args below meth c T locs cells slots) (hx : p.tables.exec = Jvm.exec) (hZ : Z.Warmed39 s.vm) (eT : T.heap = h) (F : Arv Z h a k ty z vs dv) (hty : ty.isReference = true) (hfit : fits ty .null = true) (h1 : ¬ j < 0) (h2 : j < z) (h3 : j.toNatClampNeg = i) (h4 : i < vs.length)
    (hg : g.method = m) (hs : g.stack = .null :: .int j :: .ref a :: rest) (hd : decode c.code g.pc = .ok (.aastore, 1)) :
    ∃ T' h', Stand p l e R s m args below meth c T' (locs ++ [⟨a, i⟩]) cells slots ∧ T'.heap = h' ∧ Wr h h' a i .null ∧ Arv Z h' a k ty z (vs.set i .null) dv ∧ ∀ target, Steps p.tables e below (T'.setTop { g with pc := g.pc + 1, stack := rest }) target → Steps p.tables e below (T.setTop g) target := by
  obtain ⟨cl, A, q1, S, q3, H, G⟩ := F
  subst h3
  obtain ⟨T', h', X', e', W, st⟩ := stR X hx hZ eT A (inb_of S ⟨h1, h2⟩) hty (Or.inl rfl) hg hs hd
  exact ⟨T', h', X', e', W, Arv.set A q1 S q3 H G hfit W _ rfl h4, st⟩
theorem lenV {ty : FieldType} (X : Stand p l e R s m args below meth c T locs cells slots) (hx : p.tables.exec = Jvm.exec) (hZ : Z.Warmed39 s.vm) (eT : T.heap = h) (F : Arv Z h a k ty z vs dv) (hg : g.method = m) (hs : g.stack = .ref a :: rest) (hd : decode c.code g.pc = .ok (.arraylength, 1)) :
    ∀ target, Steps p.tables e below (T.setTop { g with pc := g.pc + 1, stack := .int z :: rest }) target → Steps p.tables e below (T.setTop g) target := by
  obtain ⟨cl, A, q1, S, q3, H, G⟩ := F
  intro target kk
  rw [← len_of S q3] at kk
  exact X.arraylength hx (by rw [eT]; exact A.1) (State.isArrayOf_alike hZ.alike A.2.1) hg hs hd target kk
end Arrays
end Jvm.OwnKit
namespace Jvm.OwnKit
open Sem ClassFile Op Lib Jvm.Stand Jvm.Free Jvm.LawKit Jvm.RoadKit
section CallB
variable {p : Program} {l : Launch} {e : Env} {R : Room} {s : State} {m : MethodId} {args : Array Value} {below : List Frame} {meth : Method} {c : Code} {T : State} {locs : List Loc} {cells slots : Nat} {Z : State} {a0 : Array Value} {h : Heap}
variable {own : String} {index : Nat} {y z : MethodName} {bytes : ByteArray} {maxL W kc ks : Nat} {as' : Array Value} {Qc : Option Value → Heap → List Loc → Prop} {g : JFrame} {argsL rest : List Value}
theorem callInitB (X : Stand p l e R s m args below meth c T locs cells slots) (hx : p.tables.exec = Jvm.exec) (hZ : Z.Warmed39 s.vm) (hown : s.vm.findClass own = some m.cls) (hy1 : y.name = "<init>")
    (w1 : (Cond.methodLink own index y).before a0 Z = true) (w2 : (Cond.instanceMethod y).before a0 Z = true) (w4 : (Cond.code y bytes maxL none).before a0 Z = true)
    (hy : y.cls ≠ "java/lang/invoke/MethodHandle" ∧ y.cls ≠ "java/lang/invoke/VarHandle")
    (hK : Back l R p e below s args y 3 W (fun A a => a = as' ∧ A.U.heap = h ∧ A.cells + kc ≤ R.cells ∧ A.slots + ks ≤ R.slots) (fun A _ v B => ∃ L, Qc v B.U.heap L ∧ B.locs = A.locs ++ L ∧ B.cells = A.cells + kc ∧ B.slots = A.slots + ks))
    (eT : T.heap = h) (hg : g.method = m) (hsize : g.locals.size = c.maxLocals) {a : Addr} (ha : (Value.ref a :: argsL).toArray = as')
    (hlen : ∀ sig, parseMethodDescriptor y.desc = some sig → argsL.length = sig.parameters.length) (hstack : g.stack = argsL.reverse ++ .ref a :: rest) (hW : 2 * g.monitorRoom + (rest.map fun v => v.category).sum ≤ W) (hdg : decode c.code g.pc = .ok (.invokespecial index, 3))
    (hc : cells + kc ≤ R.cells) (hs : slots + ks ≤ R.slots) :
    ∃ (v : Option Value) (T' : State) (L : List Loc), Stand p l e R s m args below meth c T' (locs ++ L) (cells + kc) (slots + ks) ∧ Qc v T'.heap L ∧ ∀ target, Steps p.tables e below (T'.setTop { g with pc := g.pc + 3, stack := v.toList ++ rest }) target → Steps p.tables e below (T.setTop g) target := by
  obtain ⟨v, _, ⟨T', L', k', n'⟩, -, X', ⟨L, hQ, l1, l2, l3⟩, st⟩ := X.specialBack hx hy1 hown (mvT hZ w1) (mvT hZ w2) (mvT hZ w4) hy hK (g := g) hg hsize (Steps.refl _) (a := a) (argsL := argsL) (rest := rest) hlen hstack hW hdg (fun _ _ => ⟨ha, eT, hc, hs⟩)
  dsimp only [Pt.U, Pt.locs, Pt.cells, Pt.slots] at X' l1 l2 l3 st hQ
  subst l1 l2 l3
  exact ⟨v, T', L, X', hQ, fun _ k => st.trans k⟩
theorem callVirtB (X : Stand p l e R s m args below meth c T locs cells slots) (hx : p.tables.exec = Jvm.exec) (hZ : Z.Warmed39 s.vm) (hown : s.vm.findClass own = some m.cls) {C : String}
    (w1 : (Cond.methodLink own index y).before a0 Z = true) (w2 : (Cond.declares y).before a0 Z = true) (hnf : NotFace s y) (w3 : (Cond.selects C y z).before a0 Z = true) (w5 : (Cond.instanceMethod z).before a0 Z = true)
    (hy : y.cls ≠ "java/lang/invoke/MethodHandle" ∧ y.cls ≠ "java/lang/invoke/VarHandle")
    (hK : Back l R p e below s args z 3 W (fun A a => a = as' ∧ A.U.heap = h ∧ A.cells + kc ≤ R.cells ∧ A.slots + ks ≤ R.slots) (fun A _ v B => ∃ L, Qc v B.U.heap L ∧ B.locs = A.locs ++ L ∧ B.cells = A.cells + kc ∧ B.slots = A.slots + ks))
    (eT : T.heap = h) {a : Addr} (E : Exa Z h a C) (hg : g.method = m) (hsize : g.locals.size = c.maxLocals) (ha : (Value.ref a :: argsL).toArray = as')
    (hlen : ∀ sig, parseMethodDescriptor y.desc = some sig → argsL.length = sig.parameters.length) (hstack : g.stack = argsL.reverse ++ .ref a :: rest) (hW : 2 * g.monitorRoom + (rest.map fun v => v.category).sum ≤ W) (hdg : decode c.code g.pc = .ok (.invokevirtual index, 3))
    (hc : cells + kc ≤ R.cells) (hs : slots + ks ≤ R.slots) :
    ∃ (v : Option Value) (T' : State) (L : List Loc), Stand p l e R s m args below meth c T' (locs ++ L) (cells + kc) (slots + ks) ∧ Qc v T'.heap L ∧ ∀ target, Steps p.tables e below (T'.setTop { g with pc := g.pc + 3, stack := v.toList ++ rest }) target → Steps p.tables e below (T.setTop g) target := by
  obtain ⟨cq, kq, q1, q2, q3⟩ := isOf hZ eT E
  obtain ⟨v, _, ⟨T', L', k', n'⟩, -, X', ⟨L, hQ, l1, l2, l3⟩, st⟩ := X.virtualBack hx hown (mvT hZ w1) (mvT hZ w2) hnf (mvT hZ w3) (mvT hZ w5) hy hK q1 q3 (g := g) hg hsize (Steps.refl _) (argsL := argsL) (rest := rest) hlen hstack hW hdg (fun _ _ => ⟨ha, eT, hc, hs⟩)
  dsimp only [Pt.U, Pt.locs, Pt.cells, Pt.slots] at X' l1 l2 l3 st hQ
  subst l1 l2 l3
  exact ⟨v, T', L, X', hQ, fun _ k => st.trans k⟩
end CallB
end Jvm.OwnKit
/- laws to paste: Road.backV, Road.eqW, Road.codOf (cut by pick.py; bodies as the Statement names them) -/
namespace Jvm.Pilot.@@N@@
namespace StrChars
open Jvm Sem ClassFile Op Lib Jvm.Stand Jvm.Free.XT Jvm.Free.ALB Jvm.Free.JM Jvm.Free
open Jvm.Lib.Cold (StaticIs)
/-- a char array whose places are chars -/
def Ch (a : Addr) (A : Cell) (U : State) : Prop := Arr .char a A U ∧ Typed .char A
theorem Ch.mv {a : Addr} {A : Cell} {U U' : State} (h : Ch a A U) (hal : U.vm.Alike U'.vm) (hh : U'.heap = U.heap) : Ch a A U' := ⟨h.1.mv hal hh, h.2⟩
theorem Ch.keep {a : Addr} {A : Cell} {U U' : State} (h : Ch a A U) (hal : U.vm.Alike U'.vm) (hk : U'.heap[a]? = some A) : Ch a A U' := ⟨h.1.keep hal hk, h.2⟩
/-- what place i of a char[]'s cell holds -/
def cv (A : Cell) (i : Nat) : Int32 := match A.slots[i]? with | some (.int x) => x | _ => 0
theorem Ch.get {a : Addr} {A : Cell} {U : State} (h : Ch a A U) {i : Nat} (hi : i < A.slots.size) : A.slots[i]? = some (.int (cv A i)) := by
  have e := Array.getElem?_eq_getElem hi
  have f := h.2 i _ e
  unfold cv; rw [e]
  generalize A.slots[i] = v at f
  cases v <;> simp [fits] at f ⊢
/-- the byte that i2b leaves of a char -/
def lo8 (x : Int32) : Int32 := x.toInt8.toInt32
theorem fits_lo8 (y : Int32) : fits .byte (.int (lo8 y)) = true := by
  have h1 := y.toInt8.le_toInt
  have h2 := y.toInt8.toInt_lt
  simp only [lo8, fits, Bool.and_eq_true, decide_eq_true_eq, Int32.le_iff_toInt_le, Int8.toInt_toInt32, show (-128 : Int32).toInt = -128 from by decide, show (127 : Int32).toInt = 127 from by decide]
  omega
/-- A' is A but that each place j of lo .. hi - 1 holds f j -/
def Laid (A A' : Cell) (lo hi : Nat) (f : Nat → Value) : Prop := A'.cls = A.cls ∧ A'.vm = A.vm ∧ A'.slots.size = A.slots.size ∧ ∀ i, A'.slots[i]? = if lo ≤ i ∧ i < hi then some (f i) else A.slots[i]?
theorem Laid.zero (A : Cell) (lo : Nat) (f : Nat → Value) : Laid A A lo (lo + 0) f := ⟨rfl, rfl, rfl, fun i => by rw [if_neg (by omega)]⟩
theorem Laid.step {A Ak : Cell} {lo k : Nat} {f : Nat → Value} {v : Value} (h : Laid A Ak lo k f) (hlo : lo ≤ k) (hk : k < Ak.slots.size) (hv : v = f k) : Laid A (Ak.setSlot k v) lo (k + 1) f := by
  refine ⟨h.1, h.2.1, by simpa [Cell.setSlot] using h.2.2.1, fun i => ?_⟩
  by_cases e : k = i
  · subst e; rw [Cell.slots_setSlot_self v hk, if_pos (by omega), hv]
  · rw [Cell.slots_setSlot_ne v e, h.2.2.2 i]
    by_cases q : lo ≤ i ∧ i < k
    · rw [if_pos q, if_pos (by omega)]
    · rw [if_neg q, if_neg (by omega)]
def U16 : String := "java/lang/StringUTF16"
namespace Cmp5
def yN : MethodName := ⟨"java/lang/StringUTF16", "compress", "([CI[BII)I"⟩
abbrev yB : ByteArray := jdk_52_method_21_code
theorem d0 : decode yB 0 = .ok (.iconst 0, 1) := by decide +kernel
theorem d1 : decode yB 1 = .ok (.istore 5, 2) := by decide +kernel
theorem d3 : decode yB 3 = .ok (.iload 5, 2) := by decide +kernel
theorem d5 : decode yB 5 = .ok (.iload 4, 2) := by decide +kernel
theorem d7 : decode yB 7 = .ok (.if_icmp (.ge) 37, 3) := by decide +kernel
theorem d10 : decode yB 10 = .ok (.aload_n 0, 1) := by decide +kernel
theorem d11 : decode yB 11 = .ok (.iload_n 1, 1) := by decide +kernel
theorem d12 : decode yB 12 = .ok (.caload, 1) := by decide +kernel
theorem d13 : decode yB 13 = .ok (.istore 6, 2) := by decide +kernel
theorem d15 : decode yB 15 = .ok (.iload 6, 2) := by decide +kernel
theorem d17 : decode yB 17 = .ok (.sipush 255, 3) := by decide +kernel
theorem d20 : decode yB 20 = .ok (.if_icmp (.le) 6, 3) := by decide +kernel
theorem d26 : decode yB 26 = .ok (.aload_n 2, 1) := by decide +kernel
theorem d27 : decode yB 27 = .ok (.iload_n 3, 1) := by decide +kernel
theorem d28 : decode yB 28 = .ok (.iload 6, 2) := by decide +kernel
theorem d30 : decode yB 30 = .ok (.i2b, 1) := by decide +kernel
theorem d31 : decode yB 31 = .ok (.bastore, 1) := by decide +kernel
theorem d32 : decode yB 32 = .ok (.iinc 1 1, 3) := by decide +kernel
theorem d35 : decode yB 35 = .ok (.iinc 3 1, 3) := by decide +kernel
theorem d38 : decode yB 38 = .ok (.iinc 5 1, 3) := by decide +kernel
theorem d41 : decode yB 41 = .ok (.goto (-38), 3) := by decide +kernel
theorem d44 : decode yB 44 = .ok (.iload 4, 2) := by decide +kernel
theorem d46 : decode yB 46 = .ok (.ireturn, 1) := by decide +kernel
def site : List Cond := []
def tab : Cond := tabOf yN yB 7 (some .int) site
def P (b : Addr) (A : Cell) (d : Addr) (B : Cell) (o q len : Nat) (args : Array Value) (s : State) : Prop := args = #[.ref b, .int (Int32.ofNat o), .ref d, .int (Int32.ofNat q), .int (Int32.ofNat len)] ∧ Ch b A s ∧ Arr .byte d B s ∧ b ≠ d ∧ o + len ≤ A.slots.size ∧ q + len ≤ B.slots.size ∧ ∀ i, i < len → ¬ 255 < cv A (o + i)
def E (b : Addr) (A : Cell) (d : Addr) (B : Cell) (o q len : Nat) (r : Option Value) (s u : State) : Prop := r = some (.int (Int32.ofNat len)) ∧ ∃ B', Put d B' s u ∧ Laid B B' q (q + len) (fun j => Value.int (lo8 (cv A (o + (j - q)))))
/-- no char of the range above 255: len; the places written hold each char's low byte -/
theorem law (l : Launch) (b : Addr) (A : Cell) (d : Addr) (B : Cell) (o q len : Nat) : Law l yN 5 5 0 0 yB 7 (some .int) site (P b A d B o q len) (E b A d B o q len) (copyLocs d q len) 0 0 := by
  refine Law.of_walk (plainFor_of_name (by decide +kernel)) (by decide +kernel) (by decide +kernel) (by decide) (fun _ _ h => by rw [h.1]; rfl) (fun _ U U' hal hh h => ⟨h.1, h.2.1.mv hal hh, h.2.2.1.mv hal hh, h.2.2.2⟩) (fun r U U' V V' h1 hal h2 h => ⟨h.1, h.2.elim fun B' q => ⟨B', q.1.mv h1 h2, q.2⟩⟩) ?_
  intro p e s m args below meth c s₁ X0 hexec hbytes hml hret hlk hnm hown hh0 W hP
  obtain ⟨rfl, hA, hB, hne, l1, l2, hp⟩ := hP
  have c1 : Steps p.tables e below (s₁.setTop (entryFrame m #[.ref b, .int (Int32.ofNat o), .ref d, .int (Int32.ofNat q), .int (Int32.ofNat len)] 7)) (s₁.setTop (mkF m 0 #[.val (.ref b), .val (.int (Int32.ofNat o)), .val (.ref d), .val (.int (Int32.ofNat q)), .val (.int (Int32.ofNat len)), .unset, .unset] [])) := entry rfl
  have hA0 := hA.1.mv X0.warmed.alike hh0
  have hB0 := hB.mv X0.warmed.alike hh0
  have a31 := hA.1.2.2.2
  have c2 : Steps p.tables e below (s₁.setTop (entryFrame m #[.ref b, .int (Int32.ofNat o), .ref d, .int (Int32.ofNat q), .int (Int32.ofNat len)] 7)) (s₁.setTop (mkF m 3 #[.val (.ref b), .val (.int (Int32.ofNat o)), .val (.ref d), .val (.int (Int32.ofNat q)), .val (.int (Int32.ofNat len)), .val (.int 0), .unset] [])) := c1.trans (by
    refine iconstV X0.here hexec rfl 0 (hb hbytes d0) (by decide) ?_
    refine XS.istore X0.here hexec rfl (hb hbytes d1) rfl rfl ?_
    exact Steps.refl _)
  have loop : ∀ (r i : Nat), i + r = len → ∀ (z : Slot), (z = .unset ∨ ∃ w, z = .val w ∧ w.category = 1) → ∀ (Tl : State) (Bk : Cell), Stand p l e { frames := 0, locals := 0, cells := 0, slots := 0 } s m #[.ref b, .int (Int32.ofNat o), .ref d, .int (Int32.ofNat q), .int (Int32.ofNat len)] below meth c Tl ([] ++ copyLocs d q i) 0 0 → Put d Bk s₁ Tl → Laid B Bk q (q + i) (fun j => Value.int (lo8 (cv A (o + (j - q))))) →
      Steps p.tables e below (s₁.setTop (entryFrame m #[.ref b, .int (Int32.ofNat o), .ref d, .int (Int32.ofNat q), .int (Int32.ofNat len)] 7)) (Tl.setTop (mkF m 3 #[.val (.ref b), .val (.int (Int32.ofNat (o + i))), .val (.ref d), .val (.int (Int32.ofNat (q + i))), .val (.int (Int32.ofNat len)), .val (.int (Int32.ofNat i)), z] [])) → ∃ (T' : State) (B' : Cell) (z' : Slot), Stand p l e { frames := 0, locals := 0, cells := 0, slots := 0 } s m #[.ref b, .int (Int32.ofNat o), .ref d, .int (Int32.ofNat q), .int (Int32.ofNat len)] below meth c T' ([] ++ copyLocs d q len) 0 0 ∧ Put d B' s₁ T' ∧ Laid B B' q (q + len) (fun j => Value.int (lo8 (cv A (o + (j - q))))) ∧
      Steps p.tables e below (s₁.setTop (entryFrame m #[.ref b, .int (Int32.ofNat o), .ref d, .int (Int32.ofNat q), .int (Int32.ofNat len)] 7)) (T'.setTop (mkF m 3 #[.val (.ref b), .val (.int (Int32.ofNat (o + len))), .val (.ref d), .val (.int (Int32.ofNat (q + len))), .val (.int (Int32.ofNat len)), .val (.int (Int32.ofNat len)), z'] [])) := by
    intro r
    induction r with
    | zero =>
      intro i hi z hz Tl Bk Xl pl fl cl
      have hil : i = len := by omega
      rw [hil] at Xl fl cl
      exact ⟨Tl, Bk, z, Xl, pl, fl, cl⟩
    | succ r ih =>
      intro i hi z hz Tl Bk Xl pl fl cl
      have all := X0.warmed.alike.symm.trans Xl.warmed.alike
      have hAl := hA0.keep all (pl.other hne hA0.1)
      have hBk := hB0.like all pl.1 fl.1 fl.2.1 fl.2.2.1
      have hlt : q + i < Bk.slots.size := by rw [fl.2.2.1]; omega
      have c3 : Steps p.tables e below (s₁.setTop (entryFrame m #[.ref b, .int (Int32.ofNat o), .ref d, .int (Int32.ofNat q), .int (Int32.ofNat len)] 7)) (Tl.setTop (mkF m 12 #[.val (.ref b), .val (.int (Int32.ofNat (o + i))), .val (.ref d), .val (.int (Int32.ofNat (q + i))), .val (.int (Int32.ofNat len)), .val (.int (Int32.ofNat i)), z] [.int (Int32.ofNat (o + i)), .ref b])) := cl.trans (by
        refine XS.iload Xl.here hexec rfl (hb hbytes d3) rfl ?_
        refine XS.iload Xl.here hexec rfl (hb hbytes d5) rfl ?_
        refine XS.icmpNo Xl.here hexec rfl (hb hbytes d7) rfl (ii_ge_f (lt32 (by omega) (by omega))) ?_
        refine XS.aloadN Xl.here hexec rfl (hb hbytes d10) rfl rfl ?_
        refine XS.iloadN Xl.here hexec rfl (hb hbytes d11) rfl ?_
        exact Steps.refl _)
      have c4 : Steps p.tables e below (s₁.setTop (entryFrame m #[.ref b, .int (Int32.ofNat o), .ref d, .int (Int32.ofNat q), .int (Int32.ofNat len)] 7)) (Tl.setTop (mkF m 13 #[.val (.ref b), .val (.int (Int32.ofNat (o + i))), .val (.ref d), .val (.int (Int32.ofNat (q + i))), .val (.int (Int32.ofNat len)), .val (.int (Int32.ofNat i)), z] [.int (cv A (o + i))])) := c3.trans (by
        refine Xl.aget hexec hAl rfl (hA.get (i := o + i) (by omega)) rfl rfl (hb hbytes d12) ?_
        exact Steps.refl _)
      have c5 : Steps p.tables e below (s₁.setTop (entryFrame m #[.ref b, .int (Int32.ofNat o), .ref d, .int (Int32.ofNat q), .int (Int32.ofNat len)] 7)) (Tl.setTop (mkF m 15 #[.val (.ref b), .val (.int (Int32.ofNat (o + i))), .val (.ref d), .val (.int (Int32.ofNat (q + i))), .val (.int (Int32.ofNat len)), .val (.int (Int32.ofNat i)), .val (.int (cv A (o + i)))] [])) := c4.trans (by
        refine XS.istoreS Xl.here hexec rfl (hb hbytes d13) rfl rfl hz ?_
        exact Steps.refl _)
      have c6 : Steps p.tables e below (s₁.setTop (entryFrame m #[.ref b, .int (Int32.ofNat o), .ref d, .int (Int32.ofNat q), .int (Int32.ofNat len)] 7)) (Tl.setTop (mkF m 31 #[.val (.ref b), .val (.int (Int32.ofNat (o + i))), .val (.ref d), .val (.int (Int32.ofNat (q + i))), .val (.int (Int32.ofNat len)), .val (.int (Int32.ofNat i)), .val (.int (cv A (o + i)))] [.int (lo8 (cv A (o + i))), .int (Int32.ofNat (q + i)), .ref d])) := c5.trans (by
        refine XS.iload Xl.here hexec rfl (hb hbytes d15) rfl ?_
        refine sipushV Xl.here hexec rfl 255 (hb hbytes d17) (by decide) ?_
        refine XS.icmpYes Xl.here hexec rfl (pc0 := 20) rfl (hb hbytes d20) rfl (ii_le_t (hp i (by omega))) (by decide) rfl ?_
        refine XS.aloadN Xl.here hexec rfl (hb hbytes d26) rfl rfl ?_
        refine XS.iloadN Xl.here hexec rfl (hb hbytes d27) rfl ?_
        refine XS.iload Xl.here hexec rfl (hb hbytes d28) rfl ?_
        refine i2b Xl.here hexec rfl (hb hbytes d30) rfl ?_
        exact Steps.refl _)
      obtain ⟨T7, X7, p7, st7⟩ := Xl.aput hexec hBk rfl hlt rfl (fits_lo8 (cv A (o + i))) (g := (mkF m 31 #[.val (.ref b), .val (.int (Int32.ofNat (o + i))), .val (.ref d), .val (.int (Int32.ofNat (q + i))), .val (.int (Int32.ofNat len)), .val (.int (Int32.ofNat i)), .val (.int (cv A (o + i)))] [.int (lo8 (cv A (o + i))), .int (Int32.ofNat (q + i)), .ref d])) rfl (rest := []) rfl (hb hbytes d31)
      have c8 : Steps p.tables e below (s₁.setTop (entryFrame m #[.ref b, .int (Int32.ofNat o), .ref d, .int (Int32.ofNat q), .int (Int32.ofNat len)] 7)) (T7.setTop (mkF m 32 #[.val (.ref b), .val (.int (Int32.ofNat (o + i))), .val (.ref d), .val (.int (Int32.ofNat (q + i))), .val (.int (Int32.ofNat len)), .val (.int (Int32.ofNat i)), .val (.int (cv A (o + i)))] [])) := c6.trans (st7 _ (Steps.refl _))
      have c9 : Steps p.tables e below (s₁.setTop (entryFrame m #[.ref b, .int (Int32.ofNat o), .ref d, .int (Int32.ofNat q), .int (Int32.ofNat len)] 7)) (T7.setTop (mkF m 3 #[.val (.ref b), .val (.int (Int32.ofNat (o + i) + 1)), .val (.ref d), .val (.int (Int32.ofNat (q + i) + 1)), .val (.int (Int32.ofNat len)), .val (.int (Int32.ofNat i + 1)), .val (.int (cv A (o + i)))] [])) := c8.trans (by
        refine iincV X7.here hexec rfl 1 (hb hbytes d32) (by decide) rfl rfl ?_
        refine iincV X7.here hexec rfl 1 (hb hbytes d35) (by decide) rfl rfl ?_
        refine iincV X7.here hexec rfl 1 (hb hbytes d38) (by decide) rfl rfl ?_
        refine XS.goto X7.here hexec rfl (pc0 := 41) rfl (hb hbytes d41) (by decide) rfl ?_
        exact Steps.refl _)
      have c10 : Steps p.tables e below (s₁.setTop (entryFrame m #[.ref b, .int (Int32.ofNat o), .ref d, .int (Int32.ofNat q), .int (Int32.ofNat len)] 7)) (T7.setTop (mkF m 3 #[.val (.ref b), .val (.int (Int32.ofNat (o + (i + 1)))), .val (.ref d), .val (.int (Int32.ofNat (q + (i + 1)))), .val (.int (Int32.ofNat len)), .val (.int (Int32.ofNat (i + 1))), .val (.int (cv A (o + i)))] [])) := by
        have := c9
        rw [succ32, succ32, succ32] at this
        exact this
      exact ih (i + 1) (by omega) _ (Or.inr ⟨_, rfl, rfl⟩) T7 _ (by rw [copyLocs_step, ← List.append_assoc]; exact X7) (pl.trans p7) (fl.step (by omega) hlt (by simp)) c10
  obtain ⟨T9, B9, z9, X9, p9, f9, g9⟩ := loop len 0 (by omega) .unset (Or.inl rfl) s₁ B (by simpa [copyLocs] using X0) ⟨hB0.1, fun _ _ => rfl, rfl⟩ (Laid.zero _ _ _) c2
  have c11 : Steps p.tables e below (s₁.setTop (entryFrame m #[.ref b, .int (Int32.ofNat o), .ref d, .int (Int32.ofNat q), .int (Int32.ofNat len)] 7)) (T9.setTop (mkF m 46 #[.val (.ref b), .val (.int (Int32.ofNat (o + len))), .val (.ref d), .val (.int (Int32.ofNat (q + len))), .val (.int (Int32.ofNat len)), .val (.int (Int32.ofNat len)), z9] [.int (Int32.ofNat len)])) := g9.trans (by
    refine XS.iload X9.here hexec rfl (hb hbytes d3) rfl ?_
    refine XS.iload X9.here hexec rfl (hb hbytes d5) rfl ?_
    refine XS.icmpYes X9.here hexec rfl (pc0 := 7) rfl (hb hbytes d7) rfl (ii_ge_t (nlt32 (by omega) (Nat.le_refl _))) (by decide) rfl ?_
    refine XS.iload X9.here hexec rfl (hb hbytes d44) rfl ?_
    exact Steps.refl _)
  exact ⟨T9, some (.int (Int32.ofNat len)), _, _, _, X9, by simp, rfl, rfl, (fun h => by cases h), ⟨rfl, B9, p9.from hh0, f9⟩, fun fs hl => c11.trans (X9.ireturnOut hexec hret rfl (Or.inl rfl) (hb hbytes d46) hl)⟩
end Cmp5
namespace Cmp3
def yN : MethodName := ⟨"java/lang/StringUTF16", "compress", "([CII)[B"⟩
abbrev yB : ByteArray := jdk_52_method_16_code
theorem d0 : decode yB 0 = .ok (.iload_n 2, 1) := by decide +kernel
theorem d1 : decode yB 1 = .ok (.newarray .byte, 2) := by decide +kernel
theorem d3 : decode yB 3 = .ok (.astore_n 3, 1) := by decide +kernel
theorem d4 : decode yB 4 = .ok (.aload_n 0, 1) := by decide +kernel
theorem d5 : decode yB 5 = .ok (.iload_n 1, 1) := by decide +kernel
theorem d6 : decode yB 6 = .ok (.aload_n 3, 1) := by decide +kernel
theorem d7 : decode yB 7 = .ok (.iconst 0, 1) := by decide +kernel
theorem d8 : decode yB 8 = .ok (.iload_n 2, 1) := by decide +kernel
theorem d9 : decode yB 9 = .ok (.invokestatic 115, 3) := by decide +kernel
theorem d12 : decode yB 12 = .ok (.istore 4, 2) := by decide +kernel
theorem d14 : decode yB 14 = .ok (.iload 4, 2) := by decide +kernel
theorem d16 : decode yB 16 = .ok (.iload_n 2, 1) := by decide +kernel
theorem d17 : decode yB 17 = .ok (.if_icmp (.eq) 40, 3) := by decide +kernel
theorem d57 : decode yB 57 = .ok (.aload_n 3, 1) := by decide +kernel
theorem d58 : decode yB 58 = .ok (.areturn, 1) := by decide +kernel
def site : List Cond := [.arrayClass .byte, Cmp5.tab] ++ staticW U16 115 Cmp5.yN
def tab : Cond := tabOf yN yB 6 (some (.array .byte)) site
def P (b : Addr) (A : Cell) (o len : Nat) (args : Array Value) (s : State) : Prop := args = #[.ref b, .int (Int32.ofNat o), .int (Int32.ofNat len)] ∧ Ch b A s ∧ o + len ≤ A.slots.size ∧ len ≤ 536870912 ∧ ∀ i, i < len → ¬ 255 < cv A (o + i)
def E (b : Addr) (A : Cell) (o len : Nat) (r : Option Value) (s u : State) : Prop := NewArr .byte "[B" len (fun j => .int (lo8 (cv A (o + j)))) r s u ∧ u.heap.size = s.heap.size + 1
/-- no char of the range above 255: a new byte[] of their low bytes -/
theorem law (l : Launch) (b : Addr) (A : Cell) (o len : Nat) : Law l yN 3 3 1 18 yB 6 (some (.array .byte)) site (P b A o len) (E b A o len) [] 1 len := by
  refine Law.of_walk (plainFor_of_name (by decide +kernel)) (by decide +kernel) (by decide +kernel) (by decide) (fun _ _ h => by rw [h.1]; rfl) (fun _ U U' hal hh h => ⟨h.1, h.2.1.mv hal hh, h.2.2⟩) (fun r U U' V V' h1 hal h2 h => ⟨NewArr.mv r U U' V V' h1 hal h2 h.1, by rw [h1, h2]; exact h.2⟩) ?_
  intro p e s m args below meth c s₁ X0 hexec hbytes hml hret hlk hnm hown hh0 W hP
  obtain ⟨rfl, hA, l1, l2, hp⟩ := hP
  have a31 := hA.1.2.2.2
  have c1 : Steps p.tables e below (s₁.setTop (entryFrame m #[.ref b, .int (Int32.ofNat o), .int (Int32.ofNat len)] 6)) (s₁.setTop (mkF m 0 #[.val (.ref b), .val (.int (Int32.ofNat o)), .val (.int (Int32.ofNat len)), .unset, .unset, .unset] [])) := entry rfl
  have c2 : Steps p.tables e below (s₁.setTop (entryFrame m #[.ref b, .int (Int32.ofNat o), .int (Int32.ofNat len)] 6)) (s₁.setTop (mkF m 1 #[.val (.ref b), .val (.int (Int32.ofNat o)), .val (.int (Int32.ofNat len)), .unset, .unset, .unset] [.int (Int32.ofNat len)])) := c1.trans (by
    refine XS.iloadN X0.here hexec rfl (hb hbytes d0) rfl ?_
    exact Steps.refl _)
  obtain ⟨T3, B3, X3, ba3, bs3, bv3, bh3, bf3, st3⟩ := X0.anew hexec (atype := .byte) (wk W (.arrayClass .byte)) rfl (by show len * 1 ≤ _; omega) (by omega) (g := (mkF m 1 #[.val (.ref b), .val (.int (Int32.ofNat o)), .val (.int (Int32.ofNat len)), .unset, .unset, .unset] [.int (Int32.ofNat len)])) rfl (hb hbytes d1) (rest := []) rfl (Nat.le_refl _) (by show 0 + len ≤ len; omega)
  rw [hh0] at ba3 st3
  have kp3 : XT.Kept s T3 := (XT.Kept.of_eq hh0).push bh3
  have hA3 := hA.keep X3.warmed.alike (kp3 _ _ hA.1.1)
  have hne : b ≠ s.heap.size := hA.1.ne
  have c4 : Steps p.tables e below (s₁.setTop (entryFrame m #[.ref b, .int (Int32.ofNat o), .int (Int32.ofNat len)] 6)) (T3.setTop (mkF m 3 #[.val (.ref b), .val (.int (Int32.ofNat o)), .val (.int (Int32.ofNat len)), .unset, .unset, .unset] [.ref s.heap.size])) := c2.trans (st3 _ (Steps.refl _))
  have c5 : Steps p.tables e below (s₁.setTop (entryFrame m #[.ref b, .int (Int32.ofNat o), .int (Int32.ofNat len)] 6)) (T3.setTop (mkF m 9 #[.val (.ref b), .val (.int (Int32.ofNat o)), .val (.int (Int32.ofNat len)), .val (.ref s.heap.size), .unset, .unset] [.int (Int32.ofNat len), .int 0, .ref s.heap.size, .int (Int32.ofNat o), .ref b])) := c4.trans (by
    refine XS.astoreN X3.here hexec rfl (hb hbytes d3) rfl rfl rfl ?_
    refine XS.aloadN X3.here hexec rfl (hb hbytes d4) rfl rfl ?_
    refine XS.iloadN X3.here hexec rfl (hb hbytes d5) rfl ?_
    refine XS.aloadN X3.here hexec rfl (hb hbytes d6) rfl rfl ?_
    refine iconstV X3.here hexec rfl 0 (hb hbytes d7) (by decide) ?_
    refine XS.iloadN X3.here hexec rfl (hb hbytes d8) rfl ?_
    exact Steps.refl _)
  obtain ⟨v6, T6, X6, E6, g6⟩ := X3.callS hexec (Cmp5.law l b A s.heap.size B3 o 0 len) hown (wks W (staticW U16 115 Cmp5.yN)) (wk W Cmp5.tab) (W := 0) (Nat.le_of_ble_eq_true rfl) (Nat.le_of_ble_eq_true rfl) (Nat.le_refl _) (by show 0 + len + 0 ≤ len; omega) (g := (mkF m 9 #[.val (.ref b), .val (.int (Int32.ofNat o)), .val (.int (Int32.ofNat len)), .val (.ref s.heap.size), .unset, .unset] [.int (Int32.ofNat len), .int (Int32.ofNat 0), .ref s.heap.size, .int (Int32.ofNat o), .ref b])) rfl (by rw [hml]; rfl) c5 (argsL := [.ref b, .int (Int32.ofNat o), .ref s.heap.size, .int (Int32.ofNat 0), .int (Int32.ofNat len)]) (rest := []) rfl rfl (by show 2 * 0 + 0 ≤ _; decide) (hb hbytes d9) (⟨rfl, hA3, ba3, hne, l1, by rw [bs3]; simp, hp⟩)
  obtain ⟨rfl, B6, p6, f6⟩ := E6
  have c7 : Steps p.tables e below (s₁.setTop (entryFrame m #[.ref b, .int (Int32.ofNat o), .int (Int32.ofNat len)] 6)) (T6.setTop (mkF m 12 #[.val (.ref b), .val (.int (Int32.ofNat o)), .val (.int (Int32.ofNat len)), .val (.ref s.heap.size), .unset, .unset] [.int (Int32.ofNat len)])) := g6
  have c8 : Steps p.tables e below (s₁.setTop (entryFrame m #[.ref b, .int (Int32.ofNat o), .int (Int32.ofNat len)] 6)) (T6.setTop (mkF m 58 #[.val (.ref b), .val (.int (Int32.ofNat o)), .val (.int (Int32.ofNat len)), .val (.ref s.heap.size), .val (.int (Int32.ofNat len)), .unset] [.ref s.heap.size])) := c7.trans (by
    refine XS.istore X6.here hexec rfl (hb hbytes d12) rfl rfl ?_
    refine XS.iload X6.here hexec rfl (hb hbytes d14) rfl ?_
    refine XS.iloadN X6.here hexec rfl (hb hbytes d16) rfl ?_
    refine XS.icmpYes X6.here hexec rfl (pc0 := 17) rfl (hb hbytes d17) rfl (ii_eq_t rfl) (by decide) rfl ?_
    refine XS.aloadN X6.here hexec rfl (hb hbytes d57) rfl rfl ?_
    exact Steps.refl _)
  have X8 := X6.wide (L' := []) (cells' := 1) (slots' := len) (fun x hx hlt => by
    simp only [List.nil_append, copyLocs, List.mem_map, List.mem_range] at hx
    obtain ⟨i, -, rfl⟩ := hx
    exact absurd hlt (Nat.lt_irrefl _)) (Nat.le_refl _) (by omega)
  exact ⟨T6, some (.ref s.heap.size), _, _, _, X8, rfl, rfl, rfl, (fun h => by cases h), ⟨⟨rfl, B6, ba3.like (X3.warmed.alike.symm.trans X6.warmed.alike) p6.1 f6.1 f6.2.1 f6.2.2.1, f6.2.1.trans bv3, by rw [X6.warmed.alike.findClass, f6.1]; exact bf3, by rw [f6.2.2.1, bs3]; simp, fun j hj => by rw [f6.2.2.2 j, if_pos (by omega)]; rfl, kp3.put p6 (Nat.le_refl _)⟩, by rw [p6.2.2, bh3, hh0]; simp⟩, fun fs hl => c8.trans (X8.areturnOut hexec rfl hret rfl (hb hbytes d58) hl)⟩
end Cmp3
namespace CodL
def yN : MethodName := ⟨"java/lang/StringUTF16", "coderFromArrayLen", "([BI)B"⟩
abbrev yB : ByteArray := jdk_52_method_15_code
theorem d0 : decode yB 0 = .ok (.iload_n 1, 1) := by decide +kernel
theorem d1 : decode yB 1 = .ok (.aload_n 0, 1) := by decide +kernel
theorem d2 : decode yB 2 = .ok (.arraylength, 1) := by decide +kernel
theorem d3 : decode yB 3 = .ok (.isub, 1) := by decide +kernel
theorem d4 : decode yB 4 = .ok (.bipush 31, 2) := by decide +kernel
theorem d6 : decode yB 6 = .ok (.iushr, 1) := by decide +kernel
theorem d7 : decode yB 7 = .ok (.i2b, 1) := by decide +kernel
theorem d8 : decode yB 8 = .ok (.ireturn, 1) := by decide +kernel
def site : List Cond := []
def tab : Cond := tabOf yN yB 2 (some .byte) site
def P (d : Addr) (B : Cell) (args : Array Value) (s : State) : Prop := args = #[.ref d, .int (Int32.ofNat B.slots.size)] ∧ Arr .byte d B s
def E (r : Option Value) (s u : State) : Prop := XT.PureE (some (.int 0)) r s u
/-- an array as long as the number of chars: LATIN1 -/
theorem law (l : Launch) (d : Addr) (B : Cell) : Law l yN 2 2 0 0 yB 2 (some .byte) site (P d B) E [] 0 0 := by
  refine Law.of_walk (plainFor_of_name (by decide +kernel)) (by decide +kernel) (by decide +kernel) (by decide) (fun _ _ h => by rw [h.1]; rfl) (fun _ U U' hal hh h => ⟨h.1, h.2.mv hal hh⟩) (fun r U U' V V' h1 hal h2 h => XT.PureE.mv r U U' V V' h1 hal h2 h) ?_
  intro p e s m args below meth c s₁ X0 hexec hbytes hml hret hlk hnm hown hh0 W hP
  obtain ⟨rfl, hB⟩ := hP
  have hB0 := hB.mv X0.warmed.alike hh0
  have c1 : Steps p.tables e below (s₁.setTop (entryFrame m #[.ref d, .int (Int32.ofNat B.slots.size)] 2)) (s₁.setTop (mkF m 0 #[.val (.ref d), .val (.int (Int32.ofNat B.slots.size))] [])) := entry rfl
  have c2 : Steps p.tables e below (s₁.setTop (entryFrame m #[.ref d, .int (Int32.ofNat B.slots.size)] 2)) (s₁.setTop (mkF m 2 #[.val (.ref d), .val (.int (Int32.ofNat B.slots.size))] [.ref d, .int (Int32.ofNat B.slots.size)])) := c1.trans (by
    refine XS.iloadN X0.here hexec rfl (hb hbytes d0) rfl ?_
    refine XS.aloadN X0.here hexec rfl (hb hbytes d1) rfl rfl ?_
    exact Steps.refl _)
  have c3 : Steps p.tables e below (s₁.setTop (entryFrame m #[.ref d, .int (Int32.ofNat B.slots.size)] 2)) (s₁.setTop (mkF m 8 #[.val (.ref d), .val (.int (Int32.ofNat B.slots.size))] [.int (lo8 (ushr (Int32.ofNat B.slots.size - Int32.ofNat B.slots.size) 31))])) := c2.trans (by
    refine X0.alen hexec hB0 rfl rfl (hb hbytes d2) ?_
    refine XS.isub X0.here hexec rfl (hb hbytes d3) rfl ?_
    refine bipushV X0.here hexec rfl 31 (hb hbytes d4) (by decide) ?_
    refine iushr X0.here hexec rfl (hb hbytes d6) rfl ?_
    refine i2b X0.here hexec rfl (hb hbytes d7) rfl ?_
    exact Steps.refl _)
  have e0 : lo8 (ushr (Int32.ofNat B.slots.size - Int32.ofNat B.slots.size) 31) = 0 := by rw [Int32.sub_self]; decide
  rw [e0] at c3
  exact ⟨s₁, some (.int 0), _, _, _, X0, rfl, rfl, rfl, (fun h => by cases h), ⟨rfl, hh0⟩, fun fs hl => c3.trans (X0.ireturnOut hexec hret rfl (Or.inr (Or.inr (Or.inl rfl))) (hb hbytes d8) hl)⟩
end CodL
/-- the String at a is Latin-1 over a new byte[] (the heap's one new cell): the low bytes of the len chars of A from o on; every cell but a is kept -/
def Got (a : Addr) (D : Cell) (fV fC : Field) (A : Cell) (o len : Nat) (r : Option Value) (s u : State) : Prop := r = none ∧ ∃ D' V : Cell, Blank "java/lang/String" a D' u ∧ Same D D' [fV.slot, fC.slot] ∧ D'.slots[fV.slot]? = some (.ref s.heap.size) ∧ D'.slots[fC.slot]? = some (.int 0) ∧ Arr .byte s.heap.size V u ∧ V.vm = .none ∧ u.vm.findClass "[B" = some V.cls ∧ V.slots.size = len ∧ (∀ j, j < len → V.slots[j]? = some (.int (lo8 (cv A (o + j))))) ∧ (∀ (y : Addr) (c : Cell), y ≠ a → s.heap[y]? = some c → u.heap[y]? = some c) ∧ u.heap.size = s.heap.size + 1
theorem Got.mv {a : Addr} {D A : Cell} {fV fC : Field} {o len : Nat} : ∀ r (U U' V V' : State), U'.heap = U.heap → V.vm.Alike V'.vm → V'.heap = V.heap → Got a D fV fC A o len r U V → Got a D fV fC A o len r U' V' :=
  fun r U U' V V' h1 hal h2 ⟨e0, D', X, a1, a2, a3, a4, a5, a6, a7, a8, a9, a10, a11⟩ => ⟨e0, D', X, a1.mv hal h2, a2, by rw [h1]; exact a3, a4, by rw [h1]; exact a5.mv hal h2, a6, by rw [hal.findClass]; exact a7, a8, a9, by rw [h1, h2]; exact a10, by rw [h1, h2]; exact a11⟩
namespace New4
def yN : MethodName := ⟨"java/lang/String", "<init>", "([CIILjava/lang/Void;)V"⟩
abbrev yB : ByteArray := jdk_42_method_149_code
theorem d0 : decode yB 0 = .ok (.aload_n 0, 1) := by decide +kernel
theorem d1 : decode yB 1 = .ok (.invokespecial 1, 3) := by decide +kernel
theorem d4 : decode yB 4 = .ok (.iload_n 3, 1) := by decide +kernel
theorem d5 : decode yB 5 = .ok (.ifCond (.ne) 22, 3) := by decide +kernel
theorem d27 : decode yB 27 = .ok (.getstatic 38, 3) := by decide +kernel
theorem d30 : decode yB 30 = .ok (.ifCond (.eq) 28, 3) := by decide +kernel
theorem d33 : decode yB 33 = .ok (.aload_n 1, 1) := by decide +kernel
theorem d34 : decode yB 34 = .ok (.iload_n 2, 1) := by decide +kernel
theorem d35 : decode yB 35 = .ok (.iload_n 3, 1) := by decide +kernel
theorem d36 : decode yB 36 = .ok (.invokestatic 177, 3) := by decide +kernel
theorem d39 : decode yB 39 = .ok (.astore 5, 2) := by decide +kernel
theorem d41 : decode yB 41 = .ok (.aload_n 0, 1) := by decide +kernel
theorem d42 : decode yB 42 = .ok (.aload 5, 2) := by decide +kernel
theorem d44 : decode yB 44 = .ok (.iload_n 3, 1) := by decide +kernel
theorem d45 : decode yB 45 = .ok (.invokestatic 47, 3) := by decide +kernel
theorem d48 : decode yB 48 = .ok (.putfield 15, 3) := by decide +kernel
theorem d51 : decode yB 51 = .ok (.aload_n 0, 1) := by decide +kernel
theorem d52 : decode yB 52 = .ok (.aload 5, 2) := by decide +kernel
theorem d54 : decode yB 54 = .ok (.putfield 9, 3) := by decide +kernel
theorem d57 : decode yB 57 = .ok (.return_, 1) := by decide +kernel
def site : List Cond := [.fieldLink "java/lang/String" 38 "java/lang/String" "COMPACT_STRINGS" "Z", Cmp3.tab, CodL.tab, .laysFinal "java/lang/String" "java/lang/String" "value" "[B", .fieldLink "java/lang/String" 9 "java/lang/String" "value" "[B", .laysFinal "java/lang/String" "java/lang/String" "coder" "B", .fieldLink "java/lang/String" 15 "java/lang/String" "coder" "B"] ++ objW "java/lang/String" 1 ++ staticW "java/lang/String" 177 Cmp3.yN ++ staticW "java/lang/String" 47 CodL.yN
def tab : Cond := tabOf yN yB 6 none site
def P (a : Addr) (D : Cell) (fV fC : Field) (b : Addr) (A : Cell) (z : Int32) (o len : Nat) (args : Array Value) (s : State) : Prop := args = #[.ref a, .ref b, .int (Int32.ofNat o), .int (Int32.ofNat len), .null] ∧ Blank "java/lang/String" a D s ∧ Found "java/lang/String" "value" "[B" fV s ∧ Found "java/lang/String" "coder" "B" fC s ∧ Ch b A s ∧ StaticIs s "java/lang/String" "COMPACT_STRINGS" "Z" (.int z) ∧ ¬ z = 0 ∧ 0 < len ∧ o + len ≤ A.slots.size ∧ len ≤ 536870912 ∧ ∀ i, i < len → ¬ 255 < cv A (o + i)
def E (a : Addr) (D : Cell) (fV fC : Field) (A : Cell) (o len : Nat) (r : Option Value) (s u : State) : Prop := Got a D fV fC A o len r s u
/-- len > 0, no char of the range above 255: a Latin-1 String of their low bytes -/
theorem law (l : Launch) (a : Addr) (D : Cell) (fV fC : Field) (b : Addr) (A : Cell) (z : Int32) (o len : Nat) : Law l yN 5 4 2 35 yB 6 none site (P a D fV fC b A z o len) (E a D fV fC A o len) [⟨a, fC.slot⟩, ⟨a, fV.slot⟩] 1 len := by
  refine Law.of_walk (plainFor_of_name (by decide +kernel)) (by decide +kernel) (by decide +kernel) (by decide) (fun _ _ h => by rw [h.1]; rfl) (fun _ U U' hal hh h => ⟨h.1, h.2.1.mv hal hh, h.2.2.1.al hal, h.2.2.2.1.al hal, h.2.2.2.2.1.mv hal hh, h.2.2.2.2.2.1.there hal hh, h.2.2.2.2.2.2⟩) (fun r U U' V V' h1 hal h2 h => Got.mv r U U' V V' h1 hal h2 h) ?_
  intro p e s m args below meth c s₁ X0 hexec hbytes hml hret hlk hnm hown hh0 W hP
  obtain ⟨rfl, hB, f1, f2, hA, s1, hz, l0, l1, l2, hp⟩ := hP
  have a31 := hA.1.2.2.2
  have c1 : Steps p.tables e below (s₁.setTop (entryFrame m #[.ref a, .ref b, .int (Int32.ofNat o), .int (Int32.ofNat len), .null] 6)) (s₁.setTop (mkF m 0 #[.val (.ref a), .val (.ref b), .val (.int (Int32.ofNat o)), .val (.int (Int32.ofNat len)), .val .null, .unset] [])) := entry rfl
  have c2 : Steps p.tables e below (s₁.setTop (entryFrame m #[.ref a, .ref b, .int (Int32.ofNat o), .int (Int32.ofNat len), .null] 6)) (s₁.setTop (mkF m 1 #[.val (.ref a), .val (.ref b), .val (.int (Int32.ofNat o)), .val (.int (Int32.ofNat len)), .val .null, .unset] [.ref a])) := c1.trans (by
    refine XS.aloadN X0.here hexec rfl (hb hbytes d0) rfl rfl ?_
    exact Steps.refl _)
  obtain ⟨T3, X3, q3, st3⟩ := X0.oinit hexec hown (wks W (objW "java/lang/String" 1)) (g := (mkF m 1 #[.val (.ref a), .val (.ref b), .val (.int (Int32.ofNat o)), .val (.int (Int32.ofNat len)), .val .null, .unset] [.ref a])) rfl (by rw [hml]; rfl) (rest := []) rfl (hb hbytes d1) (W := 0) (by show 2 * 0 + 0 ≤ _; decide) (Nat.le_of_ble_eq_true rfl) (Nat.le_of_ble_eq_true rfl)
  have hh3 := q3.trans hh0
  have c4 : Steps p.tables e below (s₁.setTop (entryFrame m #[.ref a, .ref b, .int (Int32.ofNat o), .int (Int32.ofNat len), .null] 6)) (T3.setTop (mkF m 27 #[.val (.ref a), .val (.ref b), .val (.int (Int32.ofNat o)), .val (.int (Int32.ofNat len)), .val .null, .unset] [])) := (c2.trans (st3 _ (Steps.refl _))).trans (by
    refine XS.iloadN X3.here hexec rfl (hb hbytes d4) rfl ?_
    refine XS.ifYes X3.here hexec rfl (pc0 := 5) rfl (hb hbytes d5) rfl (i0_ne_t (nz32 (by omega) l0)) (by decide) rfl ?_
    exact Steps.refl _)
  obtain ⟨T5, X5, q5, st5⟩ := X3.sget hexec hown (wk W (.fieldLink "java/lang/String" 38 "java/lang/String" "COMPACT_STRINGS" "Z")) s1 (fun _ _ h => by rw [hh3]; exact h) (g := (mkF m 27 #[.val (.ref a), .val (.ref b), .val (.int (Int32.ofNat o)), .val (.int (Int32.ofNat len)), .val .null, .unset] [])) rfl (hb hbytes d27)
  have hh5 := q5.trans hh3
  have c6 : Steps p.tables e below (s₁.setTop (entryFrame m #[.ref a, .ref b, .int (Int32.ofNat o), .int (Int32.ofNat len), .null] 6)) (T5.setTop (mkF m 30 #[.val (.ref a), .val (.ref b), .val (.int (Int32.ofNat o)), .val (.int (Int32.ofNat len)), .val .null, .unset] [.int z])) := c4.trans (st5 _ (Steps.refl _))
  have c7 : Steps p.tables e below (s₁.setTop (entryFrame m #[.ref a, .ref b, .int (Int32.ofNat o), .int (Int32.ofNat len), .null] 6)) (T5.setTop (mkF m 36 #[.val (.ref a), .val (.ref b), .val (.int (Int32.ofNat o)), .val (.int (Int32.ofNat len)), .val .null, .unset] [.int (Int32.ofNat len), .int (Int32.ofNat o), .ref b])) := c6.trans (by
    refine XS.ifNo X5.here hexec rfl (hb hbytes d30) rfl (i0_eq_f hz) ?_
    refine XS.aloadN X5.here hexec rfl (hb hbytes d33) rfl rfl ?_
    refine XS.iloadN X5.here hexec rfl (hb hbytes d34) rfl ?_
    refine XS.iloadN X5.here hexec rfl (hb hbytes d35) rfl ?_
    exact Steps.refl _)
  obtain ⟨v8, T8, X8, E8, g8⟩ := X5.callS hexec (Cmp3.law l b A o len) hown (wks W (staticW "java/lang/String" 177 Cmp3.yN)) (wk W Cmp3.tab) (W := 0) (Nat.le_of_ble_eq_true rfl) (Nat.le_of_ble_eq_true rfl) (Nat.le_refl _) (by show 0 + len ≤ len; omega) (g := (mkF m 36 #[.val (.ref a), .val (.ref b), .val (.int (Int32.ofNat o)), .val (.int (Int32.ofNat len)), .val .null, .unset] [.int (Int32.ofNat len), .int (Int32.ofNat o), .ref b])) rfl (by rw [hml]; rfl) c7 (argsL := [.ref b, .int (Int32.ofNat o), .int (Int32.ofNat len)]) (rest := []) rfl rfl (by show 2 * 0 + 0 ≤ _; decide) (hb hbytes d36) (⟨rfl, hA.mv X5.warmed.alike hh5, l1, l2, hp⟩)
  obtain ⟨e8, z8⟩ := E8
  obtain ⟨rfl, N, n1, n2, n3, n4, n5, n6⟩ := NewArr.mv _ T5 s _ _ hh5.symm (Vm.Alike.refl _) rfl e8
  rw [hh5] at z8
  have hB1 := hB.keep X8.warmed.alike (n6 _ _ hB.1)
  have hne : s.heap.size ≠ a := (Nat.ne_of_lt (Array.getElem?_eq_some_iff.mp hB.1).1).symm
  have c9 : Steps p.tables e below (s₁.setTop (entryFrame m #[.ref a, .ref b, .int (Int32.ofNat o), .int (Int32.ofNat len), .null] 6)) (T8.setTop (mkF m 39 #[.val (.ref a), .val (.ref b), .val (.int (Int32.ofNat o)), .val (.int (Int32.ofNat len)), .val .null, .unset] [.ref s.heap.size])) := g8
  have c10 : Steps p.tables e below (s₁.setTop (entryFrame m #[.ref a, .ref b, .int (Int32.ofNat o), .int (Int32.ofNat len), .null] 6)) (T8.setTop (mkF m 45 #[.val (.ref a), .val (.ref b), .val (.int (Int32.ofNat o)), .val (.int (Int32.ofNat len)), .val .null, .val (.ref s.heap.size)] [.int (Int32.ofNat N.slots.size), .ref s.heap.size, .ref a])) := by
    have hc : Steps p.tables e below (s₁.setTop (entryFrame m #[.ref a, .ref b, .int (Int32.ofNat o), .int (Int32.ofNat len), .null] 6)) (T8.setTop (mkF m 45 #[.val (.ref a), .val (.ref b), .val (.int (Int32.ofNat o)), .val (.int (Int32.ofNat len)), .val .null, .val (.ref s.heap.size)] [.int (Int32.ofNat len), .ref s.heap.size, .ref a])) := c9.trans (by
      refine XS.astore X8.here hexec rfl (hb hbytes d39) rfl rfl rfl ?_
      refine XS.aloadN X8.here hexec rfl (hb hbytes d41) rfl rfl ?_
      refine XS.aload X8.here hexec rfl (hb hbytes d42) rfl rfl ?_
      refine XS.iloadN X8.here hexec rfl (hb hbytes d44) rfl ?_
      exact Steps.refl _)
    rw [n4]; exact hc
  obtain ⟨v11, T11, X11, E11, g11⟩ := X8.callS hexec (CodL.law l s.heap.size N) hown (wks W (staticW "java/lang/String" 47 CodL.yN)) (wk W CodL.tab) (W := 1) (Nat.le_of_ble_eq_true rfl) (Nat.le_of_ble_eq_true rfl) (Nat.le_refl _) (by show 0 + len + 0 ≤ len; omega) (g := (mkF m 45 #[.val (.ref a), .val (.ref b), .val (.int (Int32.ofNat o)), .val (.int (Int32.ofNat len)), .val .null, .val (.ref s.heap.size)] [.int (Int32.ofNat N.slots.size), .ref s.heap.size, .ref a])) rfl (by rw [hml]; rfl) c10 (argsL := [.ref s.heap.size, .int (Int32.ofNat N.slots.size)]) (rest := [.ref a]) rfl rfl (by show 2 * 0 + (1 + 0) ≤ _; decide) (hb hbytes d45) (⟨rfl, n1⟩)
  obtain ⟨rfl, q11⟩ := E11
  have hB11 := hB1.mv (X8.warmed.alike.symm.trans X11.warmed.alike) q11
  have c12 : Steps p.tables e below (s₁.setTop (entryFrame m #[.ref a, .ref b, .int (Int32.ofNat o), .int (Int32.ofNat len), .null] 6)) (T11.setTop (mkF m 48 #[.val (.ref a), .val (.ref b), .val (.int (Int32.ofNat o)), .val (.int (Int32.ofNat len)), .val .null, .val (.ref s.heap.size)] [.int 0, .ref a])) := g11
  obtain ⟨T13, X13, p13, bl13, sl13, st13⟩ := X11.finit hexec hown (wk W (.fieldLink "java/lang/String" 15 "java/lang/String" "coder" "B")) (Or.inr ⟨_, (wk W (.laysFinal "java/lang/String" "java/lang/String" "coder" "B"))⟩) (Or.inl ⟨rfl, hnm⟩) f2 (Or.inl rfl) hB11 (t := .byte) (by decide +kernel) rfl (g := (mkF m 48 #[.val (.ref a), .val (.ref b), .val (.int (Int32.ofNat o)), .val (.int (Int32.ofNat len)), .val .null, .val (.ref s.heap.size)] [.int 0, .ref a])) rfl (rest := []) rfl (hb hbytes d48)
  have c14 : Steps p.tables e below (s₁.setTop (entryFrame m #[.ref a, .ref b, .int (Int32.ofNat o), .int (Int32.ofNat len), .null] 6)) (T13.setTop (mkF m 54 #[.val (.ref a), .val (.ref b), .val (.int (Int32.ofNat o)), .val (.int (Int32.ofNat len)), .val .null, .val (.ref s.heap.size)] [.ref s.heap.size, .ref a])) := (c12.trans (st13 _ (Steps.refl _))).trans (by
    refine XS.aloadN X13.here hexec rfl (hb hbytes d51) rfl rfl ?_
    refine XS.aload X13.here hexec rfl (hb hbytes d52) rfl rfl ?_
    exact Steps.refl _)
  obtain ⟨T15, X15, p15, bl15, sl15, st15⟩ := X13.finit hexec hown (wk W (.fieldLink "java/lang/String" 9 "java/lang/String" "value" "[B")) (Or.inr ⟨_, (wk W (.laysFinal "java/lang/String" "java/lang/String" "value" "[B"))⟩) (Or.inl ⟨rfl, hnm⟩) f1 (Or.inl rfl) bl13 (t := (.array .byte)) (by decide +kernel) rfl (g := (mkF m 54 #[.val (.ref a), .val (.ref b), .val (.int (Int32.ofNat o)), .val (.int (Int32.ofNat len)), .val .null, .val (.ref s.heap.size)] [.ref s.heap.size, .ref a])) rfl (rest := []) rfl (hb hbytes d54)
  have c16 : Steps p.tables e below (s₁.setTop (entryFrame m #[.ref a, .ref b, .int (Int32.ofNat o), .int (Int32.ofNat len), .null] 6)) (T15.setTop (mkF m 57 #[.val (.ref a), .val (.ref b), .val (.int (Int32.ofNat o)), .val (.int (Int32.ofNat len)), .val .null, .val (.ref s.heap.size)] [])) := c14.trans (st15 _ (Steps.refl _))
  have ap := apart (Or.inr ⟨_, (wk W (.laysFinal "java/lang/String" "java/lang/String" "value" "[B"))⟩) (Or.inr ⟨_, (wk W (.laysFinal "java/lang/String" "java/lang/String" "coder" "B"))⟩) f1 f2 (t₁ := .array .byte) (t₂ := .byte) (by decide +kernel) (by decide +kernel) (by decide)
  have al := X8.warmed.alike.symm.trans X15.warmed.alike
  have n7 : T11.heap[s.heap.size]? = some N := by rw [q11]; exact n1.1
  exact ⟨T15, none, _, _, _, X15, by simp, rfl, by omega, (fun _ => rfl), ⟨rfl, _, N, bl15, ((Same.refl D _).set _ (by simp)).set _ (by simp), sl15, (Cell.slots_setSlot_ne _ ap).trans sl13, n1.keep al (p15.other hne (p13.other hne n7)), n2, by rw [al.findClass]; exact n3, n4, n5, fun y c h1 h2 => p15.other h1 (p13.other h1 (by rw [q11]; exact n6 y c h2)), by rw [p15.2.2, p13.2.2, q11]; exact z8⟩, fun fs hl => c16.trans (X15.returnOut hexec hret (hb hbytes d57) hl)⟩
end New4
namespace New1
def yN : MethodName := ⟨"java/lang/String", "<init>", "([C)V"⟩
abbrev yB : ByteArray := jdk_42_method_3_code
theorem d0 : decode yB 0 = .ok (.aload_n 0, 1) := by decide +kernel
theorem d1 : decode yB 1 = .ok (.aload_n 1, 1) := by decide +kernel
theorem d2 : decode yB 2 = .ok (.iconst 0, 1) := by decide +kernel
theorem d3 : decode yB 3 = .ok (.aload_n 1, 1) := by decide +kernel
theorem d4 : decode yB 4 = .ok (.arraylength, 1) := by decide +kernel
theorem d5 : decode yB 5 = .ok (.aconst_null, 1) := by decide +kernel
theorem d6 : decode yB 6 = .ok (.invokespecial 27, 3) := by decide +kernel
theorem d9 : decode yB 9 = .ok (.return_, 1) := by decide +kernel
def site : List Cond := [New4.tab] ++ initW "java/lang/String" 27 New4.yN
def tab : Cond := tabOf yN yB 2 none site
def P (a : Addr) (D : Cell) (fV fC : Field) (b : Addr) (A : Cell) (z : Int32) (args : Array Value) (s : State) : Prop := args = #[.ref a, .ref b] ∧ Blank "java/lang/String" a D s ∧ Found "java/lang/String" "value" "[B" fV s ∧ Found "java/lang/String" "coder" "B" fC s ∧ Ch b A s ∧ StaticIs s "java/lang/String" "COMPACT_STRINGS" "Z" (.int z) ∧ ¬ z = 0 ∧ 0 < A.slots.size ∧ A.slots.size ≤ 536870912 ∧ ∀ i, i < A.slots.size → ¬ 255 < cv A i
def E (a : Addr) (D : Cell) (fV fC : Field) (A : Cell) (r : Option Value) (s u : State) : Prop := Got a D fV fC A 0 A.slots.size r s u
/-- new String(chars), not empty, no char above 255: a Latin-1 String of their low bytes -/
theorem law (l : Launch) (a : Addr) (D : Cell) (fV fC : Field) (b : Addr) (A : Cell) (z : Int32) : Law l yN 2 1 3 52 yB 2 none site (P a D fV fC b A z) (E a D fV fC A) [⟨a, fC.slot⟩, ⟨a, fV.slot⟩] 1 A.slots.size := by
  refine Law.of_walk (plainFor_of_name (by decide +kernel)) (by decide +kernel) (by decide +kernel) (by decide) (fun _ _ h => by rw [h.1]; rfl) (fun _ U U' hal hh h => ⟨h.1, h.2.1.mv hal hh, h.2.2.1.al hal, h.2.2.2.1.al hal, h.2.2.2.2.1.mv hal hh, h.2.2.2.2.2.1.there hal hh, h.2.2.2.2.2.2⟩) (fun r U U' V V' h1 hal h2 h => Got.mv r U U' V V' h1 hal h2 h) ?_
  intro p e s m args below meth c s₁ X0 hexec hbytes hml hret hlk hnm hown hh0 W hP
  obtain ⟨rfl, hB, f1, f2, hA, s1, hz, l0, l2, hp⟩ := hP
  have c1 : Steps p.tables e below (s₁.setTop (entryFrame m #[.ref a, .ref b] 2)) (s₁.setTop (mkF m 0 #[.val (.ref a), .val (.ref b)] [])) := entry rfl
  have c2 : Steps p.tables e below (s₁.setTop (entryFrame m #[.ref a, .ref b] 2)) (s₁.setTop (mkF m 6 #[.val (.ref a), .val (.ref b)] [.null, .int (Int32.ofNat A.slots.size), .int 0, .ref b, .ref a])) := c1.trans (by
    refine XS.aloadN X0.here hexec rfl (hb hbytes d0) rfl rfl ?_
    refine XS.aloadN X0.here hexec rfl (hb hbytes d1) rfl rfl ?_
    refine iconstV X0.here hexec rfl 0 (hb hbytes d2) (by decide) ?_
    refine XS.aloadN X0.here hexec rfl (hb hbytes d3) rfl rfl ?_
    refine X0.alen hexec (hA.1.mv X0.warmed.alike hh0) rfl rfl (hb hbytes d4) ?_
    refine XS.aconstNull X0.here hexec rfl (hb hbytes d5) ?_
    exact Steps.refl _)
  obtain ⟨v3, T3, X3, E3, g3⟩ := X0.callN hexec (New4.law l a D fV fC b A z 0 A.slots.size) rfl hown (wks W (initW "java/lang/String" 27 New4.yN)) (W New4.tab (by simp only [site, List.mem_cons, List.mem_append, true_or, or_true])) (W := 0) (Nat.le_of_ble_eq_true rfl) (Nat.le_of_ble_eq_true rfl) (Nat.le_refl _) (by show 0 + A.slots.size ≤ A.slots.size; omega) (g := (mkF m 6 #[.val (.ref a), .val (.ref b)] [.null, .int (Int32.ofNat A.slots.size), .int (Int32.ofNat 0), .ref b, .ref a])) rfl (by rw [hml]; rfl) c2 (argsL := [.ref b, .int (Int32.ofNat 0), .int (Int32.ofNat A.slots.size), .null]) (rest := []) rfl rfl (by show 2 * 0 + 0 ≤ _; decide) (hb hbytes d6) (⟨rfl, hB.mv X0.warmed.alike hh0, f1.al X0.warmed.alike, f2.al X0.warmed.alike, hA.mv X0.warmed.alike hh0, s1.there X0.warmed.alike hh0, hz, l0, by omega, l2, fun i hi => by rw [Nat.zero_add]; exact hp i hi⟩)
  have e0 := Got.mv _ s₁ s _ _ hh0.symm (Vm.Alike.refl _) rfl E3
  obtain rfl := e0.1
  have c4 : Steps p.tables e below (s₁.setTop (entryFrame m #[.ref a, .ref b] 2)) (T3.setTop (mkF m 9 #[.val (.ref a), .val (.ref b)] [])) := g3
  exact ⟨T3, none, _, _, _, X3, by simp, rfl, by omega, (fun _ => rfl), e0, fun fs hl => c4.trans (X3.returnOut hexec hret (hb hbytes d9) hl)⟩
theorem pays {l : Launch} {R : Room} {p : Program} {e : Env} {below : List Frame} {s : State} {sargs : Array Value} {len W : Nat} (a : Addr) (D : Cell) (fV fC : Field) (b : Addr) (A : Cell) (z : Int32) (htab : tab.before sargs s = true) (hfr : 4 ≤ R.frames) (hlo : W + 65 ≤ R.locals) :
    Back l R p e below s sargs yN len W (fun A₁ a₁ => A₁.cells + 1 ≤ R.cells ∧ A₁.slots + A.slots.size ≤ R.slots ∧ P a D fV fC b A z a₁ A₁.U) (fun A₁ _ v₁ B₁ => E a D fV fC A v₁ A₁.U B₁.U ∧ B₁.locs = A₁.locs ++ [⟨a, fC.slot⟩, ⟨a, fV.slot⟩] ∧ B₁.cells = A₁.cells + 1 ∧ B₁.slots = A₁.slots + A.slots.size) :=
  (law l a D fV fC b A z).pays htab hfr (by omega)
end New1
/-- the byte, read back as charAt reads it, is the char -/
theorem lo8_mask {x : Int32} (h0 : ¬ x < 0) (h1 : ¬ 255 < x) : lo8 x &&& 255 = x := by
  have t : ∀ k : Fin 256, lo8 (Int32.ofNat k.val) &&& 255 = Int32.ofNat k.val := by decide +kernel
  rw [Int32.lt_iff_toInt_lt] at h0 h1
  have e0 : (0 : Int32).toInt = 0 := rfl
  have e1 : (255 : Int32).toInt = 255 := rfl
  obtain ⟨k, hk⟩ : ∃ k : Nat, x.toInt = k := ⟨x.toInt.toNat, by omega⟩
  have hx : x = Int32.ofNat k := Int32.toInt_inj.mp (by rw [hk, Int32.toInt_ofNat_small (by omega)])
  rw [hx]
  exact t ⟨k, by omega⟩
end StrChars
namespace StrChars.Road
open Jvm Sem ClassFile Op Lib Jvm.Stand Jvm.Free Jvm.Free.XT
open Jvm.Lib.Cold (StaticIs)
abbrev ST : String := "java/lang/String"
/-- every table word that New1's law asks, flat -/
abbrev words : List Jvm.Cond := [.code New1.yN New1.yB 2 none, .initialized ST, .methodLink ST 27 New4.yN, .instanceMethod New4.yN,
  .code New4.yN New4.yB 6 none, .fieldLink ST 38 ST "COMPACT_STRINGS" "Z", .laysFinal ST ST "value" "[B", .fieldLink ST 9 ST "value" "[B", .laysFinal ST ST "coder" "B", .fieldLink ST 15 ST "coder" "B",
  .methodLink ST 1 Lib.objectInit, .instanceMethod Lib.objectInit, .code Lib.objectInit ⟨#[0xb1]⟩ 1 none, .methodLink ST 177 Cmp3.yN, .static Cmp3.yN, .methodLink ST 47 CodL.yN, .static CodL.yN,
  .code Cmp3.yN Cmp3.yB 6 (some (.array .byte)), .initialized U16, .arrayClass .byte, .methodLink U16 115 Cmp5.yN, .static Cmp5.yN, .code Cmp5.yN Cmp5.yB 7 (some .int), .code CodL.yN CodL.yB 2 (some .byte)]
theorem tab_of {a : Array Value} {s : State} (h : ∀ w ∈ words, w.before a s = true) : New1.tab.before a s = true := by
  have h5 : Cmp5.tab.before a s = true := unparts (wk h (.code Cmp5.yN Cmp5.yB 7 (some .int))) (wks h (.initialized Cmp5.yN.cls :: Cmp5.site))
  have hc : CodL.tab.before a s = true := unparts (wk h (.code CodL.yN CodL.yB 2 (some .byte))) (wks h (.initialized CodL.yN.cls :: CodL.site))
  have q5 : ∀ w ∈ Cmp5.tab :: words, w.before a s = true := fun w hw => (List.mem_cons.mp hw).elim (fun e => e ▸ h5) (h w)
  have h3 : Cmp3.tab.before a s = true := unparts (wk q5 (.code Cmp3.yN Cmp3.yB 6 (some (.array .byte)))) (wks q5 (.initialized Cmp3.yN.cls :: Cmp3.site))
  have q3 : ∀ w ∈ Cmp3.tab :: CodL.tab :: words, w.before a s = true := fun w hw => (List.mem_cons.mp hw).elim (fun e => e ▸ h3) fun hw => (List.mem_cons.mp hw).elim (fun e => e ▸ hc) (h w)
  have h4 : New4.tab.before a s = true := unparts (wk q3 (.code New4.yN New4.yB 6 none)) (wks q3 (.initialized New4.yN.cls :: New4.site))
  have q4 : ∀ w ∈ New4.tab :: words, w.before a s = true := fun w hw => (List.mem_cons.mp hw).elim (fun e => e ▸ h4) (h w)
  exact unparts (wk q4 (.code New1.yN New1.yB 2 none)) (wks q4 (.initialized New1.yN.cls :: New1.site))
/-- the words ride from the start Z to the walk's own state -/
theorem moved {Z s : State} {a0 args : Array Value} (hZ : Z.Warmed39 s.vm) (hw : ∀ d ∈ words, d.before a0 Z = true) : ∀ d ∈ words, d.before args s = true := fun d hd => by
  have q := hw d hd
  have t : ∀ d ∈ words, d = .arrayClass .byte ∨ (d.onTables && d.keepsFace) = true := by decide +kernel
  rcases t d hd with rfl | t
  · exact RoadKit.mvA hZ q
  · exact RoadKit.mv hZ q t
/-- WHAT COMES BACK, over the tables of the start Z: h the heap at the call, h' behind it -/
def Q (Z : State) (x : Addr) (A : Cell) (h : Heap) (v : Option Value) (h' : Heap) (L : List Loc) : Prop := v = none ∧ (∀ y ∈ L, y.base = x) ∧ RoadKit.Keep h h' [x] ∧ h'.size = h.size + 1 ∧ RoadKit.Exa Z h' x ST ∧ RoadKit.Fld Z h' x ST "value" "[B" (.ref h.size) ∧ RoadKit.Fld Z h' x ST "coder" "B" (.int 0) ∧
  (∃ V : Cell, RoadKit.Arr Z h' h.size V .byte ∧ V.vm = .none ∧ Z.vm.findClass "[B" = some V.cls ∧ V.slots.size = A.slots.size ∧ ∀ j, j < A.slots.size → V.slots[j]? = some (.int (lo8 (cv A j)))) ∧
  ∀ (O n d : String) (w : Value), RoadKit.Fld Z h x O n d w → RoadKit.slotOf Z O n d ≠ RoadKit.slotOf Z ST "value" "[B" → RoadKit.slotOf Z O n d ≠ RoadKit.slotOf Z ST "coder" "B" → RoadKit.Fld Z h' x O n d w
/-- **new String(chars) AT A CALL, IN THE ROAD'S FORM**: for specialBack behind newO: x the fresh String, b the char[] with the cell A -/
theorem back {p : Program} {l : Launch} {e : Env} {R : Room} {s : State} {args : Array Value} {below : List Frame} {len W : Nat} {Z : State} {a0 : Array Value} {h : Heap} (hZ : Z.Warmed39 s.vm) (hw : ∀ d ∈ words, d.before a0 Z = true) {kI : Nat} (wi : (Jvm.Cond.instantiable ST kI).before a0 Z = true)
    {x b : Addr} {A : Cell} {z : Int32} {v0 c0 : Value} (E : RoadKit.Exa Z h x ST) (V : RoadKit.Fld Z h x ST "value" "[B" v0) (C : RoadKit.Fld Z h x ST "coder" "B" c0) (K : RoadKit.Arr Z h b A .char) (hty : Typed .char A) (S : RoadKit.Sta Z h ST "COMPACT_STRINGS" "Z" (.int z)) (hz : ¬ z = 0)
    (l0 : 0 < A.slots.size) (l2 : A.slots.size ≤ 536870912) (hp : ∀ i, i < A.slots.size → ¬ 255 < cv A i) (hfr : 4 ≤ R.frames) (hlo : W + 65 ≤ R.locals) :
    Back l R p e below s args New1.yN len W (fun P a => a = #[.ref x, .ref b] ∧ P.U.heap = h ∧ P.cells + 1 ≤ R.cells ∧ P.slots + A.slots.size ≤ R.slots)
      (fun P _ v B => ∃ L, Q Z x A h v B.U.heap L ∧ B.locs = P.locs ++ L ∧ B.cells = P.cells + 1 ∧ B.slots = P.slots + A.slots.size) := by
  intro m meth c P g ig mk a X hg hsize hdg hW hn hp'
  obtain ⟨rfl, rfl, r1, r2⟩ := hp'
  have al : Z.vm.Alike P.U.vm := hZ.alike.trans X.warmed.alike
  obtain ⟨D, cfV, kV, iV, fV, hD, gV, stV, knV, obV, asV, slV⟩ := id V
  obtain ⟨D', cfC, kC, iC, fC, hD', gC, stC, -, -, asC, slC⟩ := id C
  cases hD.symm.trans hD'
  obtain ⟨D2, kD, e1, e2, e3, e4, e5⟩ := id E
  cases hD.symm.trans e1
  obtain ⟨c2, k2, i1, i2, i3, -⟩ := Cond.instantiable_spec wi
  cases e2.symm.trans i1
  cases e3.symm.trans i2
  obtain ⟨kU, u1, u2⟩ := al.2.2 _ _ e3
  have hB : Blank ST x D P.U := ⟨hD, ⟨knV, fun q hq => by rw [hq] at obV; cases obV⟩, by rw [al.findClass]; exact e2, kU, u1, by rw [u2]; exact i3, by rw [u2]; exact e5 i3⟩
  have F1 : Found ST "value" "[B" fV P.U := ⟨SBG.found_only al ⟨cfV, kV, iV, gV⟩, stV⟩
  have F2 : Found ST "coder" "B" fC P.U := ⟨SBG.found_only al ⟨cfC, kC, iC, gC⟩, stC⟩
  have hA : Ch b A P.U := ⟨⟨K.1, State.isArrayOf_alike al K.2.1, K.2.2, by omega⟩, hty⟩
  have hS : StaticIs P.U ST "COMPACT_STRINGS" "Z" (.int z) := by
    obtain ⟨cfS, iS, kS, fS, st, cS, t1, t2, t3, t4, t5, t6, t7⟩ := S
    exact StaticIs.there (s := { Z with heap := P.U.heap }) ⟨cfS, iS, kS, fS, st, cS, t1, t2, t3, t4, t5, (fun q => by rw [q] at t6; cases t6), t7⟩ al rfl
  obtain ⟨v, B, X', ⟨⟨hv, E', V', q1, q2, q3, q4, q5, q6, q7, q8, q9, q10, q11⟩, hl, hc, hs⟩, st⟩ := New1.pays x D fV fC b A z (tab_of (moved hZ hw)) hfr hlo m meth c P g ig mk _ X hg hsize hdg hW hn ⟨r1, r2, rfl, hB, F1, F2, hA, hS, hz, l0, l2, hp⟩
  have al' : Z.vm.Alike B.U.vm := hZ.alike.trans X'.warmed.alike
  have hsz : E'.slots.size = D.slots.size := by
    obtain ⟨-, -, -, kB, w1, w2, w3⟩ := q1
    obtain ⟨kB', y1, y2⟩ := al'.2.2 _ _ e3
    rw [q2.2.1] at w1
    cases w1.symm.trans y1
    rw [w3, e5 i3, y2]
  refine ⟨v, B, X', ⟨_, ⟨hv, ?_, ⟨by omega, fun y cy hy hn' => q10 y cy (by simpa using hn') hy, fun y cy hy => ?_⟩, q11, ⟨E', _, q1.1, by rw [q2.2.1]; exact e2, by rw [q2.2.1]; exact e3, by rw [q2.1]; exact obV, fun _ => by rw [hsz]; exact e5 i3⟩,
    ⟨E', cfV, kV, iV, fV, q1.1, gV, stV, by rw [q2.1]; exact knV, by rw [q2.1]; exact obV, by rw [q2.2.1]; exact asV, q3⟩, ⟨E', cfC, kC, iC, fC, q1.1, gC, stC, by rw [q2.1]; exact knV, by rw [q2.1]; exact obV, by rw [q2.2.1]; exact asC, q4⟩,
    ⟨V', ⟨q5.1, State.isArrayOf_alike al'.symm q5.2.1, q5.2.2.1⟩, q6, by rw [← al'.findClass]; exact q7, q8, fun j hj => by have := q9 j hj; rwa [Nat.zero_add] at this⟩, fun O n d w F n1 n2 => ?_⟩, hl, hc, hs⟩, st⟩
  · intro y hy
    simp only [List.mem_cons, List.not_mem_nil, or_false] at hy
    rcases hy with rfl | rfl <;> rfl
  · by_cases q : y = x
    · subst q
      cases hD.symm.trans hy
      exact ⟨E', q1.1, q2.2.1, q2.1, hsz⟩
    · exact ⟨cy, q10 y cy q hy, rfl, rfl, rfl⟩
  · obtain ⟨D3, cf, k, i, f, g1, g2, g3, g4, g5, g6, g7⟩ := F
    cases hD.symm.trans g1
    simp only [RoadKit.slotOf, g2, gV, gC, Option.map_some, Option.getD_some] at n1 n2
    exact ⟨E', cf, k, i, f, q1.1, g2, g3, by rw [q2.1]; exact g4, by rw [q2.1]; exact g5, by rw [q2.2.1]; exact g6, by rw [q2.2.2 f.slot (by simp [n1, n2])]; exact g7⟩
end StrChars.Road
namespace StrChars.Road
open Jvm Sem ClassFile Op Lib Jvm.Stand Jvm.Free Jvm.Free.XT
/-- WHAT COMES BACK, the byte[] as a list of values -/
def QA (Z : State) (x : Addr) (zn : Int32) (cs : List Int32) (h : Heap) (v : Option Value) (h' : Heap) (L : List Loc) : Prop := v = none ∧ (∀ y ∈ L, y.base = x) ∧ RoadKit.Keep h h' [x] ∧ h'.size = h.size + 1 ∧ RoadKit.Exa Z h' x ST ∧ RoadKit.Fld Z h' x ST "value" "[B" (.ref h.size) ∧ RoadKit.Fld Z h' x ST "coder" "B" (.int 0) ∧
  (∃ kb, Z.vm.findClass "[B" = some kb ∧ RoadKit.Arv Z h' h.size kb .byte zn (cs.map fun c => .int (lo8 c)) (.int 0)) ∧
  ∀ (O n d : String) (w : Value), RoadKit.Fld Z h x O n d w → RoadKit.slotOf Z O n d ≠ RoadKit.slotOf Z ST "value" "[B" → RoadKit.slotOf Z O n d ≠ RoadKit.slotOf Z ST "coder" "B" → RoadKit.Fld Z h' x O n d w
/-- **new String(chars) AT A CALL, THE ARRAYS AS LISTS**: the char[] at b holds cs, not empty, no char above 255 -/
theorem backArv {p : Program} {l : Launch} {e : Env} {R : Room} {s : State} {args : Array Value} {below : List Frame} {len W : Nat} {Z : State} {a0 : Array Value} {h : Heap} (hZ : Z.Warmed39 s.vm) (hw : ∀ d ∈ words, d.before a0 Z = true) {kI : Nat} (wi : (Jvm.Cond.instantiable ST kI).before a0 Z = true)
    {x b : Addr} {k : ClassId} {zn z : Int32} {cs : List Int32} {dv v0 c0 : Value} (E : RoadKit.Exa Z h x ST) (V : RoadKit.Fld Z h x ST "value" "[B" v0) (C : RoadKit.Fld Z h x ST "coder" "B" c0) (K : RoadKit.Arv Z h b k .char zn (cs.map Value.int) dv) (S : RoadKit.Sta Z h ST "COMPACT_STRINGS" "Z" (.int z)) (hz : ¬ z = 0)
    (hlen : zn.toNatClampNeg = cs.length) (h0 : 0 < cs.length) (hbig : cs.length ≤ 536870912) (hall : ∀ c ∈ cs, ¬ 255 < c) (hfr : 4 ≤ R.frames) (hlo : W + 65 ≤ R.locals) :
    Back l R p e below s args New1.yN len W (fun P a => a = #[.ref x, .ref b] ∧ P.U.heap = h ∧ P.cells + 1 ≤ R.cells ∧ P.slots + cs.length ≤ R.slots)
      (fun P _ v B => ∃ L, QA Z x zn cs h v B.U.heap L ∧ B.locs = P.locs ++ L ∧ B.cells = P.cells + 1 ∧ B.slots = P.slots + cs.length) := by
  obtain ⟨A, K1, K2, K3, K4, K5, K6⟩ := K
  have e : A.slots.size = cs.length := K3.trans hlen
  have hat : ∀ (i : Nat) (hi : i < cs.length), A.slots[i]? = some (.int cs[i]) := fun i hi => by rw [K5 i (by omega)]; simp [List.getD_eq_getElem?_getD, hi]
  have hcv : ∀ (i : Nat) (hi : i < cs.length), cv A i = cs[i] := fun i hi => by unfold cv; rw [hat i hi]
  have hty : Typed .char A := fun i v hv => by
    have hi : i < A.slots.size := (Array.getElem?_eq_some_iff.mp hv).1
    have q := K5 i hi
    rw [hv] at q
    rw [Option.some.inj q]
    exact K6 i hi
  refine Back.mono (back hZ hw wi E V C K1 hty S hz (by omega) (by omega) (fun i hi => by rw [hcv i (by omega)]; exact hall _ (List.getElem_mem _)) hfr hlo) (fun P a hp => ⟨hp.1, hp.2.1, hp.2.2.1, by rw [e]; exact hp.2.2.2⟩) (fun P a v B hp hq => ?_)
  obtain ⟨L, ⟨q1, q2, q3, q4, q5, q6, q7, ⟨V', v1, v2, v3, v4, v5⟩, q9⟩, hl, hc, hs⟩ := hq
  refine ⟨L, ⟨q1, q2, q3, q4, q5, q6, q7, ⟨V'.cls, v3, V', v1, rfl, by rw [v4, e, hlen], K4, fun i hi => ?_, fun i hi => ?_⟩, q9⟩, hl, hc, by rw [hs, e]⟩
  · have hi' : i < cs.length := by omega
    rw [v5 i (by omega), hcv i hi']; simp [List.getD_eq_getElem?_getD, hi']
  · have hi' : i < cs.length := by omega
    simp only [List.getD_eq_getElem?_getD, List.getElem?_map, List.getElem?_eq_getElem hi', Option.map_some, Option.getD_some]
    exact fits_lo8 _
end StrChars.Road
namespace StrChars.Road
open Jvm Sem ClassFile Op Lib Jvm.Stand Jvm.Free Jvm.Free.XT
/-- WHAT COMES BACK, in the writer's own shape -/
def QV (Z : State) (x : Addr) (N : Int32) (bs : List Int32) (h : Heap) (n0 : Nat) (v : Option Value) (h' : Heap) (L : List Loc) : Prop := v = none ∧ RoadKit.Fr n0 L ∧ RoadKit.Keep h h' [x] ∧ RoadKit.Exa Z h' x ST ∧ RoadKit.Fld Z h' x ST "coder" "B" (.int 0) ∧
  ∃ (t : Addr) (kb : ClassId), n0 ≤ t ∧ h.size ≤ t ∧ ¬ t = x ∧ RoadKit.Fld Z h' x ST "value" "[B" (.ref t) ∧ RoadKit.Arv Z h' t kb .byte N (bs.map Value.int) (.int 0)
/-- **new String(chars) AT A CALL, FOR THE WRITER**: a char[] of n known ints, each 0 to 255 -/
theorem backV {p : Program} {l : Launch} {e : Env} {R : Room} {s : State} {args : Array Value} {below : List Frame} {len W : Nat} {Z : State} {a0 : Array Value} {h : Heap} (hZ : Z.Warmed39 s.vm) (hw : ∀ d ∈ words, d.before a0 Z = true) {kI : Nat} (wi : (Jvm.Cond.instantiable ST kI).before a0 Z = true)
    {x b : Addr} {kC : ClassId} {cs bs : List Int32} {d v0 c0 : Value} {z N : Int32} {n n0 : Nat} (hx0 : n0 ≤ x) (hh0 : n0 ≤ h.size) (E : RoadKit.Exa Z h x ST) (V : RoadKit.Fld Z h x ST "value" "[B" v0) (C : RoadKit.Fld Z h x ST "coder" "B" c0) (K : RoadKit.Arv Z h b kC .char N (cs.map Value.int) d) (S : RoadKit.Sta Z h ST "COMPACT_STRINGS" "Z" (.int z)) (hz : ¬ z = 0)
    (hn : cs.length = n) (hN : N = Int32.ofNat n) (l0 : 0 < n) (l2 : n ≤ 4000) (hp : ∀ c ∈ cs, ¬ c < 0 ∧ ¬ (255 : Int32) < c) (hb : bs = cs.map (fun c => c.toInt8.toInt32)) (hfr : 4 ≤ R.frames) (hlo : W + 65 ≤ R.locals) :
    Back l R p e below s args (⟨"java/lang/String", "<init>", "([C)V"⟩ : MethodName) len W (fun P a => a = #[.ref x, .ref b] ∧ P.U.heap = h ∧ P.cells + 1 ≤ R.cells ∧ P.slots + n ≤ R.slots)
      (fun P _ v B => ∃ L, QV Z x N bs h n0 v B.U.heap L ∧ B.locs = P.locs ++ L ∧ B.cells = P.cells + 1 ∧ B.slots = P.slots + n) := by
  subst hn hN hb
  refine Back.mono (backArv hZ hw wi E V C K S hz (n32 (by omega)) l0 (by omega) (fun c hc => (hp c hc).2) hfr hlo) (fun P a hp => hp) (fun P a v B hp hq => ?_)
  obtain ⟨L, ⟨q1, q2, q3, q4, q5, q6, q7, ⟨kb, v1, v2⟩, q9⟩, hl, hc, hs⟩ := hq
  exact ⟨L, ⟨q1, fun y hy => by rw [q2 y hy]; exact hx0, q3, q5, q7, h.size, kb, hh0, Nat.le_refl _, Nat.ne_of_gt E.lt, q6, by rw [List.map_map]; exact v2⟩, hl, hc, hs⟩
end StrChars.Road
namespace StrChars
open Jvm Sem ClassFile Op Lib Jvm.Stand Jvm.Free.XT Jvm.Free.ALB Jvm.Free.JM Jvm.Free
open Jvm.Lib.Cold (StaticIs)
def hi8 (x : Int32) : Int32 := lo8 (x >>> ((8 : Int32) &&& 31))
/-- what StringUTF16.getChar makes of two bytes -/
def pairCh (u v : Int32) : Int32 := (((u &&& 255) <<< ((0 : Int32) &&& 31)) ||| ((v &&& 255) <<< ((8 : Int32) &&& 31))).toUInt32.toUInt16.toUInt32.toInt32
theorem lo8_and (x : Int32) : (lo8 x &&& 255).toBitVec.toNat = x.toBitVec.toNat % 256 := by
  have h : (lo8 x).toBitVec = (x.toBitVec.signExtend 8).signExtend 32 := by rw [lo8, Int8.toBitVec_toInt32, Int32.toBitVec_toInt8]
  rw [Int32.toBitVec_and, BitVec.toNat_and, h]
  have e : ((x.toBitVec.signExtend 8).signExtend 32).toNat % 256 = x.toBitVec.toNat % 256 := by
    rw [BitVec.toNat_signExtend]
    have hlt := x.toBitVec.isLt
    simp only [BitVec.toNat_setWidth, BitVec.toNat_signExtend]
    split <;> split <;> omega
  rw [← e]
  exact Nat.and_two_pow_sub_one_eq_mod _ 8
theorem pair_says {c : Int32} (h0 : ¬ c < 0) (h1 : ¬ 65535 < c) : pairCh (lo8 c) (hi8 c) = c := by
  rw [Int32.lt_iff_toInt_lt] at h0 h1
  have e0 : (0 : Int32).toInt = 0 := rfl
  have e1 : (65535 : Int32).toInt = 65535 := rfl
  have hc : c.toInt = c.toBitVec.toNat := by
    have := c.toBitVec.isLt
    have e : c.toInt = c.toBitVec.toInt := rfl
    rw [e] at h0 h1
    rw [e]
    rw [BitVec.toInt_eq_toNat_cond] at h0 h1 ⊢
    split at h0 <;> split <;> omega
  have hn : c.toBitVec.toNat < 65536 := by omega
  have a1 := lo8_and c
  have a2 : (hi8 c &&& 255).toBitVec.toNat = c.toBitVec.toNat / 256 := by
    rw [hi8, lo8_and]
    have e : ((8 : Int32) &&& 31) = 8 := by decide
    rw [e, Int32.toBitVec_shiftRight]
    have e2 : ((8 : Int32).toBitVec.smod 32) = 8#32 := by decide
    rw [e2, BitVec.sshiftRight_eq', BitVec.toNat_sshiftRight_of_msb_false (by rw [BitVec.msb_eq_false_iff_two_mul_lt]; omega)]
    show c.toBitVec.toNat >>> 8 % 256 = _
    rw [Nat.shiftRight_eq_div_pow]
    omega
  unfold pairCh
  apply Int32.toBitVec_inj.mp
  apply BitVec.eq_of_toNat_eq
  have f0 : ((0 : Int32) &&& 31) = 0 := by decide
  have f8 : ((8 : Int32) &&& 31) = 8 := by decide
  rw [f0, f8]
  have g : (((lo8 c &&& 255) <<< (0 : Int32)) ||| ((hi8 c &&& 255) <<< (8 : Int32))).toBitVec.toNat = c.toBitVec.toNat := by
    rw [Int32.toBitVec_or, Int32.toBitVec_shiftLeft, Int32.toBitVec_shiftLeft]
    have s0 : ((0 : Int32).toBitVec.smod 32) = 0#32 := by decide
    have s8 : ((8 : Int32).toBitVec.smod 32) = 8#32 := by decide
    rw [s0, s8, BitVec.toNat_or]
    simp only [BitVec.shiftLeft_eq', BitVec.toNat_shiftLeft, a1, a2]
    show (c.toBitVec.toNat % 256) <<< 0 % 2 ^ 32 ||| (c.toBitVec.toNat / 256) <<< 8 % 2 ^ 32 = _
    rw [Nat.shiftLeft_zero, Nat.mod_eq_of_lt (show c.toBitVec.toNat % 256 < 2 ^ 32 by omega), Nat.mod_eq_of_lt (show (c.toBitVec.toNat / 256) <<< 8 < 2 ^ 32 by rw [Nat.shiftLeft_eq]; omega), Nat.or_comm, ← Nat.shiftLeft_add_eq_or_of_lt (by omega), Nat.shiftLeft_eq]
    omega
  show BitVec.toNat (((((lo8 c &&& 255) <<< (0 : Int32)) ||| ((hi8 c &&& 255) <<< (8 : Int32))).toBitVec.setWidth 16).setWidth 32) = _
  rw [BitVec.toNat_setWidth, BitVec.toNat_setWidth, g]
  omega
end StrChars
namespace StrChars
open Jvm Sem ClassFile Op Lib Jvm.Stand Jvm.Free.XT Jvm.Free.ALB Jvm.Free.JM Jvm.Free
open Jvm.Lib.Cold (StaticIs)
/-- the array's cell V codes the n chars f 0 .. f (n - 1) by the coder cd, as the JDK does: coder 1 just where some char is above 255 -/
def Cod (cd : Int32) (n : Nat) (f : Nat → Int32) (V : Cell) : Prop := (cd = 0 ∧ V.slots.size = n ∧ ∀ j, j < n → V.slots[j]? = some (.int (lo8 (f j))) ∧ ¬ 255 < f j) ∨ (cd = 1 ∧ V.slots.size = 2 * n ∧ (∀ j, j < n → V.slots[2 * j]? = some (.int (lo8 (f j))) ∧ V.slots[2 * j + 1]? = some (.int (hi8 (f j)))) ∧ ∃ j, j < n ∧ 255 < f j)
/-- **x is a String of the n chars f 0 .. f (n - 1)**, Latin-1 or UTF-16; its array at t has the cell V -/
def Txt (x t : Addr) (V : Cell) (cd : Int32) (n : Nat) (f : Nat → Int32) (U : State) : Prop := Exact "java/lang/String" x U ∧ Has x "java/lang/String" "value" "[B" (.ref t) U ∧ Has x "java/lang/String" "coder" "B" (.int cd) U ∧ XT.Arr .byte t V U ∧ Cod cd n f V ∧ ∀ j, j < n → ¬ f j < 0 ∧ ¬ 65535 < f j
theorem Txt.mv {x t : Addr} {V : Cell} {cd : Int32} {n : Nat} {f : Nat → Int32} {U U' : State} (h : Txt x t V cd n f U) (hal : U.vm.Alike U'.vm) (hh : U'.heap = U.heap) : Txt x t V cd n f U' := ⟨h.1.mv hal hh, h.2.1.mv hal hh, h.2.2.1.mv hal hh, h.2.2.2.1.mv hal hh, h.2.2.2.2⟩
end StrChars
namespace StrChars.Road
open Jvm Sem ClassFile Op Lib Jvm.Stand Jvm.Free Jvm.Free.XT
open Jvm.Lib.Cold (StaticIs)
theorem consq {a : Array Value} {s : State} {c : Jvm.Cond} {L : List Jvm.Cond} (h0 : c.before a s = true) (h : ∀ w ∈ L, w.before a s = true) : ∀ w ∈ c :: L, w.before a s = true := fun w hw => (List.mem_cons.mp hw).elim (fun e => e ▸ h0) (h w)
/-- the bytes of the chars cs, low before high -/
def wideBytes : List Int32 → List Value
  | [] => []
  | c :: cs => .int (lo8 c) :: .int (hi8 c) :: wideBytes cs
theorem wide_lo (d : Value) : ∀ (cs : List Int32) (j : Nat), j < cs.length → (wideBytes cs).getD (2 * j) d = .int (lo8 (cs.getD j 0))
  | [], j, h => absurd h (Nat.not_lt_zero j)
  | c :: cs, 0, _ => rfl
  | c :: cs, j + 1, h => by
    have q := wide_lo d cs j (by simpa using h)
    rw [show 2 * (j + 1) = 2 * j + 1 + 1 from by omega]
    simpa [wideBytes] using q
theorem wide_hi (d : Value) : ∀ (cs : List Int32) (j : Nat), j < cs.length → (wideBytes cs).getD (2 * j + 1) d = .int (hi8 (cs.getD j 0))
  | [], j, h => absurd h (Nat.not_lt_zero j)
  | c :: cs, 0, _ => rfl
  | c :: cs, j + 1, h => by
    have q := wide_hi d cs j (by simpa using h)
    rw [show 2 * (j + 1) + 1 = 2 * j + 1 + 1 + 1 from by omega]
    simpa [wideBytes] using q
theorem low_at (d : Value) (cs : List Int32) (j : Nat) (h : j < cs.length) : (cs.map fun c => Value.int (lo8 c)).getD j d = .int (lo8 (cs.getD j 0)) := by
  simp [List.getD_eq_getElem?_getD, h]
/-- an array of N2 bytes vs codes the chars cs by the coder cd -/
def CodA (cs : List Int32) (cd N2 : Int32) (vs : List Value) : Prop := (cd = 0 ∧ N2 = Int32.ofNat cs.length ∧ vs = (cs.map fun c => Value.int (lo8 c)) ∧ ∀ c ∈ cs, ¬ 255 < c) ∨ (cd = 1 ∧ N2 = Int32.ofNat (2 * cs.length) ∧ vs = wideBytes cs ∧ ∃ c ∈ cs, 255 < c)
theorem CodA.cod {cs : List Int32} {cd N2 : Int32} {vs : List Value} {V : Cell} (h : CodA cs cd N2 vs) (hn : 2 * cs.length < 2 ^ 31) (hs : V.slots.size = N2.toNatClampNeg) (hv : RoadKit.Has V vs (.int 0)) : Cod cd cs.length (fun j => cs.getD j 0) V := by
  rcases h with ⟨rfl, rfl, rfl, h⟩ | ⟨rfl, rfl, rfl, c, hc, hw⟩
  · rw [n32 (by omega)] at hs
    exact Or.inl ⟨rfl, hs, fun j hj => ⟨by rw [hv j (by omega), low_at _ _ _ hj], by
      have e : cs.getD j 0 = cs[j] := by simp [List.getD_eq_getElem?_getD, hj]
      show ¬ 255 < cs.getD j 0
      rw [e]; exact h _ (List.getElem_mem _)⟩⟩
  · rw [n32 (by omega)] at hs
    obtain ⟨j, hj, rfl⟩ := List.getElem_of_mem hc
    exact Or.inr ⟨rfl, hs, fun j hj => ⟨by rw [hv _ (by omega), wide_lo _ _ _ hj], by rw [hv _ (by omega), wide_hi _ _ _ hj]⟩, j, hj, by
      have e : cs.getD j 0 = cs[j] := by simp [List.getD_eq_getElem?_getD, hj]
      show 255 < cs.getD j 0
      rw [e]; exact hw⟩
/-- an object of exactly java/lang/String, its two fields found: as the laws ask it -/
theorem strObj {Z U : State} {a0 : Array Value} {kI : Nat} (wi : (Jvm.Cond.instantiable ST kI).before a0 Z = true) (al : Z.vm.Alike U.vm) {x : Addr} {v0 c0 : Value} (E : RoadKit.Exa Z U.heap x ST) (V : RoadKit.Fld Z U.heap x ST "value" "[B" v0) (C : RoadKit.Fld Z U.heap x ST "coder" "B" c0) :
    ∃ (D : Cell) (fV fC : Field), Blank ST x D U ∧ Found ST "value" "[B" fV U ∧ Found ST "coder" "B" fC U ∧ D.slots[fV.slot]? = some v0 ∧ D.slots[fC.slot]? = some c0 ∧ RoadKit.slotOf Z ST "value" "[B" = fV.slot ∧ RoadKit.slotOf Z ST "coder" "B" = fC.slot := by
  obtain ⟨D, cfV, kV, iV, fV, hD, gV, stV, knV, obV, asV, slV⟩ := V
  obtain ⟨D', cfC, kC, iC, fC, hD', gC, stC, -, -, asC, slC⟩ := C
  cases hD.symm.trans hD'
  obtain ⟨D2, kD, e1, e2, e3, e4, e5⟩ := E
  cases hD.symm.trans e1
  obtain ⟨c2, k2, i1, i2, i3, -⟩ := Cond.instantiable_spec wi
  cases e2.symm.trans i1
  cases e3.symm.trans i2
  obtain ⟨kU, u1, u2⟩ := al.2.2 _ _ e3
  exact ⟨D, fV, fC, ⟨hD, ⟨knV, fun q hq => by rw [hq] at obV; cases obV⟩, by rw [al.findClass]; exact e2, kU, u1, by rw [u2]; exact i3, by rw [u2]; exact e5 i3⟩, ⟨SBG.found_only al ⟨cfV, kV, iV, gV⟩, stV⟩, ⟨SBG.found_only al ⟨cfC, kC, iC, gC⟩, stC⟩, slV, slC, by simp [RoadKit.slotOf, gV], by simp [RoadKit.slotOf, gC]⟩
theorem sta_is {Z U : State} (al : Z.vm.Alike U.vm) {C n d : String} {v : Value} (S : RoadKit.Sta Z U.heap C n d v) : StaticIs U C n d v := by
  obtain ⟨cfS, iS, kS, fS, st, cS, t1, t2, t3, t4, t5, t6, t7⟩ := S
  exact StaticIs.there (s := { Z with heap := U.heap }) ⟨cfS, iS, kS, fS, st, cS, t1, t2, t3, t4, t5, (fun q => by rw [q] at t6; cases t6), t7⟩ al rfl
end StrChars.Road
namespace StrChars
open Jvm Sem ClassFile Op Lib Jvm.Stand Jvm.Free.XT Jvm.Free.ALB Jvm.Free.JM Jvm.Free
open Jvm.Lib.Cold (StaticIs)
/-- what place i of a byte[]'s cell holds -/
def yv (A : Cell) (i : Nat) : Int32 := match A.slots[i]? with | some (.int x) => x | _ => 0
theorem yv_get {a : Addr} {A : Cell} {U : State} (h : XT.Arr .byte a A U) (ht : Typed .byte A) {i : Nat} (hi : i < A.slots.size) : A.slots[i]? = some (.int (yv A i)) := by
  have e := Array.getElem?_eq_getElem hi
  have f := ht i _ e
  unfold yv; rw [e]
  generalize A.slots[i] = v at f
  cases v <;> simp [fits] at f ⊢
/-- the two arrays are equal, place for place -/
def EqC (A B : Cell) : Prop := A.slots.size = B.slots.size ∧ ∀ i, i < A.slots.size → yv A i = yv B i
/-- a boolean that says whether p -/
def Says01 (q : Prop) (r : Option Value) (s u : State) : Prop := ∃ v : Int32, r = some (.int v) ∧ u.heap = s.heap ∧ ((v = 1 ∧ q) ∨ (v = 0 ∧ ¬ q))
theorem Says01.mv {q : Prop} : ∀ r (U U' V V' : State), U'.heap = U.heap → V.vm.Alike V'.vm → V'.heap = V.heap → Says01 q r U V → Says01 q r U' V' :=
  fun r U U' V V' h1 _ h2 ⟨v, a, b, c⟩ => ⟨v, a, by rw [h1, h2]; exact b, c⟩
namespace LEq
def yN : MethodName := ⟨"java/lang/StringLatin1", "equals", "([B[B)Z"⟩
abbrev yB : ByteArray := jdk_43_method_13_code
theorem d0 : decode yB 0 = .ok (.aload_n 0, 1) := by decide +kernel
theorem d1 : decode yB 1 = .ok (.arraylength, 1) := by decide +kernel
theorem d2 : decode yB 2 = .ok (.aload_n 1, 1) := by decide +kernel
theorem d3 : decode yB 3 = .ok (.arraylength, 1) := by decide +kernel
theorem d4 : decode yB 4 = .ok (.if_icmp (.ne) 30, 3) := by decide +kernel
theorem d7 : decode yB 7 = .ok (.iconst 0, 1) := by decide +kernel
theorem d8 : decode yB 8 = .ok (.istore_n 2, 1) := by decide +kernel
theorem d9 : decode yB 9 = .ok (.iload_n 2, 1) := by decide +kernel
theorem d10 : decode yB 10 = .ok (.aload_n 0, 1) := by decide +kernel
theorem d11 : decode yB 11 = .ok (.arraylength, 1) := by decide +kernel
theorem d12 : decode yB 12 = .ok (.if_icmp (.ge) 20, 3) := by decide +kernel
theorem d15 : decode yB 15 = .ok (.aload_n 0, 1) := by decide +kernel
theorem d16 : decode yB 16 = .ok (.iload_n 2, 1) := by decide +kernel
theorem d17 : decode yB 17 = .ok (.baload, 1) := by decide +kernel
theorem d18 : decode yB 18 = .ok (.aload_n 1, 1) := by decide +kernel
theorem d19 : decode yB 19 = .ok (.iload_n 2, 1) := by decide +kernel
theorem d20 : decode yB 20 = .ok (.baload, 1) := by decide +kernel
theorem d21 : decode yB 21 = .ok (.if_icmp (.eq) 5, 3) := by decide +kernel
theorem d24 : decode yB 24 = .ok (.iconst 0, 1) := by decide +kernel
theorem d25 : decode yB 25 = .ok (.ireturn, 1) := by decide +kernel
theorem d26 : decode yB 26 = .ok (.iinc 2 1, 3) := by decide +kernel
theorem d29 : decode yB 29 = .ok (.goto (-20), 3) := by decide +kernel
theorem d32 : decode yB 32 = .ok (.iconst 1, 1) := by decide +kernel
theorem d33 : decode yB 33 = .ok (.ireturn, 1) := by decide +kernel
theorem d34 : decode yB 34 = .ok (.iconst 0, 1) := by decide +kernel
theorem d35 : decode yB 35 = .ok (.ireturn, 1) := by decide +kernel
def site : List Cond := []
def tab : Cond := tabOf yN yB 3 (some .boolean) site
def P (a : Addr) (A : Cell) (b : Addr) (B : Cell) (args : Array Value) (s : State) : Prop := args = #[.ref a, .ref b] ∧ XT.Arr .byte a A s ∧ Typed .byte A ∧ XT.Arr .byte b B s ∧ Typed .byte B
/-- whether two byte[] are equal, place for place -/
theorem law (l : Launch) (a : Addr) (A : Cell) (b : Addr) (B : Cell) : Law l yN 2 2 0 0 yB 3 (some .boolean) site (P a A b B) (Says01 (EqC A B)) [] 0 0 := by
  refine Law.of_walk (plainFor_of_name (by decide +kernel)) (by decide +kernel) (by decide +kernel) (by decide) (fun _ _ h => by rw [h.1]; rfl) (fun _ U U' hal hh h => ⟨h.1, h.2.1.mv hal hh, h.2.2.1, h.2.2.2.1.mv hal hh, h.2.2.2.2⟩) (fun r U U' V V' h1 hal h2 h => Says01.mv r U U' V V' h1 hal h2 h) ?_
  intro p e s m args below meth c s₁ X0 hexec hbytes hml hret hlk hnm hown hh0 W hP
  obtain ⟨rfl, hA, tA, hB, tB⟩ := hP
  have a31 := hA.2.2.2
  have b31 := hB.2.2.2
  have hA0 := hA.mv X0.warmed.alike hh0
  have hB0 := hB.mv X0.warmed.alike hh0
  have c1 : Steps p.tables e below (s₁.setTop (entryFrame m #[.ref a, .ref b] 3)) (s₁.setTop (mkF m 0 #[.val (.ref a), .val (.ref b), .unset] [])) := entry rfl
  have c2 : Steps p.tables e below (s₁.setTop (entryFrame m #[.ref a, .ref b] 3)) (s₁.setTop (mkF m 4 #[.val (.ref a), .val (.ref b), .unset] [.int (Int32.ofNat B.slots.size), .int (Int32.ofNat A.slots.size)])) := c1.trans (by
    refine XS.aloadN X0.here hexec rfl (hb hbytes d0) rfl rfl ?_
    refine X0.alen hexec hA0 rfl rfl (hb hbytes d1) ?_
    refine XS.aloadN X0.here hexec rfl (hb hbytes d2) rfl rfl ?_
    refine X0.alen hexec hB0 rfl rfl (hb hbytes d3) ?_
    exact Steps.refl _)
  by_cases hs : A.slots.size = B.slots.size
  · have c3 : Steps p.tables e below (s₁.setTop (entryFrame m #[.ref a, .ref b] 3)) (s₁.setTop (mkF m 9 #[.val (.ref a), .val (.ref b), .val (.int 0)] [])) := c2.trans (by
      refine XS.icmpNo X0.here hexec rfl (hb hbytes d4) rfl (ii_ne_f (by rw [hs])) ?_
      refine iconstV X0.here hexec rfl 0 (hb hbytes d7) (by decide) ?_
      refine XS.istoreN X0.here hexec rfl (hb hbytes d8) rfl rfl ?_
      exact Steps.refl _)
    have loop : ∀ (r i : Nat), i + r = A.slots.size → (∀ j, j < i → yv A j = yv B j) → Steps p.tables e below (s₁.setTop (entryFrame m #[.ref a, .ref b] 3)) (s₁.setTop (mkF m 9 #[.val (.ref a), .val (.ref b), .val (.int (Int32.ofNat i))] [])) → ∃ (pc : Nat) (Ls : Array Slot) (v : Int32), (pc = 25 ∨ pc = 33) ∧ ((v = 1 ∧ EqC A B) ∨ (v = 0 ∧ ¬ EqC A B)) ∧ Steps p.tables e below (s₁.setTop (entryFrame m #[.ref a, .ref b] 3)) (s₁.setTop (mkF m pc Ls [.int v])) := by
      intro r
      induction r with
      | zero =>
        intro i hi he cl
        exact ⟨33, _, 1, Or.inr rfl, Or.inl ⟨rfl, hs, fun j hj => he j (by omega)⟩, cl.trans (by
          refine XS.iloadN X0.here hexec rfl (hb hbytes d9) rfl ?_
          refine XS.aloadN X0.here hexec rfl (hb hbytes d10) rfl rfl ?_
          refine X0.alen hexec hA0 rfl rfl (hb hbytes d11) ?_
          refine XS.icmpYes X0.here hexec rfl (pc0 := 12) rfl (hb hbytes d12) rfl (ii_ge_t (nlt32 (by omega) (by omega))) (by decide) rfl ?_
          refine iconstV X0.here hexec rfl 1 (hb hbytes d32) (by decide) ?_
          exact Steps.refl _)⟩
      | succ r ih =>
        intro i hi he cl
        have c4 : Steps p.tables e below (s₁.setTop (entryFrame m #[.ref a, .ref b] 3)) (s₁.setTop (mkF m 21 #[.val (.ref a), .val (.ref b), .val (.int (Int32.ofNat i))] [.int (yv B i), .int (yv A i)])) := cl.trans (by
          refine XS.iloadN X0.here hexec rfl (hb hbytes d9) rfl ?_
          refine XS.aloadN X0.here hexec rfl (hb hbytes d10) rfl rfl ?_
          refine X0.alen hexec hA0 rfl rfl (hb hbytes d11) ?_
          refine XS.icmpNo X0.here hexec rfl (hb hbytes d12) rfl (ii_ge_f (lt32 (by omega) (by omega))) ?_
          refine XS.aloadN X0.here hexec rfl (hb hbytes d15) rfl rfl ?_
          refine XS.iloadN X0.here hexec rfl (hb hbytes d16) rfl ?_
          refine X0.aget hexec hA0 rfl (yv_get hA tA (i := i) (by omega)) rfl rfl (hb hbytes d17) ?_
          refine XS.aloadN X0.here hexec rfl (hb hbytes d18) rfl rfl ?_
          refine XS.iloadN X0.here hexec rfl (hb hbytes d19) rfl ?_
          refine X0.aget hexec hB0 rfl (yv_get hB tB (i := i) (by omega)) rfl rfl (hb hbytes d20) ?_
          exact Steps.refl _)
        by_cases hv : yv A i = yv B i
        · have c5 : Steps p.tables e below (s₁.setTop (entryFrame m #[.ref a, .ref b] 3)) (s₁.setTop (mkF m 9 #[.val (.ref a), .val (.ref b), .val (.int (Int32.ofNat i + 1))] [])) := c4.trans (by
            refine XS.icmpYes X0.here hexec rfl (pc0 := 21) rfl (hb hbytes d21) rfl (ii_eq_t hv) (by decide) rfl ?_
            refine iincV X0.here hexec rfl 1 (hb hbytes d26) (by decide) rfl rfl ?_
            refine XS.goto X0.here hexec rfl (pc0 := 29) rfl (hb hbytes d29) (by decide) rfl ?_
            exact Steps.refl _)
          rw [succ32] at c5
          exact ih (i + 1) (by omega) (fun j hj => by
            by_cases e : j = i
            · rw [e]; exact hv
            · exact he j (by omega)) c5
        · exact ⟨25, _, 0, Or.inl rfl, Or.inr ⟨rfl, fun q => hv (q.2 i (by omega))⟩, c4.trans (by
            refine XS.icmpNo X0.here hexec rfl (hb hbytes d21) rfl (ii_eq_f hv) ?_
            refine iconstV X0.here hexec rfl 0 (hb hbytes d24) (by decide) ?_
            exact Steps.refl _)⟩
    obtain ⟨pc, Ls, v, hpc, hv, cz⟩ := loop A.slots.size 0 (by omega) (fun j hj => absurd hj (Nat.not_lt_zero j)) c3
    have nv : narrow .boolean (.int v) = .int v := by rcases hv with ⟨rfl, -⟩ | ⟨rfl, -⟩ <;> rfl
    rcases hpc with rfl | rfl
    · exact ⟨s₁, some (.int v), _, _, _, X0, rfl, rfl, rfl, (fun h => by cases h), ⟨v, rfl, hh0, hv⟩, fun fs hl => cz.trans (X0.ireturnOut hexec hret nv (Or.inr (Or.inl rfl)) (hb hbytes d25) hl)⟩
    · exact ⟨s₁, some (.int v), _, _, _, X0, rfl, rfl, rfl, (fun h => by cases h), ⟨v, rfl, hh0, hv⟩, fun fs hl => cz.trans (X0.ireturnOut hexec hret nv (Or.inr (Or.inl rfl)) (hb hbytes d33) hl)⟩
  · have c3 : Steps p.tables e below (s₁.setTop (entryFrame m #[.ref a, .ref b] 3)) (s₁.setTop (mkF m 35 #[.val (.ref a), .val (.ref b), .unset] [.int 0])) := c2.trans (by
      refine XS.icmpYes X0.here hexec rfl (pc0 := 4) rfl (hb hbytes d4) rfl (ii_ne_t (ne32 a31 b31 hs)) (by decide) rfl ?_
      refine iconstV X0.here hexec rfl 0 (hb hbytes d34) (by decide) ?_
      exact Steps.refl _)
    exact ⟨s₁, some (.int 0), _, _, _, X0, rfl, rfl, rfl, (fun h => by cases h), ⟨0, rfl, hh0, Or.inr ⟨rfl, fun q => hs q.1⟩⟩, fun fs hl => c3.trans (X0.ireturnOut hexec hret rfl (Or.inr (Or.inl rfl)) (hb hbytes d35) hl)⟩
end LEq
theorem Cod.ty {cd : Int32} {n : Nat} {f : Nat → Int32} {V : Cell} (h : Cod cd n f V) : Typed .byte V := fun i v hv => by
  have hi : i < V.slots.size := (Array.getElem?_eq_some_iff.mp hv).1
  rcases h with ⟨-, k1, k2⟩ | ⟨-, k1, k2, -⟩
  · rw [(k2 i (by omega)).1] at hv; cases hv; exact fits_lo8 _
  · rcases Nat.mod_two_eq_zero_or_one i with e | e
    · obtain ⟨j, rfl⟩ : ∃ j, i = 2 * j := ⟨i / 2, by omega⟩
      rw [(k2 j (by omega)).1] at hv; cases hv; exact fits_lo8 _
    · obtain ⟨j, rfl⟩ : ∃ j, i = 2 * j + 1 := ⟨i / 2, by omega⟩
      rw [(k2 j (by omega)).2] at hv; cases hv; exact fits_lo8 _
/-- the same text -/
def SameT (n : Nat) (f : Nat → Int32) (k : Nat) (g : Nat → Int32) : Prop := n = k ∧ ∀ j, j < n → f j = g j
theorem lo8_inj {x y : Int32} (h0 : ¬ x < 0) (h1 : ¬ 255 < x) (k0 : ¬ y < 0) (k1 : ¬ 255 < y) (h : lo8 x = lo8 y) : x = y := by
  rw [← lo8_mask h0 h1, ← lo8_mask k0 k1, h]
/-- arrays coded by one coder are equal just where the texts are -/
theorem Cod.eqv {cd : Int32} {n k : Nat} {f g : Nat → Int32} {V V' : Cell} (h : Cod cd n f V) (h' : Cod cd k g V') (hf : ∀ j, j < n → ¬ f j < 0 ∧ ¬ 65535 < f j) (hg : ∀ j, j < k → ¬ g j < 0 ∧ ¬ 65535 < g j) : EqC V V' ↔ SameT n f k g := by
  have yvv : ∀ {W : Cell} {i : Nat} {x : Int32}, W.slots[i]? = some (.int x) → yv W i = x := fun q => by unfold yv; rw [q]
  rcases h with ⟨rfl, k1, k2⟩ | ⟨rfl, k1, k2, -⟩
  · rcases h' with ⟨-, m1, m2⟩ | ⟨e, -⟩
    · constructor
      · rintro ⟨e1, e2⟩
        refine ⟨by omega, fun j hj => ?_⟩
        have q := e2 j (by omega)
        rw [yvv (k2 j hj).1, yvv (m2 j (by omega)).1] at q
        exact lo8_inj (hf j hj).1 (k2 j hj).2 (hg j (by omega)).1 (m2 j (by omega)).2 q
      · rintro ⟨rfl, e2⟩
        refine ⟨by omega, fun j hj => ?_⟩
        rw [yvv (k2 j (by omega)).1, yvv (m2 j (by omega)).1, e2 j (by omega)]
    · exact absurd e (by decide)
  · rcases h' with ⟨e, -⟩ | ⟨-, m1, m2, -⟩
    · exact absurd e (by decide)
    · constructor
      · rintro ⟨e1, e2⟩
        refine ⟨by omega, fun j hj => ?_⟩
        have q1 := e2 (2 * j) (by omega)
        have q2 := e2 (2 * j + 1) (by omega)
        rw [yvv (k2 j hj).1, yvv (m2 j (by omega)).1] at q1
        rw [yvv (k2 j hj).2, yvv (m2 j (by omega)).2] at q2
        rw [← pair_says (hf j hj).1 (hf j hj).2, ← pair_says (hg j (by omega)).1 (hg j (by omega)).2, q1, q2]
      · rintro ⟨rfl, e2⟩
        refine ⟨by omega, fun i hi => ?_⟩
        rcases Nat.mod_two_eq_zero_or_one i with e | e
        · obtain ⟨j, rfl⟩ : ∃ j, i = 2 * j := ⟨i / 2, by omega⟩
          rw [yvv (k2 j (by omega)).1, yvv (m2 j (by omega)).1, e2 j (by omega)]
        · obtain ⟨j, rfl⟩ : ∃ j, i = 2 * j + 1 := ⟨i / 2, by omega⟩
          rw [yvv (k2 j (by omega)).2, yvv (m2 j (by omega)).2, e2 j (by omega)]
/-- two codings differ: so do the texts -/
theorem Cod.dif {cd cd' : Int32} {n k : Nat} {f g : Nat → Int32} {V V' : Cell} (h : Cod cd n f V) (h' : Cod cd' k g V') (hne : ¬ cd = cd') : ¬ SameT n f k g := by
  rintro ⟨rfl, e⟩
  rcases h with ⟨rfl, -, k2⟩ | ⟨rfl, -, -, j, hj, hw⟩
  · rcases h' with ⟨rfl, -⟩ | ⟨-, -, -, j, hj, hw⟩
    · exact hne rfl
    · exact (k2 j hj).2 (by rw [e j hj]; exact hw)
  · rcases h' with ⟨-, -, m2⟩ | ⟨rfl, -⟩
    · exact (m2 j hj).2 (by rw [← e j hj]; exact hw)
    · exact hne rfl
/-- an object of exactly C is an instance of C -/
theorem cinst {p : Program} {l : Launch} {e : Env} {R : Room} {s : State} {m : MethodId} {args : Array Value} {below : List Frame} {meth : Method} {c : Code} {T : State} {locs : List Loc} {cells slots : Nat} (X : Stand p l e R s m args below meth c T locs cells slots) (hexec : p.tables.exec = Jvm.exec) {own C : String} {index : Nat} (hown : s.vm.findClass own = some m.cls) (hlink : (Cond.classLink own index C).before args s = true) {a : Addr} (hE : Exact C a T)
    {g : JFrame} (hg : g.method = m) {rest : List Value} (hstack : g.stack = .ref a :: rest) (hdg : decode c.code g.pc = .ok (.instanceof index, 3)) :
    ∃ T', Stand p l e R s m args below meth c T' locs cells slots ∧ T'.heap = T.heap ∧ ∀ target, Steps p.tables e below (T'.setTop { g with pc := g.pc + 3, stack := .int 1 :: rest }) target → Steps p.tables e below (T.setTop g) target := by
  obtain ⟨cB, h1, D, h2, h3, h4⟩ := hE
  have h1' : s.vm.findClass C = some cB := by rw [← X.warmed.alike.findClass]; exact h1
  obtain ⟨vm', X', st⟩ := X.instanceofYes hexec hown hlink h2 h4 h1' (by rw [h3]; exact Jvm.Free.SB.assignable_self _ _) hg hstack hdg
  exact ⟨_, X', rfl, st⟩
theorem cself {p : Program} {l : Launch} {e : Env} {R : Room} {s : State} {m : MethodId} {args : Array Value} {below : List Frame} {meth : Method} {c : Code} {T : State} {locs : List Loc} {cells slots : Nat} (X : Stand p l e R s m args below meth c T locs cells slots) (hexec : p.tables.exec = Jvm.exec) {own C : String} {index : Nat} (hown : s.vm.findClass own = some m.cls) (hlink : (Cond.classLink own index C).before args s = true) {a : Addr} (hE : Exact C a T)
    {g : JFrame} (hg : g.method = m) {rest : List Value} (hstack : g.stack = .ref a :: rest) (hdg : decode c.code g.pc = .ok (.checkcast index, 3)) :
    ∃ T', Stand p l e R s m args below meth c T' locs cells slots ∧ T'.heap = T.heap ∧ ∀ target, Steps p.tables e below (T'.setTop { g with pc := g.pc + 3, stack := .ref a :: rest }) target → Steps p.tables e below (T.setTop g) target := by
  obtain ⟨cB, h1, D, h2, h3, h4⟩ := hE
  have h1' : s.vm.findClass C = some cB := by rw [← X.warmed.alike.findClass]; exact h1
  obtain ⟨vm', X', st⟩ := X.checkcastYes hexec hown hlink h2 h4 h1' (by rw [h3]; exact Jvm.Free.SB.assignable_self _ _) hg hstack hdg
  exact ⟨_, X', rfl, fun t h => st t (by rw [← hstack] at h; exact h)⟩
namespace SEq
def yN : MethodName := ⟨"java/lang/String", "equals", "(Ljava/lang/Object;)Z"⟩
abbrev yB : ByteArray := jdk_42_method_66_code
theorem d0 : decode yB 0 = .ok (.aload_n 0, 1) := by decide +kernel
theorem d1 : decode yB 1 = .ok (.aload_n 1, 1) := by decide +kernel
theorem d2 : decode yB 2 = .ok (.if_acmp (.ne) 5, 3) := by decide +kernel
theorem d5 : decode yB 5 = .ok (.iconst 1, 1) := by decide +kernel
theorem d6 : decode yB 6 = .ok (.ireturn, 1) := by decide +kernel
theorem d7 : decode yB 7 = .ok (.aload_n 1, 1) := by decide +kernel
theorem d8 : decode yB 8 = .ok (.instanceof 10, 3) := by decide +kernel
theorem d11 : decode yB 11 = .ok (.ifCond (.eq) 43, 3) := by decide +kernel
theorem d14 : decode yB 14 = .ok (.aload_n 1, 1) := by decide +kernel
theorem d15 : decode yB 15 = .ok (.checkcast 10, 3) := by decide +kernel
theorem d18 : decode yB 18 = .ok (.astore_n 2, 1) := by decide +kernel
theorem d19 : decode yB 19 = .ok (.getstatic 38, 3) := by decide +kernel
theorem d22 : decode yB 22 = .ok (.ifCond (.eq) 14, 3) := by decide +kernel
theorem d25 : decode yB 25 = .ok (.aload_n 0, 1) := by decide +kernel
theorem d26 : decode yB 26 = .ok (.getfield 15, 3) := by decide +kernel
theorem d29 : decode yB 29 = .ok (.aload_n 2, 1) := by decide +kernel
theorem d30 : decode yB 30 = .ok (.getfield 15, 3) := by decide +kernel
theorem d33 : decode yB 33 = .ok (.if_icmp (.ne) 21, 3) := by decide +kernel
theorem d36 : decode yB 36 = .ok (.aload_n 0, 1) := by decide +kernel
theorem d37 : decode yB 37 = .ok (.getfield 9, 3) := by decide +kernel
theorem d40 : decode yB 40 = .ok (.aload_n 2, 1) := by decide +kernel
theorem d41 : decode yB 41 = .ok (.getfield 9, 3) := by decide +kernel
theorem d44 : decode yB 44 = .ok (.invokestatic 541, 3) := by decide +kernel
theorem d47 : decode yB 47 = .ok (.ifCond (.eq) 7, 3) := by decide +kernel
theorem d50 : decode yB 50 = .ok (.iconst 1, 1) := by decide +kernel
theorem d51 : decode yB 51 = .ok (.goto 4, 3) := by decide +kernel
theorem d54 : decode yB 54 = .ok (.iconst 0, 1) := by decide +kernel
theorem d55 : decode yB 55 = .ok (.ireturn, 1) := by decide +kernel
def site : List Cond := [.classLink "java/lang/String" 10 "java/lang/String", .fieldLink "java/lang/String" 38 "java/lang/String" "COMPACT_STRINGS" "Z", .fieldLink "java/lang/String" 15 "java/lang/String" "coder" "B", .fieldLink "java/lang/String" 9 "java/lang/String" "value" "[B", LEq.tab] ++ staticW "java/lang/String" 541 LEq.yN
def tab : Cond := tabOf yN yB 3 (some .boolean) site
def P (x t : Addr) (V : Cell) (cd : Int32) (n : Nat) (f : Nat → Int32) (y t' : Addr) (V' : Cell) (cd' : Int32) (k : Nat) (g : Nat → Int32) (z : Int32) (args : Array Value) (s : State) : Prop := args = #[.ref x, .ref y] ∧ Txt x t V cd n f s ∧ Txt y t' V' cd' k g s ∧ StaticIs s "java/lang/String" "COMPACT_STRINGS" "Z" (.int z) ∧ ¬ z = 0
/-- equals(Object) of two Strings: whether the texts are the same -/
theorem law (l : Launch) (x t : Addr) (V : Cell) (cd : Int32) (n : Nat) (f : Nat → Int32) (y t' : Addr) (V' : Cell) (cd' : Int32) (k : Nat) (g : Nat → Int32) (z : Int32) : Law l yN 2 1 1 14 yB 3 (some .boolean) site (P x t V cd n f y t' V' cd' k g z) (Says01 (SameT n f k g)) [] 0 0 := by
  refine Law.of_walk (plainFor_of_name (by decide +kernel)) (by decide +kernel) (by decide +kernel) (by decide) (fun _ _ h => by rw [h.1]; rfl) (fun _ U U' hal hh h => ⟨h.1, h.2.1.mv hal hh, h.2.2.1.mv hal hh, h.2.2.2.1.there hal hh, h.2.2.2.2⟩) (fun r U U' V V' h1 hal h2 h => Says01.mv r U U' V V' h1 hal h2 h) ?_
  intro p e s m args below meth c s₁ X0 hexec hbytes hml hret hlk hnm hown hh0 W hP
  obtain ⟨rfl, hx, hy, s1, hz⟩ := hP
  have c1 : Steps p.tables e below (s₁.setTop (entryFrame m #[.ref x, .ref y] 3)) (s₁.setTop (mkF m 2 #[.val (.ref x), .val (.ref y), .unset] [.ref y, .ref x])) := Steps.trans (entry rfl) (by
    show Steps p.tables e below (s₁.setTop (mkF m 0 #[.val (.ref x), .val (.ref y), .unset] [])) _
    refine XS.aloadN X0.here hexec rfl (hb hbytes d0) rfl rfl ?_
    refine XS.aloadN X0.here hexec rfl (hb hbytes d1) rfl rfl ?_
    exact Steps.refl _)
  by_cases hxy : x = y
  · have c2 : Steps p.tables e below (s₁.setTop (entryFrame m #[.ref x, .ref y] 3)) (s₁.setTop (mkF m 6 #[.val (.ref x), .val (.ref y), .unset] [.int 1])) := c1.trans (by
      refine acmpNo X0.here hexec rfl (hb hbytes d2) rfl rfl rfl (by simp [acmp, hxy]) ?_
      refine iconstV X0.here hexec rfl 1 (hb hbytes d5) (by decide) ?_
      exact Steps.refl _)
    subst hxy
    have ec : cd = cd' := by
      obtain ⟨D, fd, a1, a2, a3⟩ := hx.2.2.1
      obtain ⟨D', fd', b1, b2, b3⟩ := hy.2.2.1
      cases a1.symm.trans b1
      obtain ⟨q1, q2, q3, q4⟩ := a2.1
      obtain ⟨r1, r2, r3, r4⟩ := b2.1
      cases q4.symm.trans r4
      cases a3.symm.trans b3; rfl
    have et : t = t' := by
      obtain ⟨D, fd, a1, a2, a3⟩ := hx.2.1
      obtain ⟨D', fd', b1, b2, b3⟩ := hy.2.1
      cases a1.symm.trans b1
      obtain ⟨q1, q2, q3, q4⟩ := a2.1
      obtain ⟨r1, r2, r3, r4⟩ := b2.1
      cases q4.symm.trans r4
      cases a3.symm.trans b3; rfl
    subst ec et
    have ev : V = V' := by cases hx.2.2.2.1.1.symm.trans hy.2.2.2.1.1; rfl
    subst ev
    have hs : SameT n f k g := (Cod.eqv hx.2.2.2.2.1 hy.2.2.2.2.1 hx.2.2.2.2.2 hy.2.2.2.2.2).mp ⟨rfl, fun _ _ => rfl⟩
    exact ⟨s₁, some (.int 1), _, _, _, X0, rfl, rfl, rfl, (fun h => by cases h), ⟨1, rfl, hh0, Or.inl ⟨rfl, hs⟩⟩, fun fs hl => c2.trans (X0.ireturnOut hexec hret rfl (Or.inr (Or.inl rfl)) (hb hbytes d6) hl)⟩
  · have c2 : Steps p.tables e below (s₁.setTop (entryFrame m #[.ref x, .ref y] 3)) (s₁.setTop (mkF m 8 #[.val (.ref x), .val (.ref y), .unset] [.ref y])) := c1.trans (by
      refine acmpYes X0.here hexec rfl (pc0 := 2) rfl (hb hbytes d2) rfl rfl rfl (by simp [acmp, hxy]) (by decide) rfl ?_
      refine XS.aloadN X0.here hexec rfl (hb hbytes d7) rfl rfl ?_
      exact Steps.refl _)
    obtain ⟨T3, X3, q3, st3⟩ := cinst X0 hexec hown (wk W (.classLink "java/lang/String" 10 "java/lang/String")) (hy.mv X0.warmed.alike hh0).1 (g := (mkF m 8 #[.val (.ref x), .val (.ref y), .unset] [.ref y])) rfl (rest := []) rfl (hb hbytes d8)
    have hh3 := q3.trans hh0
    have c4 : Steps p.tables e below (s₁.setTop (entryFrame m #[.ref x, .ref y] 3)) (T3.setTop (mkF m 15 #[.val (.ref x), .val (.ref y), .unset] [.ref y])) := (c2.trans (st3 _ (Steps.refl _))).trans (by
      refine XS.ifNo X3.here hexec rfl (hb hbytes d11) rfl (i0_eq_f (by decide)) ?_
      refine XS.aloadN X3.here hexec rfl (hb hbytes d14) rfl rfl ?_
      exact Steps.refl _)
    obtain ⟨T5, X5, q5, st5⟩ := cself X3 hexec hown (wk W (.classLink "java/lang/String" 10 "java/lang/String")) (hy.mv X3.warmed.alike hh3).1 (g := (mkF m 15 #[.val (.ref x), .val (.ref y), .unset] [.ref y])) rfl (rest := []) rfl (hb hbytes d15)
    have hh5 := q5.trans hh3
    have c6 : Steps p.tables e below (s₁.setTop (entryFrame m #[.ref x, .ref y] 3)) (T5.setTop (mkF m 19 #[.val (.ref x), .val (.ref y), .val (.ref y)] [])) := (c4.trans (st5 _ (Steps.refl _))).trans (by
      refine XS.astoreN X5.here hexec rfl (hb hbytes d18) rfl rfl rfl ?_
      exact Steps.refl _)
    obtain ⟨T7, X7, q7, st7⟩ := X5.sget hexec hown (wk W (.fieldLink "java/lang/String" 38 "java/lang/String" "COMPACT_STRINGS" "Z")) s1 (fun _ _ h => by rw [hh5]; exact h) (g := (mkF m 19 #[.val (.ref x), .val (.ref y), .val (.ref y)] [])) rfl (hb hbytes d19)
    have hh7 := q7.trans hh5
    have c8 : Steps p.tables e below (s₁.setTop (entryFrame m #[.ref x, .ref y] 3)) (T7.setTop (mkF m 26 #[.val (.ref x), .val (.ref y), .val (.ref y)] [.ref x])) := (c6.trans (st7 _ (Steps.refl _))).trans (by
      refine XS.ifNo X7.here hexec rfl (hb hbytes d22) rfl (i0_eq_f hz) ?_
      refine XS.aloadN X7.here hexec rfl (hb hbytes d25) rfl rfl ?_
      exact Steps.refl _)
    obtain ⟨T9, X9, q9, st9⟩ := X7.hget hexec hown (wk W (.fieldLink "java/lang/String" 15 "java/lang/String" "coder" "B")) (hx.mv X7.warmed.alike hh7).2.2.1 (g := (mkF m 26 #[.val (.ref x), .val (.ref y), .val (.ref y)] [.ref x])) rfl (rest := []) rfl (hb hbytes d26)
    have hh9 := q9.trans hh7
    have c10 : Steps p.tables e below (s₁.setTop (entryFrame m #[.ref x, .ref y] 3)) (T9.setTop (mkF m 30 #[.val (.ref x), .val (.ref y), .val (.ref y)] [.ref y, .int cd])) := (c8.trans (st9 _ (Steps.refl _))).trans (by
      refine XS.aloadN X9.here hexec rfl (hb hbytes d29) rfl rfl ?_
      exact Steps.refl _)
    obtain ⟨T11, X11, q11, st11⟩ := X9.hget hexec hown (wk W (.fieldLink "java/lang/String" 15 "java/lang/String" "coder" "B")) (hy.mv X9.warmed.alike hh9).2.2.1 (g := (mkF m 30 #[.val (.ref x), .val (.ref y), .val (.ref y)] [.ref y, .int cd])) rfl (rest := [.int cd]) rfl (hb hbytes d30)
    have hh11 := q11.trans hh9
    have c12 : Steps p.tables e below (s₁.setTop (entryFrame m #[.ref x, .ref y] 3)) (T11.setTop (mkF m 33 #[.val (.ref x), .val (.ref y), .val (.ref y)] [.int cd', .int cd])) := c10.trans (st11 _ (Steps.refl _))
    by_cases hcd : cd = cd'
    · subst hcd
      have c13 : Steps p.tables e below (s₁.setTop (entryFrame m #[.ref x, .ref y] 3)) (T11.setTop (mkF m 37 #[.val (.ref x), .val (.ref y), .val (.ref y)] [.ref x])) := c12.trans (by
        refine XS.icmpNo X11.here hexec rfl (hb hbytes d33) rfl (ii_ne_f rfl) ?_
        refine XS.aloadN X11.here hexec rfl (hb hbytes d36) rfl rfl ?_
        exact Steps.refl _)
      obtain ⟨T14, X14, q14, st14⟩ := X11.hget hexec hown (wk W (.fieldLink "java/lang/String" 9 "java/lang/String" "value" "[B")) (hx.mv X11.warmed.alike hh11).2.1 (g := (mkF m 37 #[.val (.ref x), .val (.ref y), .val (.ref y)] [.ref x])) rfl (rest := []) rfl (hb hbytes d37)
      have hh14 := q14.trans hh11
      have c15 : Steps p.tables e below (s₁.setTop (entryFrame m #[.ref x, .ref y] 3)) (T14.setTop (mkF m 41 #[.val (.ref x), .val (.ref y), .val (.ref y)] [.ref y, .ref t])) := (c13.trans (st14 _ (Steps.refl _))).trans (by
        refine XS.aloadN X14.here hexec rfl (hb hbytes d40) rfl rfl ?_
        exact Steps.refl _)
      obtain ⟨T16, X16, q16, st16⟩ := X14.hget hexec hown (wk W (.fieldLink "java/lang/String" 9 "java/lang/String" "value" "[B")) (hy.mv X14.warmed.alike hh14).2.1 (g := (mkF m 41 #[.val (.ref x), .val (.ref y), .val (.ref y)] [.ref y, .ref t])) rfl (rest := [.ref t]) rfl (hb hbytes d41)
      have hh16 := q16.trans hh14
      have c17 : Steps p.tables e below (s₁.setTop (entryFrame m #[.ref x, .ref y] 3)) (T16.setTop (mkF m 44 #[.val (.ref x), .val (.ref y), .val (.ref y)] [.ref t', .ref t])) := c15.trans (st16 _ (Steps.refl _))
      obtain ⟨v18, T18, X18, E18, g18⟩ := X16.callS hexec (LEq.law l t V t' V') hown (wks W (staticW "java/lang/String" 541 LEq.yN)) (wk W LEq.tab) (W := 0) (Nat.le_of_ble_eq_true rfl) (Nat.le_of_ble_eq_true rfl) (Nat.le_refl _) (Nat.le_refl _) (g := (mkF m 44 #[.val (.ref x), .val (.ref y), .val (.ref y)] [.ref t', .ref t])) rfl (by rw [hml]; rfl) c17 (argsL := [.ref t, .ref t']) (rest := []) rfl rfl (by show 2 * 0 + 0 ≤ _; decide) (hb hbytes d44) (⟨rfl, hx.2.2.2.1.mv X16.warmed.alike hh16, hx.2.2.2.2.1.ty, hy.2.2.2.1.mv X16.warmed.alike hh16, hy.2.2.2.2.1.ty⟩)
      obtain ⟨v, rfl, q18, hv⟩ := E18
      have iff := Cod.eqv hx.2.2.2.2.1 hy.2.2.2.2.1 hx.2.2.2.2.2 hy.2.2.2.2.2
      rcases hv with ⟨rfl, he⟩ | ⟨rfl, he⟩
      · have c19 : Steps p.tables e below (s₁.setTop (entryFrame m #[.ref x, .ref y] 3)) (T18.setTop (mkF m 55 #[.val (.ref x), .val (.ref y), .val (.ref y)] [.int 1])) := Steps.trans g18 (by
          refine XS.ifNo X18.here hexec rfl (hb hbytes d47) rfl (i0_eq_f (by decide)) ?_
          refine iconstV X18.here hexec rfl 1 (hb hbytes d50) (by decide) ?_
          refine XS.goto X18.here hexec rfl (pc0 := 51) rfl (hb hbytes d51) (by decide) rfl ?_
          exact Steps.refl _)
        exact ⟨T18, some (.int 1), _, _, _, X18, rfl, rfl, rfl, (fun h => by cases h), ⟨1, rfl, q18.trans hh16, Or.inl ⟨rfl, iff.mp he⟩⟩, fun fs hl => c19.trans (X18.ireturnOut hexec hret rfl (Or.inr (Or.inl rfl)) (hb hbytes d55) hl)⟩
      · have c19 : Steps p.tables e below (s₁.setTop (entryFrame m #[.ref x, .ref y] 3)) (T18.setTop (mkF m 55 #[.val (.ref x), .val (.ref y), .val (.ref y)] [.int 0])) := Steps.trans g18 (by
          refine XS.ifYes X18.here hexec rfl (pc0 := 47) rfl (hb hbytes d47) rfl (i0_eq_t rfl) (by decide) rfl ?_
          refine iconstV X18.here hexec rfl 0 (hb hbytes d54) (by decide) ?_
          exact Steps.refl _)
        exact ⟨T18, some (.int 0), _, _, _, X18, rfl, rfl, rfl, (fun h => by cases h), ⟨0, rfl, q18.trans hh16, Or.inr ⟨rfl, fun q => he (iff.mpr q)⟩⟩, fun fs hl => c19.trans (X18.ireturnOut hexec hret rfl (Or.inr (Or.inl rfl)) (hb hbytes d55) hl)⟩
    · have c13 : Steps p.tables e below (s₁.setTop (entryFrame m #[.ref x, .ref y] 3)) (T11.setTop (mkF m 55 #[.val (.ref x), .val (.ref y), .val (.ref y)] [.int 0])) := c12.trans (by
        refine XS.icmpYes X11.here hexec rfl (pc0 := 33) rfl (hb hbytes d33) rfl (ii_ne_t hcd) (by decide) rfl ?_
        refine iconstV X11.here hexec rfl 0 (hb hbytes d54) (by decide) ?_
        exact Steps.refl _)
      exact ⟨T11, some (.int 0), _, _, _, X11, rfl, rfl, rfl, (fun h => by cases h), ⟨0, rfl, hh11, Or.inr ⟨rfl, Cod.dif hx.2.2.2.2.1 hy.2.2.2.2.1 hcd⟩⟩, fun fs hl => c13.trans (X11.ireturnOut hexec hret rfl (Or.inr (Or.inl rfl)) (hb hbytes d55) hl)⟩
theorem pays {l : Launch} {R : Room} {p : Program} {e : Env} {below : List Frame} {s : State} {sargs : Array Value} {len W : Nat} (x t : Addr) (V : Cell) (cd : Int32) (n : Nat) (f : Nat → Int32) (y t' : Addr) (V' : Cell) (cd' : Int32) (k : Nat) (g : Nat → Int32) (z : Int32) (htab : tab.before sargs s = true) (hfr : 2 ≤ R.frames) (hlo : W + 28 ≤ R.locals) :
    Back l R p e below s sargs yN len W (fun A₁ a₁ => A₁.cells + 0 ≤ R.cells ∧ A₁.slots + 0 ≤ R.slots ∧ P x t V cd n f y t' V' cd' k g z a₁ A₁.U) (fun A₁ _ v₁ B₁ => Says01 (SameT n f k g) v₁ A₁.U B₁.U ∧ B₁.locs = A₁.locs ++ [] ∧ B₁.cells = A₁.cells + 0 ∧ B₁.slots = A₁.slots + 0) :=
  (law l x t V cd n f y t' V' cd' k g z).pays htab hfr (by omega)
end SEq
end StrChars
namespace StrChars.Road
open Jvm Sem ClassFile Op Lib Jvm.Stand Jvm.Free Jvm.Free.XT
open Jvm.Lib.Cold (StaticIs)
/-- the words of String.equals(Object) -/
abbrev wordsEq : List Jvm.Cond := [.code SEq.yN SEq.yB 3 (some .boolean), .initialized ST, .classLink ST 10 ST, .fieldLink ST 38 ST "COMPACT_STRINGS" "Z", .fieldLink ST 15 ST "coder" "B", .fieldLink ST 9 ST "value" "[B", .methodLink ST 541 LEq.yN, .static LEq.yN, .code LEq.yN LEq.yB 3 (some .boolean), .initialized "java/lang/StringLatin1"]
theorem tabEq_of {a : Array Value} {s : State} (h : ∀ w ∈ wordsEq, w.before a s = true) : SEq.tab.before a s = true := by
  have hl : LEq.tab.before a s = true := unparts (wk h (.code LEq.yN LEq.yB 3 (some .boolean))) (wks h (.initialized LEq.yN.cls :: LEq.site))
  have q := consq hl h
  exact unparts (wk q (.code SEq.yN SEq.yB 3 (some .boolean))) (wks q (.initialized SEq.yN.cls :: SEq.site))
theorem movedEq {Z s : State} {a0 args : Array Value} (hZ : Z.Warmed39 s.vm) (hw : ∀ d ∈ wordsEq, d.before a0 Z = true) : ∀ d ∈ wordsEq, d.before args s = true := fun d hd => by
  have t : ∀ d ∈ wordsEq, (d.onTables && d.keepsFace) = true := by decide +kernel
  exact RoadKit.mv hZ (hw d hd) (t d hd)
/-- the road's facts of a String, as the laws ask it -/
theorem txt_of {Z U : State} {a0 : Array Value} {kI : Nat} (wi : (Jvm.Cond.instantiable ST kI).before a0 Z = true) (al : Z.vm.Alike U.vm) {x t : Addr} {kb : ClassId} {cs : List Int32} {cd N2 : Int32} {vs : List Value} (E : RoadKit.Exa Z U.heap x ST) (V : RoadKit.Fld Z U.heap x ST "value" "[B" (.ref t)) (C : RoadKit.Fld Z U.heap x ST "coder" "B" (.int cd)) (K : RoadKit.Arv Z U.heap t kb .byte N2 vs (.int 0)) (hc : CodA cs cd N2 vs) (hb : ∀ c ∈ cs, ¬ c < 0 ∧ ¬ (65535 : Int32) < c) (l2 : cs.length ≤ 4000) :
    ∃ A, Txt x t A cd cs.length (fun j => cs.getD j 0) U := by
  obtain ⟨A, K1, K2, K3, K4, K5, K6⟩ := K
  have hcod := hc.cod (by omega) K3 K5
  obtain ⟨D, fV, fC, hB, F1, F2, g1, g2, -, -⟩ := strObj wi al E V C
  exact ⟨A, ⟨_, hB.2.2.1, D, hB.1, rfl, by cases q : D.vm <;> first | rfl | exact absurd q (hB.2.1.2 _)⟩, Has.of hB F1 g1, Has.of hB F2 g2, ⟨K1.1, State.isArrayOf_alike al K1.2.1, K1.2.2, by rcases hcod with ⟨-, q, -⟩ | ⟨-, q, -⟩ <;> omega⟩, hcod, fun j hj => by
    have e : cs.getD j 0 = cs[j] := by simp [List.getD_eq_getElem?_getD, hj]
    show ¬ cs.getD j 0 < 0 ∧ ¬ 65535 < cs.getD j 0
    rw [e]; exact hb _ (List.getElem_mem _)⟩
theorem same_list (cs ds : List Int32) : SameT cs.length (fun j => cs.getD j 0) ds.length (fun j => ds.getD j 0) ↔ cs = ds := by
  constructor
  · rintro ⟨e, q⟩
    refine List.ext_getElem e fun j h1 h2 => ?_
    have := q j h1
    simpa [List.getD_eq_getElem?_getD, h1, h2] using this
  · rintro rfl
    exact ⟨rfl, fun _ _ => rfl⟩
/-- **equals(Object) OF TWO SUCH STRINGS**: 1 just where the chars are the same -/
theorem eqW {p : Program} {l : Launch} {e : Env} {R : Room} {s : State} {args : Array Value} {below : List Frame} {len W : Nat} {Z : State} {a0 : Array Value} {h : Heap} (hZ : Z.Warmed39 s.vm) (hw : ∀ d ∈ wordsEq, d.before a0 Z = true) {kI : Nat} (wi : (Jvm.Cond.instantiable ST kI).before a0 Z = true)
    {x t : Addr} {kb : ClassId} {cs : List Int32} {cd N2 : Int32} {vs : List Value} (E : RoadKit.Exa Z h x ST) (V : RoadKit.Fld Z h x ST "value" "[B" (.ref t)) (C : RoadKit.Fld Z h x ST "coder" "B" (.int cd)) (K : RoadKit.Arv Z h t kb .byte N2 vs (.int 0)) (hc : CodA cs cd N2 vs) (hb : ∀ c ∈ cs, ¬ c < 0 ∧ ¬ (65535 : Int32) < c) (l2 : cs.length ≤ 4000)
    {y t' : Addr} {kb' : ClassId} {ds : List Int32} {cd' N2' : Int32} {vs' : List Value} (E' : RoadKit.Exa Z h y ST) (V' : RoadKit.Fld Z h y ST "value" "[B" (.ref t')) (C' : RoadKit.Fld Z h y ST "coder" "B" (.int cd')) (K' : RoadKit.Arv Z h t' kb' .byte N2' vs' (.int 0)) (hc' : CodA ds cd' N2' vs') (hb' : ∀ c ∈ ds, ¬ c < 0 ∧ ¬ (65535 : Int32) < c) (l2' : ds.length ≤ 4000)
    {z : Int32} (S : RoadKit.Sta Z h ST "COMPACT_STRINGS" "Z" (.int z)) (hz : ¬ z = 0) (hfr : 2 ≤ R.frames) (hlo : W + 28 ≤ R.locals) :
    Back l R p e below s args (⟨"java/lang/String", "equals", "(Ljava/lang/Object;)Z"⟩ : MethodName) len W (fun P a => a = #[.ref x, .ref y] ∧ P.U.heap = h ∧ P.cells + 0 ≤ R.cells ∧ P.slots + 0 ≤ R.slots)
      (fun P _ v B => ∃ L, (((v = some (.int 1) ∧ cs = ds) ∨ (v = some (.int 0) ∧ ¬ cs = ds)) ∧ L = [] ∧ B.U.heap = h) ∧ B.locs = P.locs ++ L ∧ B.cells = P.cells + 0 ∧ B.slots = P.slots + 0) := by
  intro m meth c P g ig mk a X hg hsize hdg hW hn hp'
  obtain ⟨rfl, rfl, r1, r2⟩ := hp'
  have al : Z.vm.Alike P.U.vm := hZ.alike.trans X.warmed.alike
  obtain ⟨A, hx⟩ := txt_of wi al E V C K hc hb l2
  obtain ⟨A', hy⟩ := txt_of wi al E' V' C' K' hc' hb' l2'
  obtain ⟨v, B, X', ⟨⟨w, hv, hh, hq⟩, hl, hk, hs⟩, st⟩ := SEq.pays x t A cd cs.length (fun j => cs.getD j 0) y t' A' cd' ds.length (fun j => ds.getD j 0) z (tabEq_of (movedEq hZ hw)) hfr hlo m meth c P g ig mk _ X hg hsize hdg hW hn ⟨r1, r2, rfl, hx, hy, sta_is al S, hz⟩
  refine ⟨v, B, X', ⟨[], ⟨?_, rfl, hh⟩, hl, hk, hs⟩, st⟩
  rcases hq with ⟨rfl, q⟩ | ⟨rfl, q⟩
  · exact Or.inl ⟨hv, (same_list cs ds).mp q⟩
  · exact Or.inr ⟨hv, fun e => q ((same_list cs ds).mpr e)⟩
end StrChars.Road
namespace StrChars.Road
open Jvm Sem ClassFile Op Lib Jvm.Stand Jvm.Free Jvm.Free.XT
open Jvm.Lib.Cold (StaticIs)
/-- what backV says of its String, as the contracts of this text ask it: cs's low bytes, coder 0 -/
theorem codOf {cs : List Int32} {n : Nat} (hn : cs.length = n) (hb : ∀ c ∈ cs, ¬ 255 < c) : CodA cs 0 (Int32.ofNat n) ((cs.map lo8).map Value.int) := Or.inl ⟨rfl, by rw [hn], by simp [List.map_map, Function.comp_def], hb⟩
end StrChars.Road
end Jvm.Pilot.@@N@@
namespace Jvm.Pilot.@@N@@
open Jvm Jvm.ClassFile Sem Op Lib Jvm.Free Jvm.Stand Jvm.LawKit Jvm.RoadKit Bundle Jvm.OwnKit Jvm.Pilot.@@N@@.Jvm.D

theorem own_up (cs : List Int32) (h : ∀ c ∈ cs, ¬ c < 0 ∧ ¬ (255 : Int32) < c) : ∀ c ∈ cs, ¬ c < 0 ∧ ¬ (65535 : Int32) < c := fun c hc => ⟨(h c hc).1, fun q => (h c hc).2 (by rw [Int32.lt_iff_toInt_lt] at q ⊢; have e1 : (65535 : Int32).toInt = 65535 := rfl; have e2 : (255 : Int32).toInt = 255 := rfl; omega)⟩
theorem own_ch (x : Int32) : ¬ nar .char ((x &&& (255 : Int32)).toUInt32.toUInt16.toUInt32.toInt32) < 0 ∧ ¬ (255 : Int32) < nar .char ((x &&& (255 : Int32)).toUInt32.toUInt16.toUInt32.toInt32) := by
  have h1 : (x &&& (255 : Int32)).toInt = x.toInt % (2 ^ 8 : Nat) := c_mask x 255 8 (by decide) (by decide)
  have h2 := c_i2c (x &&& (255 : Int32))
  have h3 := c_i2c ((x &&& (255 : Int32)).toUInt32.toUInt16.toUInt32.toInt32)
  show ¬ ((x &&& (255 : Int32)).toUInt32.toUInt16.toUInt32.toInt32).toUInt32.toUInt16.toUInt32.toInt32 < 0 ∧ ¬ (255 : Int32) < ((x &&& (255 : Int32)).toUInt32.toUInt16.toUInt32.toInt32).toUInt32.toUInt16.toUInt32.toInt32
  simp only [Int32.lt_iff_toInt_lt, Int32.reduceToInt]
  omega

def own_ci (x : Int32) : Int32 := (x &&& (255 : Int32)).toUInt32.toUInt16.toUInt32.toInt32
theorem own_cit (x : Int32) : (own_ci x).toInt = x.toInt % 256 := by
  have h1 : (x &&& (255 : Int32)).toInt = x.toInt % (2 ^ 8 : Nat) := c_mask x 255 8 (by decide) (by decide)
  have h2 := c_i2c (x &&& (255 : Int32))
  have h3 : (own_ci x).toInt = ((x &&& (255 : Int32)).toUInt32.toUInt16.toUInt32.toInt32).toInt := rfl
  omega
theorem own_cir (x : Int32) : ¬ own_ci x < 0 ∧ ¬ (255 : Int32) < own_ci x := by
  have h := own_cit x
  simp only [Int32.lt_iff_toInt_lt, Int32.reduceToInt]
  omega
theorem own_nar (x : Int32) : nar .char (own_ci x) = own_ci x := by
  have h := own_cit x
  have h3 := c_i2c (own_ci x)
  show (own_ci x).toUInt32.toUInt16.toUInt32.toInt32 = own_ci x
  apply Int32.toInt_inj.mp
  omega
theorem own_n8 (x : Int32) : nar .byte (x.toInt8.toInt32) = x.toInt8.toInt32 := by
  show (x.toInt8.toInt32).toInt8.toInt32 = x.toInt8.toInt32
  rw [Int8.toInt8_toInt32]
theorem own_ciE (a b : Int32) : own_ci a = own_ci b ↔ (a &&& (255 : Int32)) = (b &&& (255 : Int32)) := by
  have h1 : (a &&& (255 : Int32)).toInt = a.toInt % (2 ^ 8 : Nat) := c_mask a 255 8 (by decide) (by decide)
  have h2 : (b &&& (255 : Int32)).toInt = b.toInt % (2 ^ 8 : Nat) := c_mask b 255 8 (by decide) (by decide)
  have h3 := own_cit a
  have h4 := own_cit b
  rw [← Int32.toInt_inj, ← Int32.toInt_inj]
  omega
def own_cs (l a b : Int32) : List Int32 := if (l &&& (1 : Int32)) = (0 : Int32) then [own_ci a] else [own_ci a, own_ci b]
def own_vs (cs : List Int32) : List Value := (cs.map fun c => c.toInt8.toInt32).map Value.int
theorem own_csr (l a b : Int32) : ∀ c ∈ own_cs l a b, ¬ c < 0 ∧ ¬ (255 : Int32) < c := by
  intro c hc
  unfold own_cs at hc
  split at hc
  · simp only [List.mem_cons, List.not_mem_nil, or_false] at hc
    subst hc; exact own_cir a
  · simp only [List.mem_cons, List.not_mem_nil, or_false] at hc
    rcases hc with rfl | rfl
    · exact own_cir a
    · exact own_cir b
theorem own_csl (l a b : Int32) : (own_cs l a b).length ≤ 4000 := by
  unfold own_cs; split <;> simp
def own_same (l1 a1 b1 l2 a2 b2 : Int32) : Int32 := if own_cs l1 a1 b1 = own_cs l2 a2 b2 then (1 : Int32) else 0
theorem own_eqv {P : Prop} [Decidable P] {v : Option Value} (h : (v = some (.int 1) ∧ P) ∨ (v = some (.int 0) ∧ ¬ P)) : v = some (.int (if P then (1 : Int32) else 0)) := by
  rcases h with ⟨rfl, h⟩ | ⟨rfl, h⟩
  · rw [if_pos h]
  · rw [if_neg h]
theorem own_t {P : Prop} [Decidable P] (h : ¬ (if P then (1 : Int32) else 0) = (0 : Int32)) : P := by
  by_cases q : P
  · exact q
  · rw [if_neg q] at h; exact absurd rfl h
theorem own_f {P : Prop} [Decidable P] (h : (if P then (1 : Int32) else 0) = (0 : Int32)) : ¬ P := fun q => by
  rw [if_pos q] at h; exact absurd h (by decide)
abbrev own_eq3 (a1 a2 a3 b1 b2 b3 : List Int32) : Prop := a1 = b1 ∧ a2 = b2 ∧ a3 = b3
theorem own_fin (l1 a1 b1 l2 a2 b2 m1 c1 d1 m2 c2 d2 n1 e1 f1 n2 e2 f2 x : Int32)
    (q : x = (if own_same l1 a1 b1 l2 a2 b2 = (0 : Int32) then (0 : Int32) else (if own_same m1 c1 d1 m2 c2 d2 = (0 : Int32) then (0 : Int32) else (if own_same n1 e1 f1 n2 e2 f2 = (0 : Int32) then (0 : Int32) else (1 : Int32))))) :
    (if own_eq3 (own_cs l1 a1 b1) (own_cs m1 c1 d1) (own_cs n1 e1 f1) (own_cs l2 a2 b2) (own_cs m2 c2 d2) (own_cs n2 e2 f2) then (1 : Int32) else 0) = x ∧ (if own_eq3 (own_cs l2 a2 b2) (own_cs m2 c2 d2) (own_cs n2 e2 f2) (own_cs l1 a1 b1) (own_cs m1 c1 d1) (own_cs n1 e1 f1) then (1 : Int32) else 0) = x := by
  subst q
  unfold own_same own_eq3
  generalize own_cs l1 a1 b1 = A
  generalize own_cs l2 a2 b2 = A'
  generalize own_cs m1 c1 d1 = B
  generalize own_cs m2 c2 d2 = B'
  generalize own_cs n1 e1 f1 = D
  generalize own_cs n2 e2 f2 = D'
  by_cases h1 : A = A'
  · subst h1
    by_cases h2 : B = B'
    · subst h2
      by_cases h3 : D = D'
      · subst h3; simp
      · have h3' : ¬ D' = D := fun e => h3 e.symm
        simp [h3, h3']
    · have h2' : ¬ B' = B := fun e => h2 e.symm
      simp [h2, h2']
  · have h1' : ¬ A' = A := fun e => h1 e.symm
    simp [h1, h1']
abbrev fL0 (y0 : Int32) (y1 : Int32) (y2 : Int32) : Array Slot := #[.val (.int y0), .val (.int y1), .val (.int y2), .unset, .unset]
abbrev fL1 (y0 : Int32) (y1 : Int32) (y2 : Int32) (y3 : Int32) : Array Slot := #[.val (.int y0), .val (.int y1), .val (.int y2), .val (.int y3), .unset]
abbrev fL2 (y0 : Int32) (y1 : Int32) (y2 : Int32) (y3 : Int32) (y4 : Int32) : Array Slot := #[.val (.int y0), .val (.int y1), .val (.int y2), .val (.int y3), .val (.int y4)]
abbrev fL3 (y0 : Int32) (y1 : Int32) (y2 : Int32) (y3 : Int32) (y4 : Int32) (y5 : Int32) : Array Slot := #[.val (.int y0), .val (.int y1), .val (.int y2), .val (.int y3), .val (.int y4), .val (.int y5), .unset, .unset]
abbrev fL4 (y0 : Int32) (y1 : Int32) (y2 : Int32) (y3 : Int32) (y4 : Int32) (y5 : Int32) (y6 : Int32) : Array Slot := #[.val (.int y0), .val (.int y1), .val (.int y2), .val (.int y3), .val (.int y4), .val (.int y5), .val (.int y6), .unset]
abbrev fL5 (y0 : Int32) (y1 : Int32) (y2 : Int32) (y3 : Int32) (y4 : Int32) (y5 : Int32) (y6 : Int32) (y7 : Int32) : Array Slot := #[.val (.int y0), .val (.int y1), .val (.int y2), .val (.int y3), .val (.int y4), .val (.int y5), .val (.int y6), .val (.int y7)]
abbrev fL6 (y0 : Int32) (y1 : Int32) (y2 : Int32) (y3 : Int32) : Array Slot := #[.val (.int y0), .val (.int y1), .val (.int y2), .val (.int y3), .unset, .unset, .unset, .unset, .unset, .unset, .unset, .unset, .unset, .unset, .unset, .unset, .unset, .unset, .unset, .unset, .unset, .unset, .unset, .unset, .unset, .unset, .unset]
abbrev fL7 (y0 : Int32) (y1 : Int32) (y2 : Int32) (y3 : Int32) (y4 : Int32) : Array Slot := #[.val (.int y0), .val (.int y1), .val (.int y2), .val (.int y3), .val (.int y4), .unset, .unset, .unset, .unset, .unset, .unset, .unset, .unset, .unset, .unset, .unset, .unset, .unset, .unset, .unset, .unset, .unset, .unset, .unset, .unset, .unset, .unset]
abbrev fL8 (y0 : Int32) (y1 : Int32) (y2 : Int32) (y3 : Int32) (y4 : Int32) (y5 : Int32) : Array Slot := #[.val (.int y0), .val (.int y1), .val (.int y2), .val (.int y3), .val (.int y4), .val (.int y5), .unset, .unset, .unset, .unset, .unset, .unset, .unset, .unset, .unset, .unset, .unset, .unset, .unset, .unset, .unset, .unset, .unset, .unset, .unset, .unset, .unset]
abbrev fL9 (y0 : Int32) (y1 : Int32) (y2 : Int32) (y3 : Int32) (y4 : Int32) (y5 : Int32) (y6 : Int32) : Array Slot := #[.val (.int y0), .val (.int y1), .val (.int y2), .val (.int y3), .val (.int y4), .val (.int y5), .val (.int y6), .unset, .unset, .unset, .unset, .unset, .unset, .unset, .unset, .unset, .unset, .unset, .unset, .unset, .unset, .unset, .unset, .unset, .unset, .unset, .unset]
abbrev fL10 (y0 : Int32) (y1 : Int32) (y2 : Int32) (y3 : Int32) (y4 : Int32) (y5 : Int32) (y6 : Int32) (y7 : Int32) : Array Slot := #[.val (.int y0), .val (.int y1), .val (.int y2), .val (.int y3), .val (.int y4), .val (.int y5), .val (.int y6), .val (.int y7), .unset, .unset, .unset, .unset, .unset, .unset, .unset, .unset, .unset, .unset, .unset, .unset, .unset, .unset, .unset, .unset, .unset, .unset, .unset]
abbrev fL11 (y0 : Int32) (y1 : Int32) (y2 : Int32) (y3 : Int32) (y4 : Int32) (y5 : Int32) (y6 : Int32) (y7 : Int32) (y8 : Int32) : Array Slot := #[.val (.int y0), .val (.int y1), .val (.int y2), .val (.int y3), .val (.int y4), .val (.int y5), .val (.int y6), .val (.int y7), .val (.int y8), .unset, .unset, .unset, .unset, .unset, .unset, .unset, .unset, .unset, .unset, .unset, .unset, .unset, .unset, .unset, .unset, .unset, .unset]
abbrev fL12 (y0 : Int32) (y1 : Int32) (y2 : Int32) (y3 : Int32) (y4 : Int32) (y5 : Int32) (y6 : Int32) (y7 : Int32) (y8 : Int32) (y9 : Int32) : Array Slot := #[.val (.int y0), .val (.int y1), .val (.int y2), .val (.int y3), .val (.int y4), .val (.int y5), .val (.int y6), .val (.int y7), .val (.int y8), .val (.int y9), .unset, .unset, .unset, .unset, .unset, .unset, .unset, .unset, .unset, .unset, .unset, .unset, .unset, .unset, .unset, .unset, .unset]
abbrev fL13 (y0 : Int32) (y1 : Int32) (y2 : Int32) (y3 : Int32) (y4 : Int32) (y5 : Int32) (y6 : Int32) (y7 : Int32) (y8 : Int32) (y9 : Int32) (y10 : Int32) : Array Slot := #[.val (.int y0), .val (.int y1), .val (.int y2), .val (.int y3), .val (.int y4), .val (.int y5), .val (.int y6), .val (.int y7), .val (.int y8), .val (.int y9), .val (.int y10), .unset, .unset, .unset, .unset, .unset, .unset, .unset, .unset, .unset, .unset, .unset, .unset, .unset, .unset, .unset, .unset]
abbrev fL14 (y0 : Int32) (y1 : Int32) (y2 : Int32) (y3 : Int32) (y4 : Int32) (y5 : Int32) (y6 : Int32) (y7 : Int32) (y8 : Int32) (y9 : Int32) (y10 : Int32) (y11 : Int32) : Array Slot := #[.val (.int y0), .val (.int y1), .val (.int y2), .val (.int y3), .val (.int y4), .val (.int y5), .val (.int y6), .val (.int y7), .val (.int y8), .val (.int y9), .val (.int y10), .val (.int y11), .unset, .unset, .unset, .unset, .unset, .unset, .unset, .unset, .unset, .unset, .unset, .unset, .unset, .unset, .unset]
abbrev fL15 (y0 : Int32) (y1 : Int32) (y2 : Int32) (y3 : Int32) (y4 : Int32) (y5 : Int32) (y6 : Int32) (y7 : Int32) (y8 : Int32) (y9 : Int32) (y10 : Int32) (y11 : Int32) (y12 : Int32) : Array Slot := #[.val (.int y0), .val (.int y1), .val (.int y2), .val (.int y3), .val (.int y4), .val (.int y5), .val (.int y6), .val (.int y7), .val (.int y8), .val (.int y9), .val (.int y10), .val (.int y11), .val (.int y12), .unset, .unset, .unset, .unset, .unset, .unset, .unset, .unset, .unset, .unset, .unset, .unset, .unset, .unset]
abbrev fL16 (y0 : Int32) (y1 : Int32) (y2 : Int32) (y3 : Int32) (y4 : Int32) (y5 : Int32) (y6 : Int32) (y7 : Int32) (y8 : Int32) (y9 : Int32) (y10 : Int32) (y11 : Int32) (y12 : Int32) (y13 : Int32) : Array Slot := #[.val (.int y0), .val (.int y1), .val (.int y2), .val (.int y3), .val (.int y4), .val (.int y5), .val (.int y6), .val (.int y7), .val (.int y8), .val (.int y9), .val (.int y10), .val (.int y11), .val (.int y12), .val (.int y13), .unset, .unset, .unset, .unset, .unset, .unset, .unset, .unset, .unset, .unset, .unset, .unset, .unset]
abbrev fL17 (y0 : Int32) (y1 : Int32) (y2 : Int32) (y3 : Int32) (y4 : Int32) (y5 : Int32) (y6 : Int32) (y7 : Int32) (y8 : Int32) (y9 : Int32) (y10 : Int32) (y11 : Int32) (y12 : Int32) (y13 : Int32) (y14 : Int32) : Array Slot := #[.val (.int y0), .val (.int y1), .val (.int y2), .val (.int y3), .val (.int y4), .val (.int y5), .val (.int y6), .val (.int y7), .val (.int y8), .val (.int y9), .val (.int y10), .val (.int y11), .val (.int y12), .val (.int y13), .val (.int y14), .unset, .unset, .unset, .unset, .unset, .unset, .unset, .unset, .unset, .unset, .unset, .unset]
abbrev fL18 (y0 : Int32) (y1 : Int32) (y2 : Int32) (y3 : Int32) (y4 : Int32) (y5 : Int32) (y6 : Int32) (y7 : Int32) (y8 : Int32) (y9 : Int32) (y10 : Int32) (y11 : Int32) (y12 : Int32) (y13 : Int32) (y14 : Int32) (y15 : Int32) : Array Slot := #[.val (.int y0), .val (.int y1), .val (.int y2), .val (.int y3), .val (.int y4), .val (.int y5), .val (.int y6), .val (.int y7), .val (.int y8), .val (.int y9), .val (.int y10), .val (.int y11), .val (.int y12), .val (.int y13), .val (.int y14), .val (.int y15), .unset, .unset, .unset, .unset, .unset, .unset, .unset, .unset, .unset, .unset, .unset]
abbrev fL19 (y0 : Int32) (y1 : Int32) (y2 : Int32) (y3 : Int32) (y4 : Int32) (y5 : Int32) (y6 : Int32) (y7 : Int32) (y8 : Int32) (y9 : Int32) (y10 : Int32) (y11 : Int32) (y12 : Int32) (y13 : Int32) (y14 : Int32) (y15 : Int32) (y16 : Int32) : Array Slot := #[.val (.int y0), .val (.int y1), .val (.int y2), .val (.int y3), .val (.int y4), .val (.int y5), .val (.int y6), .val (.int y7), .val (.int y8), .val (.int y9), .val (.int y10), .val (.int y11), .val (.int y12), .val (.int y13), .val (.int y14), .val (.int y15), .val (.int y16), .unset, .unset, .unset, .unset, .unset, .unset, .unset, .unset, .unset, .unset]
abbrev fL20 (y0 : Int32) (y1 : Int32) (y2 : Int32) (y3 : Int32) (y4 : Int32) (y5 : Int32) (y6 : Int32) (y7 : Int32) (y8 : Int32) (y9 : Int32) (y10 : Int32) (y11 : Int32) (y12 : Int32) (y13 : Int32) (y14 : Int32) (y15 : Int32) (y16 : Int32) (y17 : Int32) : Array Slot := #[.val (.int y0), .val (.int y1), .val (.int y2), .val (.int y3), .val (.int y4), .val (.int y5), .val (.int y6), .val (.int y7), .val (.int y8), .val (.int y9), .val (.int y10), .val (.int y11), .val (.int y12), .val (.int y13), .val (.int y14), .val (.int y15), .val (.int y16), .val (.int y17), .unset, .unset, .unset, .unset, .unset, .unset, .unset, .unset, .unset]
abbrev fL21 (y0 : Int32) (y1 : Int32) (y2 : Int32) (y3 : Int32) (y4 : Int32) (y5 : Int32) (y6 : Int32) (y7 : Int32) (y8 : Int32) (y9 : Int32) (y10 : Int32) (y11 : Int32) (y12 : Int32) (y13 : Int32) (y14 : Int32) (y15 : Int32) (y16 : Int32) (y17 : Int32) (y18 : Int32) : Array Slot := #[.val (.int y0), .val (.int y1), .val (.int y2), .val (.int y3), .val (.int y4), .val (.int y5), .val (.int y6), .val (.int y7), .val (.int y8), .val (.int y9), .val (.int y10), .val (.int y11), .val (.int y12), .val (.int y13), .val (.int y14), .val (.int y15), .val (.int y16), .val (.int y17), .val (.int y18), .unset, .unset, .unset, .unset, .unset, .unset, .unset, .unset]
abbrev fL22 (y0 : Int32) (y1 : Int32) (y2 : Int32) (y3 : Int32) (y4 : Int32) (y5 : Int32) (y6 : Int32) (y7 : Int32) (y8 : Int32) (y9 : Int32) (y10 : Int32) (y11 : Int32) (y12 : Int32) (y13 : Int32) (y14 : Int32) (y15 : Int32) (y16 : Int32) (y17 : Int32) (y18 : Int32) (y19 : Int32) : Array Slot := #[.val (.int y0), .val (.int y1), .val (.int y2), .val (.int y3), .val (.int y4), .val (.int y5), .val (.int y6), .val (.int y7), .val (.int y8), .val (.int y9), .val (.int y10), .val (.int y11), .val (.int y12), .val (.int y13), .val (.int y14), .val (.int y15), .val (.int y16), .val (.int y17), .val (.int y18), .val (.int y19), .unset, .unset, .unset, .unset, .unset, .unset, .unset]
abbrev fL23 (y0 : Int32) (y1 : Int32) (y2 : Int32) (y3 : Int32) (y4 : Int32) (y5 : Int32) (y6 : Int32) (y7 : Int32) (y8 : Int32) (y9 : Int32) (y10 : Int32) (y11 : Int32) (y12 : Int32) (y13 : Int32) (y14 : Int32) (y15 : Int32) (y16 : Int32) (y17 : Int32) (y18 : Int32) (y19 : Int32) (y20 : Int32) : Array Slot := #[.val (.int y0), .val (.int y1), .val (.int y2), .val (.int y3), .val (.int y4), .val (.int y5), .val (.int y6), .val (.int y7), .val (.int y8), .val (.int y9), .val (.int y10), .val (.int y11), .val (.int y12), .val (.int y13), .val (.int y14), .val (.int y15), .val (.int y16), .val (.int y17), .val (.int y18), .val (.int y19), .val (.int y20), .unset, .unset, .unset, .unset, .unset, .unset]
abbrev fL24 (y0 : Int32) (y1 : Int32) (y2 : Int32) (y3 : Int32) (y4 : Int32) (y5 : Int32) (y6 : Int32) (y7 : Int32) (y8 : Int32) (y9 : Int32) (y10 : Int32) (y11 : Int32) (y12 : Int32) (y13 : Int32) (y14 : Int32) (y15 : Int32) (y16 : Int32) (y17 : Int32) (y18 : Int32) (y19 : Int32) (y20 : Int32) (y21 : Int32) : Array Slot := #[.val (.int y0), .val (.int y1), .val (.int y2), .val (.int y3), .val (.int y4), .val (.int y5), .val (.int y6), .val (.int y7), .val (.int y8), .val (.int y9), .val (.int y10), .val (.int y11), .val (.int y12), .val (.int y13), .val (.int y14), .val (.int y15), .val (.int y16), .val (.int y17), .val (.int y18), .val (.int y19), .val (.int y20), .val (.int y21), .unset, .unset, .unset, .unset, .unset]
abbrev fL25 (y0 : Int32) (y1 : Int32) (y2 : Int32) (y3 : Int32) (y4 : Int32) (y5 : Int32) (y6 : Int32) (y7 : Int32) (y8 : Int32) (y9 : Int32) (y10 : Int32) (y11 : Int32) (y12 : Int32) (y13 : Int32) (y14 : Int32) (y15 : Int32) (y16 : Int32) (y17 : Int32) (y18 : Int32) (y19 : Int32) (y20 : Int32) (y21 : Int32) (y22 : Int32) : Array Slot := #[.val (.int y0), .val (.int y1), .val (.int y2), .val (.int y3), .val (.int y4), .val (.int y5), .val (.int y6), .val (.int y7), .val (.int y8), .val (.int y9), .val (.int y10), .val (.int y11), .val (.int y12), .val (.int y13), .val (.int y14), .val (.int y15), .val (.int y16), .val (.int y17), .val (.int y18), .val (.int y19), .val (.int y20), .val (.int y21), .val (.int y22), .unset, .unset, .unset, .unset]
abbrev fL26 (y0 : Int32) (y1 : Int32) (y2 : Int32) (y3 : Int32) (y4 : Int32) (y5 : Int32) (y6 : Int32) (y7 : Int32) (y8 : Int32) (y9 : Int32) (y10 : Int32) (y11 : Int32) (y12 : Int32) (y13 : Int32) (y14 : Int32) (y15 : Int32) (y16 : Int32) (y17 : Int32) (y18 : Int32) (y19 : Int32) (y20 : Int32) (y21 : Int32) (y22 : Int32) (y23 : Addr) : Array Slot := #[.val (.int y0), .val (.int y1), .val (.int y2), .val (.int y3), .val (.int y4), .val (.int y5), .val (.int y6), .val (.int y7), .val (.int y8), .val (.int y9), .val (.int y10), .val (.int y11), .val (.int y12), .val (.int y13), .val (.int y14), .val (.int y15), .val (.int y16), .val (.int y17), .val (.int y18), .val (.int y19), .val (.int y20), .val (.int y21), .val (.int y22), .val (.ref y23), .unset, .unset, .unset]
abbrev fL27 (y0 : Int32) (y1 : Int32) (y2 : Int32) (y3 : Int32) (y4 : Int32) (y5 : Int32) (y6 : Int32) (y7 : Int32) (y8 : Int32) (y9 : Int32) (y10 : Int32) (y11 : Int32) (y12 : Int32) (y13 : Int32) (y14 : Int32) (y15 : Int32) (y16 : Int32) (y17 : Int32) (y18 : Int32) (y19 : Int32) (y20 : Int32) (y21 : Int32) (y22 : Int32) (y23 : Addr) (y24 : Addr) : Array Slot := #[.val (.int y0), .val (.int y1), .val (.int y2), .val (.int y3), .val (.int y4), .val (.int y5), .val (.int y6), .val (.int y7), .val (.int y8), .val (.int y9), .val (.int y10), .val (.int y11), .val (.int y12), .val (.int y13), .val (.int y14), .val (.int y15), .val (.int y16), .val (.int y17), .val (.int y18), .val (.int y19), .val (.int y20), .val (.int y21), .val (.int y22), .val (.ref y23), .val (.ref y24), .unset, .unset]
abbrev fL28 (y0 : Int32) (y1 : Int32) (y2 : Int32) (y3 : Int32) (y4 : Int32) (y5 : Int32) (y6 : Int32) (y7 : Int32) (y8 : Int32) (y9 : Int32) (y10 : Int32) (y11 : Int32) (y12 : Int32) (y13 : Int32) (y14 : Int32) (y15 : Int32) (y16 : Int32) (y17 : Int32) (y18 : Int32) (y19 : Int32) (y20 : Int32) (y21 : Int32) (y22 : Int32) (y23 : Addr) (y24 : Addr) (y25 : Addr) : Array Slot := #[.val (.int y0), .val (.int y1), .val (.int y2), .val (.int y3), .val (.int y4), .val (.int y5), .val (.int y6), .val (.int y7), .val (.int y8), .val (.int y9), .val (.int y10), .val (.int y11), .val (.int y12), .val (.int y13), .val (.int y14), .val (.int y15), .val (.int y16), .val (.int y17), .val (.int y18), .val (.int y19), .val (.int y20), .val (.int y21), .val (.int y22), .val (.ref y23), .val (.ref y24), .val (.ref y25), .unset]
abbrev fL29 (y0 : Int32) (y1 : Int32) (y2 : Int32) (y3 : Int32) (y4 : Int32) (y5 : Int32) (y6 : Int32) (y7 : Int32) (y8 : Int32) (y9 : Int32) (y10 : Int32) (y11 : Int32) (y12 : Int32) (y13 : Int32) (y14 : Int32) (y15 : Int32) (y16 : Int32) (y17 : Int32) (y18 : Int32) (y19 : Int32) (y20 : Int32) (y21 : Int32) (y22 : Int32) (y23 : Addr) (y24 : Addr) (y25 : Addr) (y26 : Int32) : Array Slot := #[.val (.int y0), .val (.int y1), .val (.int y2), .val (.int y3), .val (.int y4), .val (.int y5), .val (.int y6), .val (.int y7), .val (.int y8), .val (.int y9), .val (.int y10), .val (.int y11), .val (.int y12), .val (.int y13), .val (.int y14), .val (.int y15), .val (.int y16), .val (.int y17), .val (.int y18), .val (.int y19), .val (.int y20), .val (.int y21), .val (.int y22), .val (.ref y23), .val (.ref y24), .val (.ref y25), .val (.int y26)]
abbrev fL30 (y0 : Int32) (y1 : Int32) (y2 : Int32) (y3 : Int32) (y4 : Int32) (y5 : Int32) (y6 : Int32) (y7 : Int32) (y8 : Int32) (y9 : Int32) (y10 : Int32) (y11 : Int32) (y12 : Int32) (y13 : Int32) (y14 : Int32) (y15 : Int32) (y16 : Int32) (y17 : Int32) (y18 : Int32) (y19 : Int32) (y20 : Int32) (y21 : Int32) (y22 : Int32) (y23 : Addr) (y24 : Addr) (y25 : Addr) : Array Slot := #[.val (.int y0), .val (.int y1), .val (.int y2), .val (.int y3), .val (.int y4), .val (.int y5), .val (.int y6), .val (.int y7), .val (.int y8), .val (.int y9), .val (.int y10), .val (.int y11), .val (.int y12), .val (.int y13), .val (.int y14), .val (.int y15), .val (.int y16), .val (.int y17), .val (.int y18), .val (.int y19), .val (.int y20), .val (.int y21), .val (.int y22), .val (.ref y23), .val (.ref y24), .val (.ref y25), .val .null]
abbrev fL31 (y0 : Int32) (y1 : Int32) (y2 : Int32) (y3 : Int32) (y4 : Int32) (y5 : Int32) (y6 : Int32) (y7 : Int32) (y8 : Int32) (y9 : Int32) (y10 : Int32) (y11 : Int32) (y12 : Int32) (y13 : Int32) (y14 : Int32) (y15 : Int32) (y16 : Int32) (y17 : Int32) (y18 : Int32) (y19 : Int32) (y20 : Int32) (y21 : Int32) (y22 : Int32) (y23 : Addr) (y24 : Addr) (y25 : Addr) (y26 : Addr) : Array Slot := #[.val (.int y0), .val (.int y1), .val (.int y2), .val (.int y3), .val (.int y4), .val (.int y5), .val (.int y6), .val (.int y7), .val (.int y8), .val (.int y9), .val (.int y10), .val (.int y11), .val (.int y12), .val (.int y13), .val (.int y14), .val (.int y15), .val (.int y16), .val (.int y17), .val (.int y18), .val (.int y19), .val (.int y20), .val (.int y21), .val (.int y22), .val (.ref y23), .val (.ref y24), .val (.ref y25), .val (.ref y26)]
theorem d_jdk_43_method_3_code_0 : decode jdk_43_method_3_code 0 = .ok (.iload_n 0, 1) := by decide +kernel
theorem d_jdk_43_method_3_code_1 : decode jdk_43_method_3_code 1 = .ok (.sipush 255, 3) := by decide +kernel
theorem d_jdk_43_method_3_code_4 : decode jdk_43_method_3_code 4 = .ok (.if_icmp .gt 7, 3) := by decide +kernel
theorem d_jdk_43_method_3_code_7 : decode jdk_43_method_3_code 7 = .ok (.iconst 1, 1) := by decide +kernel
theorem d_jdk_43_method_3_code_8 : decode jdk_43_method_3_code 8 = .ok (.goto 4, 3) := by decide +kernel
theorem d_jdk_43_method_3_code_12 : decode jdk_43_method_3_code 12 = .ok (.ireturn, 1) := by decide +kernel
theorem pn_java_lang_StringLatin1 : plainName "java/lang/StringLatin1" = true := by first | (simp [plainName, overriddenIn]; done) | decide +kernel
theorem ef_rm_cen (m : MethodId) (y0 : Int32) : entryFrame m #[(.int y0)] 1 = mkF m 0 #[.val (.int y0)] [] := by first | (simp [entryFrame, mkF, argsToLocals, Value.category]; done) | rfl
def Q_rm_cen (Z : State) (p0 : Int32) (h0 : Heap) (n0 : Nat) (v : Option Value) (h : Heap) (L : List Loc) : Prop := v = some (.int 1) ∧ Fr n0 L ∧ h = h0
set_option maxRecDepth 65536 in
set_option maxHeartbeats 40000000 in
theorem rm_cen (l : Launch) (Z : State) (a0 : Array Value) (hw : ∀ d ∈ tables_1, d.before a0 Z = true) (ws : List Jvm.Cond) (p0 : Int32) (h0 : Heap) (n0 : Nat) (h1 : ¬ (255 : Int32) < p0) :
    MetFree l (⟨"java/lang/StringLatin1", "canEncode", "(C)Z"⟩ : MethodName) (head1 (Jvm.Cond.code (⟨"java/lang/StringLatin1", "canEncode", "(C)Z"⟩ : MethodName) jdk_43_method_3_code 1 (some .boolean) :: ws) ({ frames := 0, cells := 0, slots := 0, locals := 0 } : Room)) (fun a U => a = #[(.int p0)] ∧ Z.Warmed39 U.vm ∧ U.heap = h0) (fun _ _ _ _ _ => True) (fun _ U o U' => ∃ v L, o = .returned v ∧ Q_rm_cen Z p0 h0 n0 v U'.heap L ∧ FrameEnd U o U' L 0 0) := by
  refine MetFree.of_bodySF (plainFor_of_name pn_java_lang_StringLatin1) hisR ?_
  intro p e s m args below meth c s₁ Bd hml0 hP hK
  obtain ⟨rfl, hZ, hh⟩ := hP
  have hx := Bd.exec
  have hby := Bd.bytes
  have hlk := Bd.notSynchronized
  have hml : c.maxLocals = 1 := hml0
  have hown : s.vm.findClass "java/lang/StringLatin1" = some m.cls := findClass_of_methodNamed Bd.named
  have hnm := (name_of_methodNamed Bd.named Bd.method).1
  have X0 : Stand p l e ({ frames := 0, cells := 0, slots := 0, locals := 0 } : Room) s m #[(.int p0)] below meth c s₁ [] 0 0 := Stand.of_body Bd
  have e0 : s₁.heap = h0 := by rw [← hh, Bd.state]; rfl
  have N0 := Fr.nil n0
  show OwnEnd p e below s (Q_rm_cen Z p0 h0 n0) 0 0 (s₁.setTop (entryFrame m #[(.int p0)] 1))
  refine go (fun t k => castTop (ef_rm_cen m p0) k) ?_
  show OwnEnd _ _ _ _ _ _ _ (s₁.setTop (mkF m 0 #[.val (.int p0)] []))
  refine go (fun _ k => by refine XS.iloadN X0.here hx rfl (hb hby d_jdk_43_method_3_code_0) rfl ?_; exact k) ?_
  refine go (fun _ k => by refine XS.sipush X0.here hx rfl (hb hby d_jdk_43_method_3_code_1) ?_; exact k) ?_
  show OwnEnd _ _ _ _ _ _ _ (s₁.setTop (mkF m 4 #[.val (.int p0)] [(.int (255 : Int32)), (.int p0)]))
  refine go (fun _ k => by refine XS.icmpNo X0.here hx rfl (hb hby d_jdk_43_method_3_code_4) rfl (flt h1).2.2.1 ?_; exact k) ?_
  refine go (fun _ k => by refine XS.iconst X0.here hx rfl (hb hby d_jdk_43_method_3_code_7) ?_; exact k) ?_
  refine go (fun _ k => by refine XS.goto X0.here hx rfl (pc0 := 8) (pc' := 12) rfl (hb hby d_jdk_43_method_3_code_8) (by decide) (by decide) ?_; exact k) ?_
  show OwnEnd _ _ _ _ _ _ _ (s₁.setTop (mkF m 12 #[.val (.int p0)] [(.int (1 : Int32))]))
  refine endN X0 hx hlk (t := .boolean) (by simp) Bd.returns (hb hby d_jdk_43_method_3_code_12) e0 (by decide) (by decide) ?_
  exact ⟨rfl, N0, rfl⟩
theorem d_jdk_43_method_46_code_0 : decode jdk_43_method_46_code 0 = .ok (.iconst 1, 1) := by decide +kernel
theorem d_jdk_43_method_46_code_1 : decode jdk_43_method_46_code 1 = .ok (.newarray .byte, 2) := by decide +kernel
theorem d_jdk_43_method_46_code_3 : decode jdk_43_method_46_code 3 = .ok (.dup, 1) := by decide +kernel
theorem d_jdk_43_method_46_code_4 : decode jdk_43_method_46_code 4 = .ok (.iconst 0, 1) := by decide +kernel
theorem d_jdk_43_method_46_code_5 : decode jdk_43_method_46_code 5 = .ok (.iload_n 0, 1) := by decide +kernel
theorem d_jdk_43_method_46_code_6 : decode jdk_43_method_46_code 6 = .ok (.i2b, 1) := by decide +kernel
theorem d_jdk_43_method_46_code_7 : decode jdk_43_method_46_code 7 = .ok (.bastore, 1) := by decide +kernel
theorem d_jdk_43_method_46_code_8 : decode jdk_43_method_46_code 8 = .ok (.areturn, 1) := by decide +kernel
theorem ef_rm_tby (m : MethodId) (y0 : Int32) : entryFrame m #[(.int y0)] 1 = mkF m 0 #[.val (.int y0)] [] := by first | (simp [entryFrame, mkF, argsToLocals, Value.category]; done) | rfl
def Q_rm_tby (Z : State) (p0 : Int32) (h0 : Heap) (n0 : Nat) (v : Option Value) (h : Heap) (L : List Loc) : Prop := ∃ t kb, v = some (.ref t) ∧ Fr n0 L ∧ Keep h0 h [] ∧ n0 ≤ t ∧ h0.size ≤ t ∧ Arv Z h t kb .byte 1 [.int (p0.toInt8.toInt32)] (.int 0)
set_option maxRecDepth 65536 in
set_option maxHeartbeats 40000000 in
theorem rm_tby (l : Launch) (Z : State) (a0 : Array Value) (hw : ∀ d ∈ tables_1, d.before a0 Z = true) (ws : List Jvm.Cond) (p0 : Int32) (h0 : Heap) (n0 : Nat) (Z0 : n0 ≤ h0.size) :
    MetFree l (⟨"java/lang/StringLatin1", "toBytes", "(C)[B"⟩ : MethodName) (head1 (Jvm.Cond.code (⟨"java/lang/StringLatin1", "toBytes", "(C)[B"⟩ : MethodName) jdk_43_method_46_code 1 (some (.array .byte)) :: ws) ({ frames := 0, cells := 1, slots := 1, locals := 0 } : Room)) (fun a U => a = #[(.int p0)] ∧ Z.Warmed39 U.vm ∧ U.heap = h0) (fun _ _ _ _ _ => True) (fun _ U o U' => ∃ v L, o = .returned v ∧ Q_rm_tby Z p0 h0 n0 v U'.heap L ∧ FrameEnd U o U' L 1 1) := by
  refine MetFree.of_bodySF (plainFor_of_name pn_java_lang_StringLatin1) hisR ?_
  intro p e s m args below meth c s₁ Bd hml0 hP hK
  obtain ⟨rfl, hZ, hh⟩ := hP
  have hx := Bd.exec
  have hby := Bd.bytes
  have hlk := Bd.notSynchronized
  have hml : c.maxLocals = 1 := hml0
  have hown : s.vm.findClass "java/lang/StringLatin1" = some m.cls := findClass_of_methodNamed Bd.named
  have hnm := (name_of_methodNamed Bd.named Bd.method).1
  have X0 : Stand p l e ({ frames := 0, cells := 1, slots := 1, locals := 0 } : Room) s m #[(.int p0)] below meth c s₁ [] 0 0 := Stand.of_body Bd
  have e0 : s₁.heap = h0 := by rw [← hh, Bd.state]; rfl
  have N0 := Fr.nil n0
  show OwnEnd p e below s (Q_rm_tby Z p0 h0 n0) 1 1 (s₁.setTop (entryFrame m #[(.int p0)] 1))
  refine go (fun t k => castTop (ef_rm_tby m p0) k) ?_
  have KK := Keep.refl h0 []
  show OwnEnd _ _ _ _ _ _ _ (s₁.setTop (mkF m 0 #[.val (.int p0)] []))
  refine go (fun _ k => by refine XS.iconst X0.here hx rfl (hb hby d_jdk_43_method_46_code_0) ?_; exact k) ?_
  show OwnEnd _ _ _ _ _ _ _ (s₁.setTop (mkF m 1 #[.val (.int p0)] [(.int (1 : Int32))]))
  obtain ⟨T1, h1, k1, X1, e1, E1, A1, st1⟩ := newP X0 hx hZ (hw _ (List.mem_of_getElem? (i := 18) rfl)) e0 (g := (mkF m 1 #[.val (.int p0)] [(.int (1 : Int32))])) rfl (hb hby d_jdk_43_method_46_code_1) rfl (by decide) (cap := 1) (by decide) (by decide) (by decide) (by decide)
  obtain ⟨b1, g1⟩ : ∃ z, z = h0.size := ⟨_, rfl⟩
  rw [← g1] at A1 st1
  have g_b1 : n0 ≤ b1 := Nat.le_trans Z0 (Nat.le_of_eq g1.symm)
  have sz_b1 : h0.size ≤ b1 := Nat.le_trans KK.1 (Nat.le_of_eq g1.symm)
  have Z0 := Nat.le_trans Z0 E1.1
  have KK := Keep.ext KK E1
  have V_b1 : Arv Z h1 b1 k1 .byte (1 : Int32) [(.int (0 : Int32))] (.int (0 : Int32)) := (Arv.new A1 (by decide)).pad (pad_rep [] (.int (0 : Int32)) 1)
  refine go st1 ?_
  refine go (fun _ k => by refine XS.dup X1.here hx rfl (hb hby d_jdk_43_method_46_code_3) rfl rfl ?_; exact k) ?_
  refine go (fun _ k => by refine XS.iconst X1.here hx rfl (hb hby d_jdk_43_method_46_code_4) ?_; exact k) ?_
  refine go (fun _ k => by refine XS.iloadN X1.here hx rfl (hb hby d_jdk_43_method_46_code_5) rfl ?_; exact k) ?_
  show OwnEnd _ _ _ _ _ _ _ (T1.setTop (mkF m 6 #[.val (.int p0)] [(.int p0), (.int (0 : Int32)), (.ref b1), (.ref b1)]))
  refine go (fun _ k => by refine XS.i2b X1.here hx rfl (hb hby d_jdk_43_method_46_code_6) rfl ?_; exact k) ?_
  show OwnEnd _ _ _ _ _ _ _ (T1.setTop (mkF m 7 #[.val (.int p0)] [(.int (p0.toInt8.toInt32)), (.int (0 : Int32)), (.ref b1), (.ref b1)]))
  obtain ⟨T2, h2, X2, e2, W2, V_b1', st2⟩ := stBv X1 hx hZ e1 V_b1 (j := (0 : Int32)) (i := 0) (by decide) (by decide) (by decide) (Nat.le_of_ble_eq_true rfl) (g := (mkF m 7 #[.val (.int p0)] [(.int (p0.toInt8.toInt32)), (.int (0 : Int32)), (.ref b1), (.ref b1)])) rfl rfl (hb hby d_jdk_43_method_46_code_7)
  have N2 := Fr.snoc X2 N0 g_b1
  rw [own_n8] at V_b1'
  have Z0 := Nat.le_trans Z0 (Keep.of_wr W2).1
  have KK := Keep.wr KK W2 (Or.inr sz_b1)
  have V_b1 : Arv Z h2 b1 k1 .byte (1 : Int32) [(.int (p0.toInt8.toInt32))] (.int (0 : Int32)) := V_b1'
  refine go st2 ?_
  show OwnEnd _ _ _ _ _ _ _ (T2.setTop (mkF m 8 #[.val (.int p0)] [(.ref b1)]))
  refine endA X2 hx hlk Bd.returns rfl rfl (hb hby d_jdk_43_method_46_code_8) e2 (by decide) (by decide) ?_
  exact ⟨b1, _, rfl, N2, KK, g_b1, sz_b1, V_b1⟩
theorem d_jdk_42_method_151_code_0 : decode jdk_42_method_151_code 0 = .ok (.aload_n 0, 1) := by decide +kernel
theorem d_jdk_42_method_151_code_1 : decode jdk_42_method_151_code 1 = .ok (.invokespecial 1, 3) := by decide +kernel
theorem d_jdk_42_method_151_code_4 : decode jdk_42_method_151_code 4 = .ok (.aload_n 0, 1) := by decide +kernel
theorem d_jdk_42_method_151_code_5 : decode jdk_42_method_151_code 5 = .ok (.aload_n 1, 1) := by decide +kernel
theorem d_jdk_42_method_151_code_6 : decode jdk_42_method_151_code 6 = .ok (.putfield 9, 3) := by decide +kernel
theorem d_jdk_42_method_151_code_9 : decode jdk_42_method_151_code 9 = .ok (.aload_n 0, 1) := by decide +kernel
theorem d_jdk_42_method_151_code_10 : decode jdk_42_method_151_code 10 = .ok (.iload_n 2, 1) := by decide +kernel
theorem d_jdk_42_method_151_code_11 : decode jdk_42_method_151_code 11 = .ok (.putfield 15, 3) := by decide +kernel
theorem d_jdk_42_method_151_code_14 : decode jdk_42_method_151_code 14 = .ok (.return_, 1) := by decide +kernel
theorem pn_java_lang_String : plainName "java/lang/String" = true := by first | (simp [plainName, overriddenIn]; done) | decide +kernel
theorem ef_rm_sbb (m : MethodId) (y0 : Addr) (y1 : Addr) : entryFrame m #[(.ref y0), (.ref y1), (.int (0 : Int32))] 3 = mkF m 0 #[.val (.ref y0), .val (.ref y1), .val (.int (0 : Int32))] [] := by first | (simp [entryFrame, mkF, argsToLocals, Value.category]; done) | rfl
def Q_rm_sbb (Z : State) (a0' : Addr) (a1 : Addr) (h0 : Heap) (n0 : Nat) (v : Option Value) (h : Heap) (L : List Loc) : Prop := v = none ∧ Fr n0 L ∧ Keep h0 h [a0'] ∧ Exa Z h a0' "java/lang/String" ∧ Fld Z h a0' "java/lang/String" "value" "[B" (.ref a1) ∧ Fld Z h a0' "java/lang/String" "coder" "B" (.int (0 : Int32))
set_option maxRecDepth 65536 in
set_option maxHeartbeats 40000000 in
theorem rm_sbb (l : Launch) (Z : State) (a0 : Array Value) (hw : ∀ d ∈ tables_1, d.before a0 Z = true) (ws : List Jvm.Cond) (a0' : Addr) (a1 : Addr) (h0 : Heap) (n0 : Nat) (ga : n0 ≤ a0') (EA : Exa Z h0 a0' "java/lang/String") (F_value : Fld Z h0 a0' "java/lang/String" "value" "[B" .null) (F_coder : Fld Z h0 a0' "java/lang/String" "coder" "B" (.int (0 : Int32))) :
    MetFree l (⟨"java/lang/String", "<init>", "([BB)V"⟩ : MethodName) (head1 (Jvm.Cond.code (⟨"java/lang/String", "<init>", "([BB)V"⟩ : MethodName) jdk_42_method_151_code 3 none :: ws) ({ frames := 1, cells := 0, slots := 0, locals := 12 } : Room)) (fun a U => a = #[(.ref a0'), (.ref a1), (.int (0 : Int32))] ∧ Z.Warmed39 U.vm ∧ U.heap = h0) (fun _ _ _ _ _ => True) (fun _ U o U' => ∃ v L, o = .returned v ∧ Q_rm_sbb Z a0' a1 h0 n0 v U'.heap L ∧ FrameEnd U o U' L 0 0) := by
  refine MetFree.of_bodySF (plainFor_of_name pn_java_lang_String) hisR ?_
  intro p e s m args below meth c s₁ Bd hml0 hP hK
  obtain ⟨rfl, hZ, hh⟩ := hP
  have hx := Bd.exec
  have hby := Bd.bytes
  have hlk := Bd.notSynchronized
  have hml : c.maxLocals = 3 := hml0
  have hown : s.vm.findClass "java/lang/String" = some m.cls := findClass_of_methodNamed Bd.named
  have hnm := (name_of_methodNamed Bd.named Bd.method).1
  have X0 : Stand p l e ({ frames := 1, cells := 0, slots := 0, locals := 12 } : Room) s m #[(.ref a0'), (.ref a1), (.int (0 : Int32))] below meth c s₁ [] 0 0 := Stand.of_body Bd
  have e0 : s₁.heap = h0 := by rw [← hh, Bd.state]; rfl
  have N0 := Fr.nil n0
  show OwnEnd p e below s (Q_rm_sbb Z a0' a1 h0 n0) 0 0 (s₁.setTop (entryFrame m #[(.ref a0'), (.ref a1), (.int (0 : Int32))] 3))
  refine go (fun t k => castTop (ef_rm_sbb m a0' a1) k) ?_
  have KK := Keep.refl h0 [a0']
  show OwnEnd _ _ _ _ _ _ _ (s₁.setTop (mkF m 0 #[.val (.ref a0'), .val (.ref a1), .val (.int (0 : Int32))] []))
  refine go (fun _ k => by refine XS.aloadN X0.here hx rfl (hb hby d_jdk_42_method_151_code_0) rfl rfl ?_; exact k) ?_
  show OwnEnd _ _ _ _ _ _ _ (s₁.setTop (mkF m 1 #[.val (.ref a0'), .val (.ref a1), .val (.int (0 : Int32))] [(.ref a0')]))
  obtain ⟨T1, X1, e1, st1⟩ := initO X0 hx hZ hown (hw _ (List.mem_of_getElem? (i := 23) rfl)) (hw _ (List.mem_of_getElem? (i := 24) rfl)) (hw _ (List.mem_of_getElem? (i := 25) rfl)) e0 (g := (mkF m 1 #[.val (.ref a0'), .val (.ref a1), .val (.int (0 : Int32))] [(.ref a0')])) rfl (by rw [hml]; rfl) rfl (hb hby d_jdk_42_method_151_code_1) (by decide) (W := 0) (by show 2 * 0 + _ ≤ _; exact Nat.le_of_eq rfl) (by decide)
  refine go st1 ?_
  refine go (fun _ k => by refine XS.aloadN X1.here hx rfl (hb hby d_jdk_42_method_151_code_4) rfl rfl ?_; exact k) ?_
  refine go (fun _ k => by refine XS.aloadN X1.here hx rfl (hb hby d_jdk_42_method_151_code_5) rfl rfl ?_; exact k) ?_
  show OwnEnd _ _ _ _ _ _ _ (T1.setTop (mkF m 6 #[.val (.ref a0'), .val (.ref a1), .val (.int (0 : Int32))] [(.ref a1), (.ref a0')]))
  obtain ⟨T2, h2, X2, e2, W2, st2⟩ := putF X1 hx hZ hown (host := "") (Or.inl (hw _ (List.mem_of_getElem? (i := 26) rfl))) Via.refl e1 F_value EA (Or.inr ⟨(hw _ (List.mem_of_getElem? (i := 27) rfl)), rfl, hnm⟩) (hw _ (List.mem_of_getElem? (i := 14) rfl)) (ty := (.array .byte)) (by decide) rfl rfl (g := (mkF m 6 #[.val (.ref a0'), .val (.ref a1), .val (.int (0 : Int32))] [(.ref a1), (.ref a0')])) rfl rfl (hb hby d_jdk_42_method_151_code_6)
  have N2 := Fr.snoc X2 N0 ga
  have EA := EA.wr W2
  have KK := Keep.wr KK W2 (Or.inl (List.mem_of_getElem? (i := 0) rfl))
  have F_coder := F_coder.other W2 (Or.inr (slot_ne (Or.inr (hw _ (List.mem_of_getElem? (i := 29) rfl))) (Or.inr (hw _ (List.mem_of_getElem? (i := 27) rfl))) (by decide) (t := .byte) (t' := (.array .byte)) (by decide) (by decide)))
  have F_value := F_value.same W2
  refine go st2 ?_
  refine go (fun _ k => by refine XS.aloadN X2.here hx rfl (hb hby d_jdk_42_method_151_code_9) rfl rfl ?_; exact k) ?_
  refine go (fun _ k => by refine XS.iloadN X2.here hx rfl (hb hby d_jdk_42_method_151_code_10) rfl ?_; exact k) ?_
  show OwnEnd _ _ _ _ _ _ _ (T2.setTop (mkF m 11 #[.val (.ref a0'), .val (.ref a1), .val (.int (0 : Int32))] [(.int (0 : Int32)), (.ref a0')]))
  obtain ⟨T3, h3, X3, e3, W3, st3⟩ := putFN X2 hx hZ hown (hw _ (List.mem_of_getElem? (i := 28) rfl)) Via.refl e2 F_coder EA (Or.inr ⟨(hw _ (List.mem_of_getElem? (i := 29) rfl)), rfl, hnm⟩) (hw _ (List.mem_of_getElem? (i := 14) rfl)) (ty := .byte) (v' := (.int (0 : Int32))) (by decide) rfl (by decide) (g := (mkF m 11 #[.val (.ref a0'), .val (.ref a1), .val (.int (0 : Int32))] [(.int (0 : Int32)), (.ref a0')])) rfl rfl (hb hby d_jdk_42_method_151_code_11)
  have N3 := Fr.snoc X3 N2 ga
  have EA := EA.wr W3
  have KK := Keep.wr KK W3 (Or.inl (List.mem_of_getElem? (i := 0) rfl))
  have F_value := F_value.other W3 (Or.inr (slot_ne (Or.inr (hw _ (List.mem_of_getElem? (i := 27) rfl))) (Or.inr (hw _ (List.mem_of_getElem? (i := 29) rfl))) (by decide) (t := (.array .byte)) (t' := .byte) (by decide) (by decide)))
  have F_coder := F_coder.same W3
  refine go st3 ?_
  show OwnEnd _ _ _ _ _ _ _ (T3.setTop (mkF m 14 #[.val (.ref a0'), .val (.ref a1), .val (.int (0 : Int32))] []))
  refine endV X3 hx hlk Bd.returns (hb hby d_jdk_42_method_151_code_14) e3 (by decide) (by decide) ?_
  exact ⟨rfl, N3, KK, EA, F_value, F_coder⟩
theorem d_jdk_42_method_139_code_0 : decode jdk_42_method_139_code 0 = .ok (.getstatic 38, 3) := by decide +kernel
theorem d_jdk_42_method_139_code_3 : decode jdk_42_method_139_code 3 = .ok (.ifCond .eq 23, 3) := by decide +kernel
theorem d_jdk_42_method_139_code_6 : decode jdk_42_method_139_code 6 = .ok (.iload_n 0, 1) := by decide +kernel
theorem d_jdk_42_method_139_code_7 : decode jdk_42_method_139_code 7 = .ok (.invokestatic 1015, 3) := by decide +kernel
theorem pd__C_Z : parseMethodDescriptor "(C)Z" = some ⟨[.char], some .boolean⟩ := by decide +kernel
theorem d_jdk_42_method_139_code_10 : decode jdk_42_method_139_code 10 = .ok (.ifCond .eq 16, 3) := by decide +kernel
theorem d_jdk_42_method_139_code_13 : decode jdk_42_method_139_code 13 = .ok (.new 10, 3) := by decide +kernel
theorem d_jdk_42_method_139_code_16 : decode jdk_42_method_139_code 16 = .ok (.dup, 1) := by decide +kernel
theorem d_jdk_42_method_139_code_17 : decode jdk_42_method_139_code 17 = .ok (.iload_n 0, 1) := by decide +kernel
theorem d_jdk_42_method_139_code_18 : decode jdk_42_method_139_code 18 = .ok (.invokestatic 1018, 3) := by decide +kernel
theorem pd__C__B : parseMethodDescriptor "(C)[B" = some ⟨[.char], some (.array .byte)⟩ := by decide +kernel
theorem d_jdk_42_method_139_code_21 : decode jdk_42_method_139_code 21 = .ok (.iconst 0, 1) := by decide +kernel
theorem d_jdk_42_method_139_code_22 : decode jdk_42_method_139_code 22 = .ok (.invokespecial 209, 3) := by decide +kernel
theorem pd___BB_V : parseMethodDescriptor "([BB)V" = some ⟨[(.array .byte), .byte], none⟩ := by decide +kernel
theorem d_jdk_42_method_139_code_25 : decode jdk_42_method_139_code 25 = .ok (.areturn, 1) := by decide +kernel
theorem ef_rm_vof (m : MethodId) (y0 : Int32) : entryFrame m #[(.int y0)] 1 = mkF m 0 #[.val (.int y0)] [] := by first | (simp [entryFrame, mkF, argsToLocals, Value.category]; done) | rfl
def Q_rm_vof (Z : State) (p0 : Int32) (cs : Int32) (h0 : Heap) (n0 : Nat) (v : Option Value) (h : Heap) (L : List Loc) : Prop := ∃ x t kb, v = some (.ref x) ∧ Fr n0 L ∧ Keep h0 h [] ∧ n0 ≤ x ∧ h0.size ≤ x ∧ h0.size ≤ t ∧ Exa Z h x "java/lang/String" ∧ Fld Z h x "java/lang/String" "value" "[B" (.ref t) ∧ Fld Z h x "java/lang/String" "coder" "B" (.int 0) ∧ Arv Z h t kb .byte 1 [.int (p0.toInt8.toInt32)] (.int 0)
set_option maxRecDepth 65536 in
set_option maxHeartbeats 40000000 in
theorem rm_vof (l : Launch) (Z : State) (a0 : Array Value) (hw : ∀ d ∈ tables_1, d.before a0 Z = true) (ws : List Jvm.Cond) (p0 : Int32) (cs : Int32) (h0 : Heap) (n0 : Nat) (Z0 : n0 ≤ h0.size) (O : Old Z n0 h0) (SC0 : Sta Z Z.heap "java/lang/String" "COMPACT_STRINGS" "Z" (.int cs)) (c1 : ¬ cs = (0 : Int32)) (hp : ¬ (255 : Int32) < p0) :
    MetFree l (⟨"java/lang/String", "valueOf", "(C)Ljava/lang/String;"⟩ : MethodName) (head1 (Jvm.Cond.code (⟨"java/lang/String", "valueOf", "(C)Ljava/lang/String;"⟩ : MethodName) jdk_42_method_139_code 1 (some (.object "java/lang/String")) :: ws) ({ frames := 2, cells := 2, slots := 5, locals := 27 } : Room)) (fun a U => a = #[(.int p0)] ∧ Z.Warmed39 U.vm ∧ U.heap = h0) (fun _ _ _ _ _ => True) (fun _ U o U' => ∃ v L, o = .returned v ∧ Q_rm_vof Z p0 cs h0 n0 v U'.heap L ∧ FrameEnd U o U' L 2 5) := by
  refine MetFree.of_bodySF (plainFor_of_name pn_java_lang_String) hisR ?_
  intro p e s m args below meth c s₁ Bd hml0 hP hK
  obtain ⟨rfl, hZ, hh⟩ := hP
  have hx := Bd.exec
  have hby := Bd.bytes
  have hlk := Bd.notSynchronized
  have hml : c.maxLocals = 1 := hml0
  have hown : s.vm.findClass "java/lang/String" = some m.cls := findClass_of_methodNamed Bd.named
  have hnm := (name_of_methodNamed Bd.named Bd.method).1
  have X0 : Stand p l e ({ frames := 2, cells := 2, slots := 5, locals := 27 } : Room) s m #[(.int p0)] below meth c s₁ [] 0 0 := Stand.of_body Bd
  have e0 : s₁.heap = h0 := by rw [← hh, Bd.state]; rfl
  have N0 := Fr.nil n0
  show OwnEnd p e below s (Q_rm_vof Z p0 cs h0 n0) 2 5 (s₁.setTop (entryFrame m #[(.int p0)] 1))
  refine go (fun t k => castTop (ef_rm_vof m p0) k) ?_
  have KK := Keep.refl h0 []
  have SC := SC0.ext O.2
  show OwnEnd _ _ _ _ _ _ _ (s₁.setTop (mkF m 0 #[.val (.int p0)] []))
  obtain ⟨T1, X1, e1, st1⟩ := getS2 X0 hx hZ hown (host := "") (Or.inl (hw _ (List.mem_of_getElem? (i := 8) rfl))) Via.refl e0 SC (g := (mkF m 0 #[.val (.int p0)] [])) rfl (hb hby d_jdk_42_method_139_code_0)
  refine go st1 ?_
  show OwnEnd _ _ _ _ _ _ _ (T1.setTop (mkF m 3 #[.val (.int p0)] [(.int cs)]))
  refine go (fun _ k => by refine XS.ifNo X1.here hx rfl (hb hby d_jdk_42_method_139_code_3) rfl ((if0 _ _).trans (feq c1).1) ?_; exact k) ?_
  refine go (fun _ k => by refine XS.iloadN X1.here hx rfl (hb hby d_jdk_42_method_139_code_6) rfl ?_; exact k) ?_
  show OwnEnd _ _ _ _ _ _ _ (T1.setTop (mkF m 7 #[.val (.int p0)] [(.int p0)]))
  obtain ⟨_, T2, L2, X2, hQ2, st2⟩ := callStat X1 hx hZ hown (hw _ (List.mem_of_getElem? (i := 9) rfl)) (hw _ (List.mem_of_getElem? (i := 10) rfl)) (hw _ (List.mem_of_getElem? (i := 11) rfl)) (hw _ (List.mem_of_getElem? (i := 12) rfl)) (by decide) (rm_cen l Z a0 hw [] p0 h0 n0 hp) (W := 0) (by decide) (by decide) e1 (g := (mkF m 7 #[.val (.int p0)] [(.int p0)])) rfl (by rw [hml]; rfl) (argsL := [(.int p0)]) (rest := []) rfl (lenOf pd__C_Z rfl) rfl (by show 2 * 0 + _ ≤ _; exact Nat.le_of_eq rfl) (hb hby d_jdk_42_method_139_code_7) (by decide) (by decide)
  obtain ⟨rfl, Nq2, eq2⟩ := hQ2
  have N2 := Fr.app N0 Nq2
  refine go st2 ?_
  show OwnEnd _ _ _ _ _ _ _ (T2.setTop (mkF m 10 #[.val (.int p0)] [(.int (1 : Int32))]))
  refine go (fun _ k => by refine XS.ifNo X2.here hx rfl (hb hby d_jdk_42_method_139_code_10) rfl ((if0 _ _).trans (feq (by decide)).1) ?_; exact k) ?_
  show OwnEnd _ _ _ _ _ _ _ (T2.setTop (mkF m 13 #[.val (.int p0)] []))
  obtain ⟨T3, h3, X3, e3, E3, A3, D3, -, st3⟩ := newO X2 hx hZ hown (hw _ (List.mem_of_getElem? (i := 13) rfl)) (hw _ (List.mem_of_getElem? (i := 14) rfl)) (hw _ (List.mem_of_getElem? (i := 6) rfl)) eq2 (g := (mkF m 13 #[.val (.int p0)] [])) rfl (hb hby d_jdk_42_method_139_code_13) (by decide) (by decide)
  obtain ⟨b3, g3⟩ : ∃ z, z = h0.size := ⟨_, rfl⟩
  rw [← g3] at A3 D3 st3
  have g_b3 : n0 ≤ b3 := Nat.le_trans Z0 (Nat.le_of_eq g3.symm)
  have sz_b3 : h0.size ≤ b3 := Nat.le_trans KK.1 (Nat.le_of_eq g3.symm)
  have Z0 := Nat.le_trans Z0 E3.1
  have KK := Keep.ext KK E3
  have SC := SC.ext E3
  have O := O.ext E3
  have F_value_b3 : Fld Z h3 b3 "java/lang/String" "value" "[B" .null := D3 (Or.inr (hw _ (List.mem_of_getElem? (i := 27) rfl))) (ty := (.array .byte)) (by decide)
  have F_coder_b3 : Fld Z h3 b3 "java/lang/String" "coder" "B" (.int (0 : Int32)) := D3 (Or.inr (hw _ (List.mem_of_getElem? (i := 29) rfl))) (ty := .byte) (by decide)
  have E_b3 := A3
  refine go st3 ?_
  refine go (fun _ k => by refine XS.dup X3.here hx rfl (hb hby d_jdk_42_method_139_code_16) rfl rfl ?_; exact k) ?_
  refine go (fun _ k => by refine XS.iloadN X3.here hx rfl (hb hby d_jdk_42_method_139_code_17) rfl ?_; exact k) ?_
  show OwnEnd _ _ _ _ _ _ _ (T3.setTop (mkF m 18 #[.val (.int p0)] [(.int p0), (.ref b3), (.ref b3)]))
  obtain ⟨_, T4, L4, X4, hQ4, st4⟩ := callStat X3 hx hZ hown (hw _ (List.mem_of_getElem? (i := 15) rfl)) (hw _ (List.mem_of_getElem? (i := 16) rfl)) (hw _ (List.mem_of_getElem? (i := 11) rfl)) (hw _ (List.mem_of_getElem? (i := 17) rfl)) (by decide) (rm_tby l Z a0 hw [] p0 h3 n0 Z0) (W := 2) (by decide) (by decide) e3 (g := (mkF m 18 #[.val (.int p0)] [(.int p0), (.ref b3), (.ref b3)])) rfl (by rw [hml]; rfl) (argsL := [(.int p0)]) (rest := [(.ref b3), (.ref b3)]) rfl (lenOf pd__C__B rfl) rfl (by show 2 * 0 + _ ≤ _; exact Nat.le_of_eq rfl) (hb hby d_jdk_42_method_139_code_18) (by decide) (by decide)
  have lo4_0 := F_value_b3.lt
  obtain ⟨t4, kb4, rfl, Nq4, K4, g_t4, sq4, V_t4⟩ := hQ4
  have N4 := Fr.app N2 Nq4
  have sz_t4 : h0.size ≤ t4 := Nat.le_trans KK.1 sq4
  have Z0 := Nat.le_trans Z0 K4.1
  have KK := Keep.trans KK K4 all0
  have O := O.keep K4 all0
  have F_value_b3 := F_value_b3.keep K4 nin0
  have F_coder_b3 := F_coder_b3.keep K4 nin0
  have E_b3 := E_b3.keep K4
  have SC := SC0.ext O.2
  have ne_b3_t4 : b3 ≠ t4 := fun q => absurd lo4_0 (by rw [q]; exact Nat.not_lt.mpr sq4)
  refine go st4 ?_
  refine go (fun _ k => by refine XS.iconst X4.here hx rfl (hb hby d_jdk_42_method_139_code_21) ?_; exact k) ?_
  show OwnEnd _ _ _ _ _ _ _ (T4.setTop (mkF m 22 #[.val (.int p0)] [(.int (0 : Int32)), (.ref t4), (.ref b3), (.ref b3)]))
  obtain ⟨_, T5, L5, X5, hQ5, st5⟩ := callInit X4 hx hZ hown rfl (hw _ (List.mem_of_getElem? (i := 19) rfl)) (hw _ (List.mem_of_getElem? (i := 20) rfl)) (hw _ (List.mem_of_getElem? (i := 6) rfl)) (hw _ (List.mem_of_getElem? (i := 22) rfl)) (by decide) (rm_sbb l Z a0 hw [] b3 t4 T4.heap n0 g_b3 E_b3 F_value_b3 F_coder_b3) (W := 1) (by decide) (by decide) rfl (g := (mkF m 22 #[.val (.int p0)] [(.int (0 : Int32)), (.ref t4), (.ref b3), (.ref b3)])) rfl (by rw [hml]; rfl) (argsL := [(.ref t4), (.int (0 : Int32))]) (rest := [(.ref b3)]) rfl (lenOf pd___BB_V rfl) rfl (by show 2 * 0 + _ ≤ _; exact Nat.le_of_eq rfl) (hb hby d_jdk_42_method_139_code_22) (by decide) (by decide)
  obtain ⟨rfl, Nq5, K5, E_b3, F_value_b3, F_coder_b3⟩ := hQ5
  have N5 := Fr.app N4 Nq5
  have Z0 := Nat.le_trans Z0 K5.1
  have KK := Keep.trans KK K5 (allS (Or.inr sz_b3) all0)
  have O := O.keep K5 (allS g_b3 all0)
  have V_t4 := V_t4.keep K5 (ninS (Ne.symm ne_b3_t4) nin0)
  have SC := SC0.ext O.2
  refine go st5 ?_
  show OwnEnd _ _ _ _ _ _ _ (T5.setTop (mkF m 25 #[.val (.int p0)] [(.ref b3)]))
  refine endA X5 hx hlk Bd.returns rfl rfl (hb hby d_jdk_42_method_139_code_25) rfl (by decide) (by decide) ?_
  exact ⟨b3, t4, _, rfl, N5, KK, g_b3, sz_b3, sz_t4, E_b3, F_value_b3, F_coder_b3, V_t4⟩
theorem d_method_2_code_0 : decode method_2_code 0 = .ok (.iload_n 1, 1) := by decide +kernel
theorem d_method_2_code_1 : decode method_2_code 1 = .ok (.sipush 255, 3) := by decide +kernel
theorem d_method_2_code_4 : decode method_2_code 4 = .ok (.iand, 1) := by decide +kernel
theorem d_method_2_code_5 : decode method_2_code 5 = .ok (.i2c, 1) := by decide +kernel
theorem d_method_2_code_6 : decode method_2_code 6 = .ok (.istore_n 3, 1) := by decide +kernel
theorem d_method_2_code_7 : decode method_2_code 7 = .ok (.iload_n 2, 1) := by decide +kernel
theorem d_method_2_code_8 : decode method_2_code 8 = .ok (.sipush 255, 3) := by decide +kernel
theorem d_method_2_code_11 : decode method_2_code 11 = .ok (.iand, 1) := by decide +kernel
theorem d_method_2_code_12 : decode method_2_code 12 = .ok (.i2c, 1) := by decide +kernel
theorem d_method_2_code_13 : decode method_2_code 13 = .ok (.istore 4, 2) := by decide +kernel
theorem d_method_2_code_15 : decode method_2_code 15 = .ok (.iload_n 0, 1) := by decide +kernel
theorem d_method_2_code_16 : decode method_2_code 16 = .ok (.iconst 1, 1) := by decide +kernel
theorem d_method_2_code_17 : decode method_2_code 17 = .ok (.iand, 1) := by decide +kernel
theorem d_method_2_code_18 : decode method_2_code 18 = .ok (.ifCond .ne 8, 3) := by decide +kernel
theorem d_method_2_code_21 : decode method_2_code 21 = .ok (.iload_n 3, 1) := by decide +kernel
theorem d_method_2_code_22 : decode method_2_code 22 = .ok (.invokestatic 7, 3) := by decide +kernel
theorem pd__C_Ljava_lang_String_ : parseMethodDescriptor "(C)Ljava/lang/String;" = some ⟨[.char], some (.object "java/lang/String")⟩ := by decide +kernel
theorem d_method_2_code_25 : decode method_2_code 25 = .ok (.areturn, 1) := by decide +kernel
theorem d_method_2_code_26 : decode method_2_code 26 = .ok (.new 8, 3) := by decide +kernel
theorem d_method_2_code_29 : decode method_2_code 29 = .ok (.dup, 1) := by decide +kernel
theorem d_method_2_code_30 : decode method_2_code 30 = .ok (.iconst 2, 1) := by decide +kernel
theorem d_method_2_code_31 : decode method_2_code 31 = .ok (.newarray .char, 2) := by decide +kernel
theorem d_method_2_code_33 : decode method_2_code 33 = .ok (.dup, 1) := by decide +kernel
theorem d_method_2_code_34 : decode method_2_code 34 = .ok (.iconst 0, 1) := by decide +kernel
theorem d_method_2_code_35 : decode method_2_code 35 = .ok (.iload_n 3, 1) := by decide +kernel
theorem d_method_2_code_36 : decode method_2_code 36 = .ok (.castore, 1) := by decide +kernel
theorem d_method_2_code_37 : decode method_2_code 37 = .ok (.dup, 1) := by decide +kernel
theorem d_method_2_code_38 : decode method_2_code 38 = .ok (.iconst 1, 1) := by decide +kernel
theorem d_method_2_code_39 : decode method_2_code 39 = .ok (.iload 4, 2) := by decide +kernel
theorem d_method_2_code_41 : decode method_2_code 41 = .ok (.castore, 1) := by decide +kernel
theorem d_method_2_code_42 : decode method_2_code 42 = .ok (.invokespecial 13, 3) := by decide +kernel
theorem pd___C_V : parseMethodDescriptor "([C)V" = some ⟨[(.array .char)], none⟩ := by decide +kernel
theorem d_method_2_code_45 : decode method_2_code 45 = .ok (.areturn, 1) := by decide +kernel
theorem pn_com_example_brisk_ledger_briskledger_LockNameEqualsPinLaw : plainName "com/example/brisk_ledger/briskledger/LockNameEqualsPinLaw" = true := by first | (simp [plainName, overriddenIn]; done) | decide +kernel
theorem ef_rm_str (m : MethodId) (y0 : Int32) (y1 : Int32) (y2 : Int32) : entryFrame m #[(.int y0), (.int y1), (.int y2)] 5 = mkF m 0 #[.val (.int y0), .val (.int y1), .val (.int y2), .unset, .unset] [] := by first | (simp [entryFrame, mkF, argsToLocals, Value.category]; done) | rfl
def Q_rm_str (Z : State) (p0 : Int32) (p1 : Int32) (p2 : Int32) (cs : Int32) (h0 : Heap) (n0 : Nat) (v : Option Value) (h : Heap) (L : List Loc) : Prop := ∃ x t kb, v = some (.ref x) ∧ Fr n0 L ∧ Keep h0 h [] ∧ n0 ≤ x ∧ h0.size ≤ x ∧ h0.size ≤ t ∧ Exa Z h x "java/lang/String" ∧ Fld Z h x "java/lang/String" "value" "[B" (.ref t) ∧ Fld Z h x "java/lang/String" "coder" "B" (.int 0) ∧ Arv Z h t kb .byte (Int32.ofNat (own_cs p0 p1 p2).length) (own_vs (own_cs p0 p1 p2)) (.int 0)
set_option maxRecDepth 65536 in
set_option maxHeartbeats 40000000 in
theorem rm_str (l : Launch) (Z : State) (a0 : Array Value) (hw : ∀ d ∈ tables_1, d.before a0 Z = true) (ws : List Jvm.Cond) (p0 : Int32) (p1 : Int32) (p2 : Int32) (cs : Int32) (h0 : Heap) (n0 : Nat) (Z0 : n0 ≤ h0.size) (O : Old Z n0 h0) (SC0 : Sta Z Z.heap "java/lang/String" "COMPACT_STRINGS" "Z" (.int cs)) (c1 : ¬ cs = (0 : Int32)) :
    MetFree l (⟨"com/example/brisk_ledger/briskledger/LockNameEqualsPinLaw", "str", "(III)Ljava/lang/String;"⟩ : MethodName) (head1 (Jvm.Cond.code (⟨"com/example/brisk_ledger/briskledger/LockNameEqualsPinLaw", "str", "(III)Ljava/lang/String;"⟩ : MethodName) method_2_code 5 (some (.object "java/lang/String")) :: ws) ({ frames := 4, cells := 3, slots := 8, locals := 66 } : Room)) (fun a U => a = #[(.int p0), (.int p1), (.int p2)] ∧ Z.Warmed39 U.vm ∧ U.heap = h0) (fun _ _ _ _ _ => True) (fun _ U o U' => ∃ v L, o = .returned v ∧ Q_rm_str Z p0 p1 p2 cs h0 n0 v U'.heap L ∧ FrameEnd U o U' L 3 8) := by
  refine MetFree.of_bodySF (plainFor_of_name pn_com_example_brisk_ledger_briskledger_LockNameEqualsPinLaw) hisR ?_
  intro p e s m args below meth c s₁ Bd hml0 hP hK
  obtain ⟨rfl, hZ, hh⟩ := hP
  have hx := Bd.exec
  have hby := Bd.bytes
  have hlk := Bd.notSynchronized
  have hml : c.maxLocals = 5 := hml0
  have hown : s.vm.findClass "com/example/brisk_ledger/briskledger/LockNameEqualsPinLaw" = some m.cls := findClass_of_methodNamed Bd.named
  have hnm := (name_of_methodNamed Bd.named Bd.method).1
  have X0 : Stand p l e ({ frames := 4, cells := 3, slots := 8, locals := 66 } : Room) s m #[(.int p0), (.int p1), (.int p2)] below meth c s₁ [] 0 0 := Stand.of_body Bd
  have e0 : s₁.heap = h0 := by rw [← hh, Bd.state]; rfl
  have N0 := Fr.nil n0
  show OwnEnd p e below s (Q_rm_str Z p0 p1 p2 cs h0 n0) 3 8 (s₁.setTop (entryFrame m #[(.int p0), (.int p1), (.int p2)] 5))
  refine go (fun t k => castTop (ef_rm_str m p0 p1 p2) k) ?_
  have KK := Keep.refl h0 []
  have SC := SC0.ext O.2
  show OwnEnd _ _ _ _ _ _ _ (s₁.setTop (mkF m 0 (fL0 p0 p1 p2) []))
  refine go (fun _ k => by refine XS.iloadN X0.here hx rfl (hb hby d_method_2_code_0) rfl ?_; exact k) ?_
  refine go (fun _ k => by refine XS.sipush X0.here hx rfl (hb hby d_method_2_code_1) ?_; exact k) ?_
  refine go (fun _ k => by refine XS.iand X0.here hx rfl (hb hby d_method_2_code_4) rfl ?_; exact k) ?_
  refine go (fun _ k => by refine XS.i2c X0.here hx rfl (hb hby d_method_2_code_5) rfl ?_; exact k) ?_
  show OwnEnd _ _ _ _ _ _ _ (s₁.setTop (mkF m 6 (fL0 p0 p1 p2) [(.int ((p1 &&& (255 : Int32)).toUInt32.toUInt16.toUInt32.toInt32))]))
  refine go (fun _ k => by refine XS.istoreN X0.here hx rfl (hb hby d_method_2_code_6) rfl (l' := (fL1 p0 p1 p2 ((p1 &&& (255 : Int32)).toUInt32.toUInt16.toUInt32.toInt32))) rfl ?_; exact k) ?_
  show OwnEnd _ _ _ _ _ _ _ (s₁.setTop (mkF m 7 (fL1 p0 p1 p2 (own_ci p1)) []))
  refine go (fun _ k => by refine XS.iloadN X0.here hx rfl (hb hby d_method_2_code_7) rfl ?_; exact k) ?_
  refine go (fun _ k => by refine XS.sipush X0.here hx rfl (hb hby d_method_2_code_8) ?_; exact k) ?_
  refine go (fun _ k => by refine XS.iand X0.here hx rfl (hb hby d_method_2_code_11) rfl ?_; exact k) ?_
  show OwnEnd _ _ _ _ _ _ _ (s₁.setTop (mkF m 12 (fL1 p0 p1 p2 (own_ci p1)) [(.int (p2 &&& (255 : Int32)))]))
  refine go (fun _ k => by refine XS.i2c X0.here hx rfl (hb hby d_method_2_code_12) rfl ?_; exact k) ?_
  refine go (fun _ k => by refine XS.istore X0.here hx rfl (hb hby d_method_2_code_13) rfl (l' := (fL2 p0 p1 p2 (own_ci p1) ((p2 &&& (255 : Int32)).toUInt32.toUInt16.toUInt32.toInt32))) rfl ?_; exact k) ?_
  show OwnEnd _ _ _ _ _ _ _ (s₁.setTop (mkF m 15 (fL2 p0 p1 p2 (own_ci p1) (own_ci p2)) []))
  refine go (fun _ k => by refine XS.iloadN X0.here hx rfl (hb hby d_method_2_code_15) rfl ?_; exact k) ?_
  refine go (fun _ k => by refine XS.iconst X0.here hx rfl (hb hby d_method_2_code_16) ?_; exact k) ?_
  show OwnEnd _ _ _ _ _ _ _ (s₁.setTop (mkF m 17 (fL2 p0 p1 p2 (own_ci p1) (own_ci p2)) [(.int (1 : Int32)), (.int p0)]))
  refine go (fun _ k => by refine XS.iand X0.here hx rfl (hb hby d_method_2_code_17) rfl ?_; exact k) ?_
  show OwnEnd _ _ _ _ _ _ _ (s₁.setTop (mkF m 18 (fL2 p0 p1 p2 (own_ci p1) (own_ci p2)) [(.int (p0 &&& (1 : Int32)))]))
  by_cases hc18_1 : (p0 &&& (1 : Int32)) = (0 : Int32)
  · refine go (fun _ k => by refine XS.ifNo X0.here hx rfl (hb hby d_method_2_code_18) rfl ((if0 _ _).trans (teq hc18_1).2) ?_; exact k) ?_
    show OwnEnd _ _ _ _ _ _ _ (s₁.setTop (mkF m 21 (fL2 p0 p1 p2 (own_ci p1) (own_ci p2)) []))
    refine go (fun _ k => by refine XS.iloadN X0.here hx rfl (hb hby d_method_2_code_21) rfl ?_; exact k) ?_
    show OwnEnd _ _ _ _ _ _ _ (s₁.setTop (mkF m 22 (fL2 p0 p1 p2 (own_ci p1) (own_ci p2)) [(.int (own_ci p1))]))
    obtain ⟨_, T2, L2, X2, hQ2, st2⟩ := callStat X0 hx hZ hown (hw _ (List.mem_of_getElem? (i := 4) rfl)) (hw _ (List.mem_of_getElem? (i := 5) rfl)) (hw _ (List.mem_of_getElem? (i := 6) rfl)) (hw _ (List.mem_of_getElem? (i := 7) rfl)) (by decide) (rm_vof l Z a0 hw [] (own_ci p1) cs h0 n0 Z0 O SC0 c1 (own_cir p1).2) (W := 0) (by decide) (by decide) e0 (g := (mkF m 22 (fL2 p0 p1 p2 (own_ci p1) (own_ci p2)) [(.int (own_ci p1))])) rfl (by rw [hml]; rfl) (argsL := [(.int (own_ci p1))]) (rest := []) rfl (lenOf pd__C_Ljava_lang_String_ rfl) rfl (by show 2 * 0 + _ ≤ _; exact Nat.le_of_eq rfl) (hb hby d_method_2_code_22) (by decide) (by decide)
    obtain ⟨x2, t2, kb2, rfl, Nq2, K2, g_x2, sx2, sq2, E_x2, FV_x2, FC_x2, V_t2⟩ := hQ2
    have N2 := Fr.app N0 Nq2
    have sz_x2 : h0.size ≤ x2 := Nat.le_trans KK.1 sx2
    have sz_t2 : h0.size ≤ t2 := Nat.le_trans KK.1 sq2
    have Z0 := Nat.le_trans Z0 K2.1
    have KK := Keep.trans KK K2 all0
    have O := O.keep K2 all0
    have SC := SC0.ext O.2
    refine go st2 ?_
    show OwnEnd _ _ _ _ _ _ _ (T2.setTop (mkF m 25 (fL2 p0 p1 p2 (own_ci p1) (own_ci p2)) [(.ref x2)]))
    refine endA X2 hx hlk Bd.returns rfl rfl (hb hby d_method_2_code_25) rfl (by decide) (by decide) ?_
    exact ⟨x2, t2, _, rfl, N2, KK, g_x2, sz_x2, sz_t2, E_x2, FV_x2, FC_x2, by unfold own_cs; rw [if_pos hc18_1]; exact V_t2⟩
  · refine go (fun _ k => by refine XS.ifYes X0.here hx rfl (pc0 := 18) (pc' := 26) rfl (hb hby d_method_2_code_18) rfl ((if0 _ _).trans (feq hc18_1).2) (by decide) (by decide) ?_; exact k) ?_
    show OwnEnd _ _ _ _ _ _ _ (s₁.setTop (mkF m 26 (fL2 p0 p1 p2 (own_ci p1) (own_ci p2)) []))
    obtain ⟨T3, h3, X3, e3, E3, A3, D3, -, st3⟩ := newO X0 hx hZ hown (hw _ (List.mem_of_getElem? (i := 61) rfl)) (hw _ (List.mem_of_getElem? (i := 14) rfl)) (hw _ (List.mem_of_getElem? (i := 6) rfl)) e0 (g := (mkF m 26 (fL2 p0 p1 p2 (own_ci p1) (own_ci p2)) [])) rfl (hb hby d_method_2_code_26) (by decide) (by decide)
    obtain ⟨b3, g3⟩ : ∃ z, z = h0.size := ⟨_, rfl⟩
    rw [← g3] at A3 D3 st3
    have g_b3 : n0 ≤ b3 := Nat.le_trans Z0 (Nat.le_of_eq g3.symm)
    have sz_b3 : h0.size ≤ b3 := Nat.le_trans KK.1 (Nat.le_of_eq g3.symm)
    have Z0 := Nat.le_trans Z0 E3.1
    have KK := Keep.ext KK E3
    have SC := SC.ext E3
    have O := O.ext E3
    have F_value_b3 : Fld Z h3 b3 "java/lang/String" "value" "[B" .null := D3 (Or.inr (hw _ (List.mem_of_getElem? (i := 27) rfl))) (ty := (.array .byte)) (by decide)
    have F_coder_b3 : Fld Z h3 b3 "java/lang/String" "coder" "B" (.int (0 : Int32)) := D3 (Or.inr (hw _ (List.mem_of_getElem? (i := 29) rfl))) (ty := .byte) (by decide)
    have E_b3 := A3
    refine go st3 ?_
    refine go (fun _ k => by refine XS.dup X3.here hx rfl (hb hby d_method_2_code_29) rfl rfl ?_; exact k) ?_
    refine go (fun _ k => by refine XS.iconst X3.here hx rfl (hb hby d_method_2_code_30) ?_; exact k) ?_
    show OwnEnd _ _ _ _ _ _ _ (T3.setTop (mkF m 31 (fL2 p0 p1 p2 (own_ci p1) (own_ci p2)) [(.int (2 : Int32)), (.ref b3), (.ref b3)]))
    obtain ⟨T4, h4, k4, X4, e4, E4, A4, st4⟩ := newP X3 hx hZ (hw _ (List.mem_of_getElem? (i := 62) rfl)) e3 (g := (mkF m 31 (fL2 p0 p1 p2 (own_ci p1) (own_ci p2)) [(.int (2 : Int32)), (.ref b3), (.ref b3)])) rfl (hb hby d_method_2_code_31) rfl (by decide) (cap := 2) (by decide) (by decide) (by decide) (by decide)
    obtain ⟨b4, g4⟩ : ∃ z, z = h3.size := ⟨_, rfl⟩
    rw [← g4] at A4 st4
    have ne_b3_b4 : b3 ≠ b4 := fun q => absurd F_value_b3.lt (by rw [q, g4]; exact Nat.lt_irrefl _)
    have g_b4 : n0 ≤ b4 := Nat.le_trans Z0 (Nat.le_of_eq g4.symm)
    have sz_b4 : h0.size ≤ b4 := Nat.le_trans KK.1 (Nat.le_of_eq g4.symm)
    have Z0 := Nat.le_trans Z0 E4.1
    have KK := Keep.ext KK E4
    have SC := SC.ext E4
    have O := O.ext E4
    have F_value_b3 := F_value_b3.ext E4
    have F_coder_b3 := F_coder_b3.ext E4
    have E_b3 := E_b3.ext E4
    have V_b4 : Arv Z h4 b4 k4 .char (2 : Int32) [(.int (0 : Int32)), (.int (0 : Int32))] (.int (0 : Int32)) := (Arv.new A4 (by decide)).pad (pad_rep [] (.int (0 : Int32)) 2)
    refine go st4 ?_
    refine go (fun _ k => by refine XS.dup X4.here hx rfl (hb hby d_method_2_code_33) rfl rfl ?_; exact k) ?_
    refine go (fun _ k => by refine XS.iconst X4.here hx rfl (hb hby d_method_2_code_34) ?_; exact k) ?_
    refine go (fun _ k => by refine XS.iloadN X4.here hx rfl (hb hby d_method_2_code_35) rfl ?_; exact k) ?_
    show OwnEnd _ _ _ _ _ _ _ (T4.setTop (mkF m 36 (fL2 p0 p1 p2 (own_ci p1) (own_ci p2)) [(.int (own_ci p1)), (.int (0 : Int32)), (.ref b4), (.ref b4), (.ref b3), (.ref b3)]))
    obtain ⟨T5, h5, X5, e5, W5, V_b4', st5⟩ := stCv X4 hx hZ e4 V_b4 (j := (0 : Int32)) (i := 0) (by decide) (by decide) (by decide) (Nat.le_of_ble_eq_true rfl) (g := (mkF m 36 (fL2 p0 p1 p2 (own_ci p1) (own_ci p2)) [(.int (own_ci p1)), (.int (0 : Int32)), (.ref b4), (.ref b4), (.ref b3), (.ref b3)])) rfl rfl (hb hby d_method_2_code_36)
    have N5 := Fr.snoc X5 N0 g_b4
    rw [own_nar] at V_b4'
    have Z0 := Nat.le_trans Z0 (Keep.of_wr W5).1
    have KK := Keep.wr KK W5 (Or.inr sz_b4)
    have SC := SC.wr W5
    have O := O.wr W5 g_b4
    have F_value_b3 := F_value_b3.other W5 (Or.inl ne_b3_b4)
    have F_coder_b3 := F_coder_b3.other W5 (Or.inl ne_b3_b4)
    have E_b3 := E_b3.wr W5
    have V_b4 : Arv Z h5 b4 k4 .char (2 : Int32) [(.int (own_ci p1)), (.int (0 : Int32))] (.int (0 : Int32)) := V_b4'
    refine go st5 ?_
    refine go (fun _ k => by refine XS.dup X5.here hx rfl (hb hby d_method_2_code_37) rfl rfl ?_; exact k) ?_
    refine go (fun _ k => by refine XS.iconst X5.here hx rfl (hb hby d_method_2_code_38) ?_; exact k) ?_
    refine go (fun _ k => by refine XS.iload X5.here hx rfl (hb hby d_method_2_code_39) rfl ?_; exact k) ?_
    show OwnEnd _ _ _ _ _ _ _ (T5.setTop (mkF m 41 (fL2 p0 p1 p2 (own_ci p1) (own_ci p2)) [(.int (own_ci p2)), (.int (1 : Int32)), (.ref b4), (.ref b4), (.ref b3), (.ref b3)]))
    obtain ⟨T6, h6, X6, e6, W6, V_b4', st6⟩ := stCv X5 hx hZ e5 V_b4 (j := (1 : Int32)) (i := 1) (by decide) (by decide) (by decide) (Nat.le_of_ble_eq_true rfl) (g := (mkF m 41 (fL2 p0 p1 p2 (own_ci p1) (own_ci p2)) [(.int (own_ci p2)), (.int (1 : Int32)), (.ref b4), (.ref b4), (.ref b3), (.ref b3)])) rfl rfl (hb hby d_method_2_code_41)
    have N6 := Fr.snoc X6 N5 g_b4
    rw [own_nar] at V_b4'
    have Z0 := Nat.le_trans Z0 (Keep.of_wr W6).1
    have KK := Keep.wr KK W6 (Or.inr sz_b4)
    have SC := SC.wr W6
    have O := O.wr W6 g_b4
    have F_value_b3 := F_value_b3.other W6 (Or.inl ne_b3_b4)
    have F_coder_b3 := F_coder_b3.other W6 (Or.inl ne_b3_b4)
    have E_b3 := E_b3.wr W6
    have V_b4 : Arv Z h6 b4 k4 .char (2 : Int32) [(.int (own_ci p1)), (.int (own_ci p2))] (.int (0 : Int32)) := V_b4'
    refine go st6 ?_
    have KKo := KK
    show OwnEnd _ _ _ _ _ _ _ (T6.setTop (mkF m 42 (fL2 p0 p1 p2 (own_ci p1) (own_ci p2)) [(.ref b4), (.ref b3), (.ref b3)]))
    have hp7 : ∀ c ∈ ([(own_ci p1), (own_ci p2)] : List Int32), ¬ c < 0 ∧ ¬ (255 : Int32) < c := by
      intro c hc
      simp only [List.mem_cons, List.not_mem_nil, or_false] at hc
      rcases hc with rfl | rfl <;> exact own_cir _
    obtain ⟨_, T7, L7, X7, hQ7, st7⟩ := callInitB X6 hx hZ hown rfl (hw _ (List.mem_of_getElem? (i := 63) rfl)) (hw _ (List.mem_of_getElem? (i := 64) rfl)) (hw _ (List.mem_of_getElem? (i := 65) rfl)) (by decide) (StrChars.Road.backV (W := 1) hZ (fun d hd => hw d ((by decide +kernel : ∀ d ∈ StrChars.Road.words, d ∈ tables_1) d hd)) (kI := 4) (hw _ (List.mem_of_getElem? (i := 14) rfl)) (cs := ([(own_ci p1), (own_ci p2)] : List Int32)) (bs := (([(own_ci p1), (own_ci p2)] : List Int32)).map (fun c => c.toInt8.toInt32)) (n := 2) g_b3 Z0 E_b3 F_value_b3 F_coder_b3 V_b4 SC c1 rfl rfl (by decide) (by decide) hp7 rfl (by decide) (by decide)) e6 (g := (mkF m 42 (fL2 p0 p1 p2 (own_ci p1) (own_ci p2)) [(.ref b4), (.ref b3), (.ref b3)])) rfl (by rw [hml]; rfl) (argsL := [(.ref b4)]) (rest := [(.ref b3)]) rfl (lenOf pd___C_V rfl) rfl (by show 2 * 0 + _ ≤ _; exact Nat.le_of_eq rfl) (hb hby d_method_2_code_42) (by decide) (by decide)
    obtain ⟨rfl, Nq7, K7, E_b3, F_coder_b3, t7, kb7, g_t7, sq7, nt7, F_value_b3, V_t7⟩ := hQ7
    have N7 := Fr.app N6 Nq7
    have Z0 := Nat.le_trans Z0 K7.1
    have KK := Keep.trans KK K7 (allS (Or.inr sz_b3) all0)
    have O := O.keep K7 (allS g_b3 all0)
    have V_b4 := V_b4.keep K7 (ninS (Ne.symm ne_b3_b4) nin0)
    have SC := SC0.ext O.2
    refine go st7 ?_
    have sz_t7 : h0.size ≤ t7 := Nat.le_trans KKo.1 sq7
    show OwnEnd _ _ _ _ _ _ _ (T7.setTop (mkF m 45 (fL2 p0 p1 p2 (own_ci p1) (own_ci p2)) [(.ref b3)]))
    refine endA X7 hx hlk Bd.returns rfl rfl (hb hby d_method_2_code_45) rfl (by decide) (by decide) ?_
    exact ⟨b3, t7, _, rfl, N7, KK, g_b3, sz_b3, sz_t7, E_b3, F_value_b3, F_coder_b3, by unfold own_cs; rw [if_neg hc18_1]; exact V_t7⟩
theorem d_method_3_code_0 : decode method_3_code 0 = .ok (.iload_n 0, 1) := by decide +kernel
theorem d_method_3_code_1 : decode method_3_code 1 = .ok (.iconst 1, 1) := by decide +kernel
theorem d_method_3_code_2 : decode method_3_code 2 = .ok (.iand, 1) := by decide +kernel
theorem d_method_3_code_3 : decode method_3_code 3 = .ok (.ifCond .eq 7, 3) := by decide +kernel
theorem d_method_3_code_10 : decode method_3_code 10 = .ok (.iconst 0, 1) := by decide +kernel
theorem d_method_3_code_11 : decode method_3_code 11 = .ok (.istore 6, 2) := by decide +kernel
theorem d_method_3_code_13 : decode method_3_code 13 = .ok (.iload_n 3, 1) := by decide +kernel
theorem d_method_3_code_14 : decode method_3_code 14 = .ok (.iconst 1, 1) := by decide +kernel
theorem d_method_3_code_15 : decode method_3_code 15 = .ok (.iand, 1) := by decide +kernel
theorem d_method_3_code_16 : decode method_3_code 16 = .ok (.ifCond .eq 7, 3) := by decide +kernel
theorem d_method_3_code_23 : decode method_3_code 23 = .ok (.iconst 0, 1) := by decide +kernel
theorem d_method_3_code_24 : decode method_3_code 24 = .ok (.istore 7, 2) := by decide +kernel
theorem d_method_3_code_26 : decode method_3_code 26 = .ok (.iload 6, 2) := by decide +kernel
theorem d_method_3_code_28 : decode method_3_code 28 = .ok (.iload 7, 2) := by decide +kernel
theorem d_method_3_code_30 : decode method_3_code 30 = .ok (.if_icmp .eq 5, 3) := by decide +kernel
theorem d_method_3_code_35 : decode method_3_code 35 = .ok (.iload_n 1, 1) := by decide +kernel
theorem d_method_3_code_36 : decode method_3_code 36 = .ok (.sipush 255, 3) := by decide +kernel
theorem d_method_3_code_39 : decode method_3_code 39 = .ok (.iand, 1) := by decide +kernel
theorem d_method_3_code_40 : decode method_3_code 40 = .ok (.iload 4, 2) := by decide +kernel
theorem d_method_3_code_42 : decode method_3_code 42 = .ok (.sipush 255, 3) := by decide +kernel
theorem d_method_3_code_45 : decode method_3_code 45 = .ok (.iand, 1) := by decide +kernel
theorem d_method_3_code_46 : decode method_3_code 46 = .ok (.if_icmp .eq 5, 3) := by decide +kernel
theorem d_method_3_code_51 : decode method_3_code 51 = .ok (.iload 6, 2) := by decide +kernel
theorem d_method_3_code_53 : decode method_3_code 53 = .ok (.ifCond .eq 19, 3) := by decide +kernel
theorem d_method_3_code_72 : decode method_3_code 72 = .ok (.iconst 1, 1) := by decide +kernel
theorem d_method_3_code_73 : decode method_3_code 73 = .ok (.ireturn, 1) := by decide +kernel
theorem d_method_3_code_49 : decode method_3_code 49 = .ok (.iconst 0, 1) := by decide +kernel
theorem d_method_3_code_50 : decode method_3_code 50 = .ok (.ireturn, 1) := by decide +kernel
theorem d_method_3_code_19 : decode method_3_code 19 = .ok (.iconst 1, 1) := by decide +kernel
theorem d_method_3_code_20 : decode method_3_code 20 = .ok (.goto 4, 3) := by decide +kernel
theorem d_method_3_code_33 : decode method_3_code 33 = .ok (.iconst 0, 1) := by decide +kernel
theorem d_method_3_code_34 : decode method_3_code 34 = .ok (.ireturn, 1) := by decide +kernel
theorem d_method_3_code_6 : decode method_3_code 6 = .ok (.iconst 1, 1) := by decide +kernel
theorem d_method_3_code_7 : decode method_3_code 7 = .ok (.goto 4, 3) := by decide +kernel
theorem d_method_3_code_56 : decode method_3_code 56 = .ok (.iload_n 2, 1) := by decide +kernel
theorem d_method_3_code_57 : decode method_3_code 57 = .ok (.sipush 255, 3) := by decide +kernel
theorem d_method_3_code_60 : decode method_3_code 60 = .ok (.iand, 1) := by decide +kernel
theorem d_method_3_code_61 : decode method_3_code 61 = .ok (.iload 5, 2) := by decide +kernel
theorem d_method_3_code_63 : decode method_3_code 63 = .ok (.sipush 255, 3) := by decide +kernel
theorem d_method_3_code_66 : decode method_3_code 66 = .ok (.iand, 1) := by decide +kernel
theorem d_method_3_code_67 : decode method_3_code 67 = .ok (.if_icmp .eq 5, 3) := by decide +kernel
theorem d_method_3_code_70 : decode method_3_code 70 = .ok (.iconst 0, 1) := by decide +kernel
theorem d_method_3_code_71 : decode method_3_code 71 = .ok (.ireturn, 1) := by decide +kernel
theorem ef_rm_sam (m : MethodId) (y0 : Int32) (y1 : Int32) (y2 : Int32) (y3 : Int32) (y4 : Int32) (y5 : Int32) : entryFrame m #[(.int y0), (.int y1), (.int y2), (.int y3), (.int y4), (.int y5)] 8 = mkF m 0 #[.val (.int y0), .val (.int y1), .val (.int y2), .val (.int y3), .val (.int y4), .val (.int y5), .unset, .unset] [] := by first | (simp [entryFrame, mkF, argsToLocals, Value.category]; done) | rfl
def Q_rm_sam (Z : State) (p0 : Int32) (p1 : Int32) (p2 : Int32) (p3 : Int32) (p4 : Int32) (p5 : Int32) (h0 : Heap) (n0 : Nat) (v : Option Value) (h : Heap) (L : List Loc) : Prop := v = some (.int (own_same p0 p1 p2 p3 p4 p5)) ∧ Fr n0 L ∧ h = h0
set_option maxRecDepth 65536 in
set_option maxHeartbeats 40000000 in
theorem rm_sam (l : Launch) (Z : State) (a0 : Array Value) (hw : ∀ d ∈ tables_1, d.before a0 Z = true) (ws : List Jvm.Cond) (p0 : Int32) (p1 : Int32) (p2 : Int32) (p3 : Int32) (p4 : Int32) (p5 : Int32) (h0 : Heap) (n0 : Nat) :
    MetFree l (⟨"com/example/brisk_ledger/briskledger/LockNameEqualsPinLaw", "same", "(IIIIII)Z"⟩ : MethodName) (head1 (Jvm.Cond.code (⟨"com/example/brisk_ledger/briskledger/LockNameEqualsPinLaw", "same", "(IIIIII)Z"⟩ : MethodName) method_3_code 8 (some .boolean) :: ws) ({ frames := 0, cells := 0, slots := 0, locals := 0 } : Room)) (fun a U => a = #[(.int p0), (.int p1), (.int p2), (.int p3), (.int p4), (.int p5)] ∧ Z.Warmed39 U.vm ∧ U.heap = h0) (fun _ _ _ _ _ => True) (fun _ U o U' => ∃ v L, o = .returned v ∧ Q_rm_sam Z p0 p1 p2 p3 p4 p5 h0 n0 v U'.heap L ∧ FrameEnd U o U' L 0 0) := by
  refine MetFree.of_bodySF (plainFor_of_name pn_com_example_brisk_ledger_briskledger_LockNameEqualsPinLaw) hisR ?_
  intro p e s m args below meth c s₁ Bd hml0 hP hK
  obtain ⟨rfl, hZ, hh⟩ := hP
  have hx := Bd.exec
  have hby := Bd.bytes
  have hlk := Bd.notSynchronized
  have hml : c.maxLocals = 8 := hml0
  have hown : s.vm.findClass "com/example/brisk_ledger/briskledger/LockNameEqualsPinLaw" = some m.cls := findClass_of_methodNamed Bd.named
  have hnm := (name_of_methodNamed Bd.named Bd.method).1
  have X0 : Stand p l e ({ frames := 0, cells := 0, slots := 0, locals := 0 } : Room) s m #[(.int p0), (.int p1), (.int p2), (.int p3), (.int p4), (.int p5)] below meth c s₁ [] 0 0 := Stand.of_body Bd
  have e0 : s₁.heap = h0 := by rw [← hh, Bd.state]; rfl
  have N0 := Fr.nil n0
  show OwnEnd p e below s (Q_rm_sam Z p0 p1 p2 p3 p4 p5 h0 n0) 0 0 (s₁.setTop (entryFrame m #[(.int p0), (.int p1), (.int p2), (.int p3), (.int p4), (.int p5)] 8))
  refine go (fun t k => castTop (ef_rm_sam m p0 p1 p2 p3 p4 p5) k) ?_
  show OwnEnd _ _ _ _ _ _ _ (s₁.setTop (mkF m 0 (fL3 p0 p1 p2 p3 p4 p5) []))
  refine go (fun _ k => by refine XS.iloadN X0.here hx rfl (hb hby d_method_3_code_0) rfl ?_; exact k) ?_
  refine go (fun _ k => by refine XS.iconst X0.here hx rfl (hb hby d_method_3_code_1) ?_; exact k) ?_
  refine go (fun _ k => by refine XS.iand X0.here hx rfl (hb hby d_method_3_code_2) rfl ?_; exact k) ?_
  show OwnEnd _ _ _ _ _ _ _ (s₁.setTop (mkF m 3 (fL3 p0 p1 p2 p3 p4 p5) [(.int (p0 &&& (1 : Int32)))]))
  by_cases hc3_1 : (p0 &&& (1 : Int32)) = (0 : Int32)
  · refine go (fun _ k => by refine XS.ifYes X0.here hx rfl (pc0 := 3) (pc' := 10) rfl (hb hby d_method_3_code_3) rfl ((if0 _ _).trans (teq hc3_1).1) (by decide) (by decide) ?_; exact k) ?_
    show OwnEnd _ _ _ _ _ _ _ (s₁.setTop (mkF m 10 (fL3 p0 p1 p2 p3 p4 p5) []))
    refine go (fun _ k => by refine XS.iconst X0.here hx rfl (hb hby d_method_3_code_10) ?_; exact k) ?_
    refine go (fun _ k => by refine XS.istore X0.here hx rfl (hb hby d_method_3_code_11) rfl (l' := (fL4 p0 p1 p2 p3 p4 p5 (0 : Int32))) rfl ?_; exact k) ?_
    refine go (fun _ k => by refine XS.iloadN X0.here hx rfl (hb hby d_method_3_code_13) rfl ?_; exact k) ?_
    refine go (fun _ k => by refine XS.iconst X0.here hx rfl (hb hby d_method_3_code_14) ?_; exact k) ?_
    show OwnEnd _ _ _ _ _ _ _ (s₁.setTop (mkF m 15 (fL4 p0 p1 p2 p3 p4 p5 (0 : Int32)) [(.int (1 : Int32)), (.int p3)]))
    refine go (fun _ k => by refine XS.iand X0.here hx rfl (hb hby d_method_3_code_15) rfl ?_; exact k) ?_
    show OwnEnd _ _ _ _ _ _ _ (s₁.setTop (mkF m 16 (fL4 p0 p1 p2 p3 p4 p5 (0 : Int32)) [(.int (p3 &&& (1 : Int32)))]))
    by_cases hc16_2 : (p3 &&& (1 : Int32)) = (0 : Int32)
    · refine go (fun _ k => by refine XS.ifYes X0.here hx rfl (pc0 := 16) (pc' := 23) rfl (hb hby d_method_3_code_16) rfl ((if0 _ _).trans (teq hc16_2).1) (by decide) (by decide) ?_; exact k) ?_
      show OwnEnd _ _ _ _ _ _ _ (s₁.setTop (mkF m 23 (fL4 p0 p1 p2 p3 p4 p5 (0 : Int32)) []))
      refine go (fun _ k => by refine XS.iconst X0.here hx rfl (hb hby d_method_3_code_23) ?_; exact k) ?_
      refine go (fun _ k => by refine XS.istore X0.here hx rfl (hb hby d_method_3_code_24) rfl (l' := (fL5 p0 p1 p2 p3 p4 p5 (0 : Int32) (0 : Int32))) rfl ?_; exact k) ?_
      refine go (fun _ k => by refine XS.iload X0.here hx rfl (hb hby d_method_3_code_26) rfl ?_; exact k) ?_
      refine go (fun _ k => by refine XS.iload X0.here hx rfl (hb hby d_method_3_code_28) rfl ?_; exact k) ?_
      show OwnEnd _ _ _ _ _ _ _ (s₁.setTop (mkF m 30 (fL5 p0 p1 p2 p3 p4 p5 (0 : Int32) (0 : Int32)) [(.int (0 : Int32)), (.int (0 : Int32))]))
      refine go (fun _ k => by refine XS.icmpYes X0.here hx rfl (pc0 := 30) (pc' := 35) rfl (hb hby d_method_3_code_30) rfl (teq (by decide)).1 (by decide) (by decide) ?_; exact k) ?_
      refine go (fun _ k => by refine XS.iloadN X0.here hx rfl (hb hby d_method_3_code_35) rfl ?_; exact k) ?_
      refine go (fun _ k => by refine XS.sipush X0.here hx rfl (hb hby d_method_3_code_36) ?_; exact k) ?_
      refine go (fun _ k => by refine XS.iand X0.here hx rfl (hb hby d_method_3_code_39) rfl ?_; exact k) ?_
      show OwnEnd _ _ _ _ _ _ _ (s₁.setTop (mkF m 40 (fL5 p0 p1 p2 p3 p4 p5 (0 : Int32) (0 : Int32)) [(.int (p1 &&& (255 : Int32)))]))
      refine go (fun _ k => by refine XS.iload X0.here hx rfl (hb hby d_method_3_code_40) rfl ?_; exact k) ?_
      refine go (fun _ k => by refine XS.sipush X0.here hx rfl (hb hby d_method_3_code_42) ?_; exact k) ?_
      refine go (fun _ k => by refine XS.iand X0.here hx rfl (hb hby d_method_3_code_45) rfl ?_; exact k) ?_
      show OwnEnd _ _ _ _ _ _ _ (s₁.setTop (mkF m 46 (fL5 p0 p1 p2 p3 p4 p5 (0 : Int32) (0 : Int32)) [(.int (p4 &&& (255 : Int32))), (.int (p1 &&& (255 : Int32)))]))
      by_cases hc46_3 : (p1 &&& (255 : Int32)) = (p4 &&& (255 : Int32))
      · refine go (fun _ k => by refine XS.icmpYes X0.here hx rfl (pc0 := 46) (pc' := 51) rfl (hb hby d_method_3_code_46) rfl (teq hc46_3).1 (by decide) (by decide) ?_; exact k) ?_
        show OwnEnd _ _ _ _ _ _ _ (s₁.setTop (mkF m 51 (fL5 p0 p1 p2 p3 p4 p5 (0 : Int32) (0 : Int32)) []))
        refine go (fun _ k => by refine XS.iload X0.here hx rfl (hb hby d_method_3_code_51) rfl ?_; exact k) ?_
        show OwnEnd _ _ _ _ _ _ _ (s₁.setTop (mkF m 53 (fL5 p0 p1 p2 p3 p4 p5 (0 : Int32) (0 : Int32)) [(.int (0 : Int32))]))
        refine go (fun _ k => by refine XS.ifYes X0.here hx rfl (pc0 := 53) (pc' := 72) rfl (hb hby d_method_3_code_53) rfl ((if0 _ _).trans (teq (by decide)).1) (by decide) (by decide) ?_; exact k) ?_
        refine go (fun _ k => by refine XS.iconst X0.here hx rfl (hb hby d_method_3_code_72) ?_; exact k) ?_
        show OwnEnd _ _ _ _ _ _ _ (s₁.setTop (mkF m 73 (fL5 p0 p1 p2 p3 p4 p5 (0 : Int32) (0 : Int32)) [(.int (1 : Int32))]))
        refine endN X0 hx hlk (t := .boolean) (by simp) Bd.returns (hb hby d_method_3_code_73) e0 (by decide) (by decide) ?_
        have e : own_same p0 p1 p2 p3 p4 p5 = 1 := by unfold own_same own_cs; simp [own_ciE, hc3_1, hc16_2, hc46_3]
        exact ⟨by rw [e]; rfl, N0, rfl⟩
      · refine go (fun _ k => by refine XS.icmpNo X0.here hx rfl (hb hby d_method_3_code_46) rfl (feq hc46_3).1 ?_; exact k) ?_
        show OwnEnd _ _ _ _ _ _ _ (s₁.setTop (mkF m 49 (fL5 p0 p1 p2 p3 p4 p5 (0 : Int32) (0 : Int32)) []))
        refine go (fun _ k => by refine XS.iconst X0.here hx rfl (hb hby d_method_3_code_49) ?_; exact k) ?_
        show OwnEnd _ _ _ _ _ _ _ (s₁.setTop (mkF m 50 (fL5 p0 p1 p2 p3 p4 p5 (0 : Int32) (0 : Int32)) [(.int (0 : Int32))]))
        refine endN X0 hx hlk (t := .boolean) (by simp) Bd.returns (hb hby d_method_3_code_50) e0 (by decide) (by decide) ?_
        have e : own_same p0 p1 p2 p3 p4 p5 = 0 := by unfold own_same own_cs; simp [own_ciE, hc3_1, hc16_2, hc46_3]
        exact ⟨by rw [e]; rfl, N0, rfl⟩
    · refine go (fun _ k => by refine XS.ifNo X0.here hx rfl (hb hby d_method_3_code_16) rfl ((if0 _ _).trans (feq hc16_2).1) ?_; exact k) ?_
      show OwnEnd _ _ _ _ _ _ _ (s₁.setTop (mkF m 19 (fL4 p0 p1 p2 p3 p4 p5 (0 : Int32)) []))
      refine go (fun _ k => by refine XS.iconst X0.here hx rfl (hb hby d_method_3_code_19) ?_; exact k) ?_
      refine go (fun _ k => by refine XS.goto X0.here hx rfl (pc0 := 20) (pc' := 24) rfl (hb hby d_method_3_code_20) (by decide) (by decide) ?_; exact k) ?_
      refine go (fun _ k => by refine XS.istore X0.here hx rfl (hb hby d_method_3_code_24) rfl (l' := (fL5 p0 p1 p2 p3 p4 p5 (0 : Int32) (1 : Int32))) rfl ?_; exact k) ?_
      refine go (fun _ k => by refine XS.iload X0.here hx rfl (hb hby d_method_3_code_26) rfl ?_; exact k) ?_
      show OwnEnd _ _ _ _ _ _ _ (s₁.setTop (mkF m 28 (fL5 p0 p1 p2 p3 p4 p5 (0 : Int32) (1 : Int32)) [(.int (0 : Int32))]))
      refine go (fun _ k => by refine XS.iload X0.here hx rfl (hb hby d_method_3_code_28) rfl ?_; exact k) ?_
      show OwnEnd _ _ _ _ _ _ _ (s₁.setTop (mkF m 30 (fL5 p0 p1 p2 p3 p4 p5 (0 : Int32) (1 : Int32)) [(.int (1 : Int32)), (.int (0 : Int32))]))
      refine go (fun _ k => by refine XS.icmpNo X0.here hx rfl (hb hby d_method_3_code_30) rfl (feq (by decide)).1 ?_; exact k) ?_
      refine go (fun _ k => by refine XS.iconst X0.here hx rfl (hb hby d_method_3_code_33) ?_; exact k) ?_
      show OwnEnd _ _ _ _ _ _ _ (s₁.setTop (mkF m 34 (fL5 p0 p1 p2 p3 p4 p5 (0 : Int32) (1 : Int32)) [(.int (0 : Int32))]))
      refine endN X0 hx hlk (t := .boolean) (by simp) Bd.returns (hb hby d_method_3_code_34) e0 (by decide) (by decide) ?_
      have e : own_same p0 p1 p2 p3 p4 p5 = 0 := by unfold own_same own_cs; simp [own_ciE, hc3_1, hc16_2]
      exact ⟨by rw [e]; rfl, N0, rfl⟩
  · refine go (fun _ k => by refine XS.ifNo X0.here hx rfl (hb hby d_method_3_code_3) rfl ((if0 _ _).trans (feq hc3_1).1) ?_; exact k) ?_
    show OwnEnd _ _ _ _ _ _ _ (s₁.setTop (mkF m 6 (fL3 p0 p1 p2 p3 p4 p5) []))
    refine go (fun _ k => by refine XS.iconst X0.here hx rfl (hb hby d_method_3_code_6) ?_; exact k) ?_
    refine go (fun _ k => by refine XS.goto X0.here hx rfl (pc0 := 7) (pc' := 11) rfl (hb hby d_method_3_code_7) (by decide) (by decide) ?_; exact k) ?_
    refine go (fun _ k => by refine XS.istore X0.here hx rfl (hb hby d_method_3_code_11) rfl (l' := (fL4 p0 p1 p2 p3 p4 p5 (1 : Int32))) rfl ?_; exact k) ?_
    refine go (fun _ k => by refine XS.iloadN X0.here hx rfl (hb hby d_method_3_code_13) rfl ?_; exact k) ?_
    show OwnEnd _ _ _ _ _ _ _ (s₁.setTop (mkF m 14 (fL4 p0 p1 p2 p3 p4 p5 (1 : Int32)) [(.int p3)]))
    refine go (fun _ k => by refine XS.iconst X0.here hx rfl (hb hby d_method_3_code_14) ?_; exact k) ?_
    refine go (fun _ k => by refine XS.iand X0.here hx rfl (hb hby d_method_3_code_15) rfl ?_; exact k) ?_
    show OwnEnd _ _ _ _ _ _ _ (s₁.setTop (mkF m 16 (fL4 p0 p1 p2 p3 p4 p5 (1 : Int32)) [(.int (p3 &&& (1 : Int32)))]))
    by_cases hc16_4 : (p3 &&& (1 : Int32)) = (0 : Int32)
    · refine go (fun _ k => by refine XS.ifYes X0.here hx rfl (pc0 := 16) (pc' := 23) rfl (hb hby d_method_3_code_16) rfl ((if0 _ _).trans (teq hc16_4).1) (by decide) (by decide) ?_; exact k) ?_
      show OwnEnd _ _ _ _ _ _ _ (s₁.setTop (mkF m 23 (fL4 p0 p1 p2 p3 p4 p5 (1 : Int32)) []))
      refine go (fun _ k => by refine XS.iconst X0.here hx rfl (hb hby d_method_3_code_23) ?_; exact k) ?_
      refine go (fun _ k => by refine XS.istore X0.here hx rfl (hb hby d_method_3_code_24) rfl (l' := (fL5 p0 p1 p2 p3 p4 p5 (1 : Int32) (0 : Int32))) rfl ?_; exact k) ?_
      refine go (fun _ k => by refine XS.iload X0.here hx rfl (hb hby d_method_3_code_26) rfl ?_; exact k) ?_
      refine go (fun _ k => by refine XS.iload X0.here hx rfl (hb hby d_method_3_code_28) rfl ?_; exact k) ?_
      show OwnEnd _ _ _ _ _ _ _ (s₁.setTop (mkF m 30 (fL5 p0 p1 p2 p3 p4 p5 (1 : Int32) (0 : Int32)) [(.int (0 : Int32)), (.int (1 : Int32))]))
      refine go (fun _ k => by refine XS.icmpNo X0.here hx rfl (hb hby d_method_3_code_30) rfl (feq (by decide)).1 ?_; exact k) ?_
      refine go (fun _ k => by refine XS.iconst X0.here hx rfl (hb hby d_method_3_code_33) ?_; exact k) ?_
      show OwnEnd _ _ _ _ _ _ _ (s₁.setTop (mkF m 34 (fL5 p0 p1 p2 p3 p4 p5 (1 : Int32) (0 : Int32)) [(.int (0 : Int32))]))
      refine endN X0 hx hlk (t := .boolean) (by simp) Bd.returns (hb hby d_method_3_code_34) e0 (by decide) (by decide) ?_
      have e : own_same p0 p1 p2 p3 p4 p5 = 0 := by unfold own_same own_cs; simp [own_ciE, hc3_1, hc16_4]
      exact ⟨by rw [e]; rfl, N0, rfl⟩
    · refine go (fun _ k => by refine XS.ifNo X0.here hx rfl (hb hby d_method_3_code_16) rfl ((if0 _ _).trans (feq hc16_4).1) ?_; exact k) ?_
      show OwnEnd _ _ _ _ _ _ _ (s₁.setTop (mkF m 19 (fL4 p0 p1 p2 p3 p4 p5 (1 : Int32)) []))
      refine go (fun _ k => by refine XS.iconst X0.here hx rfl (hb hby d_method_3_code_19) ?_; exact k) ?_
      refine go (fun _ k => by refine XS.goto X0.here hx rfl (pc0 := 20) (pc' := 24) rfl (hb hby d_method_3_code_20) (by decide) (by decide) ?_; exact k) ?_
      refine go (fun _ k => by refine XS.istore X0.here hx rfl (hb hby d_method_3_code_24) rfl (l' := (fL5 p0 p1 p2 p3 p4 p5 (1 : Int32) (1 : Int32))) rfl ?_; exact k) ?_
      refine go (fun _ k => by refine XS.iload X0.here hx rfl (hb hby d_method_3_code_26) rfl ?_; exact k) ?_
      show OwnEnd _ _ _ _ _ _ _ (s₁.setTop (mkF m 28 (fL5 p0 p1 p2 p3 p4 p5 (1 : Int32) (1 : Int32)) [(.int (1 : Int32))]))
      refine go (fun _ k => by refine XS.iload X0.here hx rfl (hb hby d_method_3_code_28) rfl ?_; exact k) ?_
      show OwnEnd _ _ _ _ _ _ _ (s₁.setTop (mkF m 30 (fL5 p0 p1 p2 p3 p4 p5 (1 : Int32) (1 : Int32)) [(.int (1 : Int32)), (.int (1 : Int32))]))
      refine go (fun _ k => by refine XS.icmpYes X0.here hx rfl (pc0 := 30) (pc' := 35) rfl (hb hby d_method_3_code_30) rfl (teq (by decide)).1 (by decide) (by decide) ?_; exact k) ?_
      refine go (fun _ k => by refine XS.iloadN X0.here hx rfl (hb hby d_method_3_code_35) rfl ?_; exact k) ?_
      refine go (fun _ k => by refine XS.sipush X0.here hx rfl (hb hby d_method_3_code_36) ?_; exact k) ?_
      refine go (fun _ k => by refine XS.iand X0.here hx rfl (hb hby d_method_3_code_39) rfl ?_; exact k) ?_
      show OwnEnd _ _ _ _ _ _ _ (s₁.setTop (mkF m 40 (fL5 p0 p1 p2 p3 p4 p5 (1 : Int32) (1 : Int32)) [(.int (p1 &&& (255 : Int32)))]))
      refine go (fun _ k => by refine XS.iload X0.here hx rfl (hb hby d_method_3_code_40) rfl ?_; exact k) ?_
      refine go (fun _ k => by refine XS.sipush X0.here hx rfl (hb hby d_method_3_code_42) ?_; exact k) ?_
      refine go (fun _ k => by refine XS.iand X0.here hx rfl (hb hby d_method_3_code_45) rfl ?_; exact k) ?_
      show OwnEnd _ _ _ _ _ _ _ (s₁.setTop (mkF m 46 (fL5 p0 p1 p2 p3 p4 p5 (1 : Int32) (1 : Int32)) [(.int (p4 &&& (255 : Int32))), (.int (p1 &&& (255 : Int32)))]))
      by_cases hc46_5 : (p1 &&& (255 : Int32)) = (p4 &&& (255 : Int32))
      · refine go (fun _ k => by refine XS.icmpYes X0.here hx rfl (pc0 := 46) (pc' := 51) rfl (hb hby d_method_3_code_46) rfl (teq hc46_5).1 (by decide) (by decide) ?_; exact k) ?_
        show OwnEnd _ _ _ _ _ _ _ (s₁.setTop (mkF m 51 (fL5 p0 p1 p2 p3 p4 p5 (1 : Int32) (1 : Int32)) []))
        refine go (fun _ k => by refine XS.iload X0.here hx rfl (hb hby d_method_3_code_51) rfl ?_; exact k) ?_
        show OwnEnd _ _ _ _ _ _ _ (s₁.setTop (mkF m 53 (fL5 p0 p1 p2 p3 p4 p5 (1 : Int32) (1 : Int32)) [(.int (1 : Int32))]))
        refine go (fun _ k => by refine XS.ifNo X0.here hx rfl (hb hby d_method_3_code_53) rfl ((if0 _ _).trans (feq (by decide)).1) ?_; exact k) ?_
        refine go (fun _ k => by refine XS.iloadN X0.here hx rfl (hb hby d_method_3_code_56) rfl ?_; exact k) ?_
        refine go (fun _ k => by refine XS.sipush X0.here hx rfl (hb hby d_method_3_code_57) ?_; exact k) ?_
        refine go (fun _ k => by refine XS.iand X0.here hx rfl (hb hby d_method_3_code_60) rfl ?_; exact k) ?_
        show OwnEnd _ _ _ _ _ _ _ (s₁.setTop (mkF m 61 (fL5 p0 p1 p2 p3 p4 p5 (1 : Int32) (1 : Int32)) [(.int (p2 &&& (255 : Int32)))]))
        refine go (fun _ k => by refine XS.iload X0.here hx rfl (hb hby d_method_3_code_61) rfl ?_; exact k) ?_
        refine go (fun _ k => by refine XS.sipush X0.here hx rfl (hb hby d_method_3_code_63) ?_; exact k) ?_
        refine go (fun _ k => by refine XS.iand X0.here hx rfl (hb hby d_method_3_code_66) rfl ?_; exact k) ?_
        show OwnEnd _ _ _ _ _ _ _ (s₁.setTop (mkF m 67 (fL5 p0 p1 p2 p3 p4 p5 (1 : Int32) (1 : Int32)) [(.int (p5 &&& (255 : Int32))), (.int (p2 &&& (255 : Int32)))]))
        by_cases hc67_6 : (p2 &&& (255 : Int32)) = (p5 &&& (255 : Int32))
        · refine go (fun _ k => by refine XS.icmpYes X0.here hx rfl (pc0 := 67) (pc' := 72) rfl (hb hby d_method_3_code_67) rfl (teq hc67_6).1 (by decide) (by decide) ?_; exact k) ?_
          show OwnEnd _ _ _ _ _ _ _ (s₁.setTop (mkF m 72 (fL5 p0 p1 p2 p3 p4 p5 (1 : Int32) (1 : Int32)) []))
          refine go (fun _ k => by refine XS.iconst X0.here hx rfl (hb hby d_method_3_code_72) ?_; exact k) ?_
          show OwnEnd _ _ _ _ _ _ _ (s₁.setTop (mkF m 73 (fL5 p0 p1 p2 p3 p4 p5 (1 : Int32) (1 : Int32)) [(.int (1 : Int32))]))
          refine endN X0 hx hlk (t := .boolean) (by simp) Bd.returns (hb hby d_method_3_code_73) e0 (by decide) (by decide) ?_
          have e : own_same p0 p1 p2 p3 p4 p5 = 1 := by unfold own_same own_cs; simp [own_ciE, hc3_1, hc16_4, hc46_5, hc67_6]
          exact ⟨by rw [e]; rfl, N0, rfl⟩
        · refine go (fun _ k => by refine XS.icmpNo X0.here hx rfl (hb hby d_method_3_code_67) rfl (feq hc67_6).1 ?_; exact k) ?_
          show OwnEnd _ _ _ _ _ _ _ (s₁.setTop (mkF m 70 (fL5 p0 p1 p2 p3 p4 p5 (1 : Int32) (1 : Int32)) []))
          refine go (fun _ k => by refine XS.iconst X0.here hx rfl (hb hby d_method_3_code_70) ?_; exact k) ?_
          show OwnEnd _ _ _ _ _ _ _ (s₁.setTop (mkF m 71 (fL5 p0 p1 p2 p3 p4 p5 (1 : Int32) (1 : Int32)) [(.int (0 : Int32))]))
          refine endN X0 hx hlk (t := .boolean) (by simp) Bd.returns (hb hby d_method_3_code_71) e0 (by decide) (by decide) ?_
          have e : own_same p0 p1 p2 p3 p4 p5 = 0 := by unfold own_same own_cs; simp [own_ciE, hc3_1, hc16_4, hc46_5, hc67_6]
          exact ⟨by rw [e]; rfl, N0, rfl⟩
      · refine go (fun _ k => by refine XS.icmpNo X0.here hx rfl (hb hby d_method_3_code_46) rfl (feq hc46_5).1 ?_; exact k) ?_
        show OwnEnd _ _ _ _ _ _ _ (s₁.setTop (mkF m 49 (fL5 p0 p1 p2 p3 p4 p5 (1 : Int32) (1 : Int32)) []))
        refine go (fun _ k => by refine XS.iconst X0.here hx rfl (hb hby d_method_3_code_49) ?_; exact k) ?_
        show OwnEnd _ _ _ _ _ _ _ (s₁.setTop (mkF m 50 (fL5 p0 p1 p2 p3 p4 p5 (1 : Int32) (1 : Int32)) [(.int (0 : Int32))]))
        refine endN X0 hx hlk (t := .boolean) (by simp) Bd.returns (hb hby d_method_3_code_50) e0 (by decide) (by decide) ?_
        have e : own_same p0 p1 p2 p3 p4 p5 = 0 := by unfold own_same own_cs; simp [own_ciE, hc3_1, hc16_4, hc46_5]
        exact ⟨by rw [e]; rfl, N0, rfl⟩
theorem d_prog_21_method_1_code_0 : decode prog_21_method_1_code 0 = .ok (.aload_n 0, 1) := by decide +kernel
theorem d_prog_21_method_1_code_1 : decode prog_21_method_1_code 1 = .ok (.invokespecial 1, 3) := by decide +kernel
theorem d_prog_21_method_1_code_4 : decode prog_21_method_1_code 4 = .ok (.aload_n 0, 1) := by decide +kernel
theorem d_prog_21_method_1_code_5 : decode prog_21_method_1_code 5 = .ok (.aload_n 1, 1) := by decide +kernel
theorem d_prog_21_method_1_code_6 : decode prog_21_method_1_code 6 = .ok (.putfield 7, 3) := by decide +kernel
theorem d_prog_21_method_1_code_9 : decode prog_21_method_1_code 9 = .ok (.aload_n 0, 1) := by decide +kernel
theorem d_prog_21_method_1_code_10 : decode prog_21_method_1_code 10 = .ok (.aload_n 2, 1) := by decide +kernel
theorem d_prog_21_method_1_code_11 : decode prog_21_method_1_code 11 = .ok (.putfield 13, 3) := by decide +kernel
theorem d_prog_21_method_1_code_14 : decode prog_21_method_1_code 14 = .ok (.aload_n 0, 1) := by decide +kernel
theorem d_prog_21_method_1_code_15 : decode prog_21_method_1_code 15 = .ok (.aload_n 3, 1) := by decide +kernel
theorem d_prog_21_method_1_code_16 : decode prog_21_method_1_code 16 = .ok (.putfield 16, 3) := by decide +kernel
theorem d_prog_21_method_1_code_19 : decode prog_21_method_1_code 19 = .ok (.return_, 1) := by decide +kernel
theorem pn_com_example_brisk_ledger_briskledger_LockName : plainName "com/example/brisk_ledger/briskledger/LockName" = true := by first | (simp [plainName, overriddenIn]; done) | decide +kernel
theorem ef_rm_lni (m : MethodId) (y0 : Addr) (y1 : Addr) (y2 : Addr) (y3 : Addr) : entryFrame m #[(.ref y0), (.ref y1), (.ref y2), (.ref y3)] 4 = mkF m 0 #[.val (.ref y0), .val (.ref y1), .val (.ref y2), .val (.ref y3)] [] := by first | (simp [entryFrame, mkF, argsToLocals, Value.category]; done) | rfl
def Q_rm_lni (Z : State) (a0' : Addr) (a1 : Addr) (a2 : Addr) (a3 : Addr) (h0 : Heap) (n0 : Nat) (v : Option Value) (h : Heap) (L : List Loc) : Prop := v = none ∧ Fr n0 L ∧ Keep h0 h [a0'] ∧ Exa Z h a0' "com/example/brisk_ledger/briskledger/LockName" ∧ Fld Z h a0' "com/example/brisk_ledger/briskledger/LockName" "namespace" "Ljava/lang/String;" (.ref a1) ∧ Fld Z h a0' "com/example/brisk_ledger/briskledger/LockName" "userId" "Ljava/lang/String;" (.ref a2) ∧ Fld Z h a0' "com/example/brisk_ledger/briskledger/LockName" "propertyId" "Ljava/lang/String;" (.ref a3)
set_option maxRecDepth 65536 in
set_option maxHeartbeats 40000000 in
theorem rm_lni (l : Launch) (Z : State) (a0 : Array Value) (hw : ∀ d ∈ tables_1, d.before a0 Z = true) (ws : List Jvm.Cond) (a0' : Addr) (a1 : Addr) (a2 : Addr) (a3 : Addr) (h0 : Heap) (n0 : Nat) (ga : n0 ≤ a0') (EA : Exa Z h0 a0' "com/example/brisk_ledger/briskledger/LockName") (F_namespace : Fld Z h0 a0' "com/example/brisk_ledger/briskledger/LockName" "namespace" "Ljava/lang/String;" .null) (F_userId : Fld Z h0 a0' "com/example/brisk_ledger/briskledger/LockName" "userId" "Ljava/lang/String;" .null) (F_propertyId : Fld Z h0 a0' "com/example/brisk_ledger/briskledger/LockName" "propertyId" "Ljava/lang/String;" .null) :
    MetFree l (⟨"com/example/brisk_ledger/briskledger/LockName", "<init>", "(Ljava/lang/String;Ljava/lang/String;Ljava/lang/String;)V"⟩ : MethodName) (head1 (Jvm.Cond.code (⟨"com/example/brisk_ledger/briskledger/LockName", "<init>", "(Ljava/lang/String;Ljava/lang/String;Ljava/lang/String;)V"⟩ : MethodName) prog_21_method_1_code 4 none :: ws) ({ frames := 1, cells := 0, slots := 0, locals := 12 } : Room)) (fun a U => a = #[(.ref a0'), (.ref a1), (.ref a2), (.ref a3)] ∧ Z.Warmed39 U.vm ∧ U.heap = h0) (fun _ _ _ _ _ => True) (fun _ U o U' => ∃ v L, o = .returned v ∧ Q_rm_lni Z a0' a1 a2 a3 h0 n0 v U'.heap L ∧ FrameEnd U o U' L 0 0) := by
  refine MetFree.of_bodySF (plainFor_of_name pn_com_example_brisk_ledger_briskledger_LockName) hisR ?_
  intro p e s m args below meth c s₁ Bd hml0 hP hK
  obtain ⟨rfl, hZ, hh⟩ := hP
  have hx := Bd.exec
  have hby := Bd.bytes
  have hlk := Bd.notSynchronized
  have hml : c.maxLocals = 4 := hml0
  have hown : s.vm.findClass "com/example/brisk_ledger/briskledger/LockName" = some m.cls := findClass_of_methodNamed Bd.named
  have hnm := (name_of_methodNamed Bd.named Bd.method).1
  have X0 : Stand p l e ({ frames := 1, cells := 0, slots := 0, locals := 12 } : Room) s m #[(.ref a0'), (.ref a1), (.ref a2), (.ref a3)] below meth c s₁ [] 0 0 := Stand.of_body Bd
  have e0 : s₁.heap = h0 := by rw [← hh, Bd.state]; rfl
  have N0 := Fr.nil n0
  show OwnEnd p e below s (Q_rm_lni Z a0' a1 a2 a3 h0 n0) 0 0 (s₁.setTop (entryFrame m #[(.ref a0'), (.ref a1), (.ref a2), (.ref a3)] 4))
  refine go (fun t k => castTop (ef_rm_lni m a0' a1 a2 a3) k) ?_
  have KK := Keep.refl h0 [a0']
  show OwnEnd _ _ _ _ _ _ _ (s₁.setTop (mkF m 0 #[.val (.ref a0'), .val (.ref a1), .val (.ref a2), .val (.ref a3)] []))
  refine go (fun _ k => by refine XS.aloadN X0.here hx rfl (hb hby d_prog_21_method_1_code_0) rfl rfl ?_; exact k) ?_
  show OwnEnd _ _ _ _ _ _ _ (s₁.setTop (mkF m 1 #[.val (.ref a0'), .val (.ref a1), .val (.ref a2), .val (.ref a3)] [(.ref a0')]))
  obtain ⟨T1, X1, e1, st1⟩ := initO X0 hx hZ hown (hw _ (List.mem_of_getElem? (i := 36) rfl)) (hw _ (List.mem_of_getElem? (i := 24) rfl)) (hw _ (List.mem_of_getElem? (i := 25) rfl)) e0 (g := (mkF m 1 #[.val (.ref a0'), .val (.ref a1), .val (.ref a2), .val (.ref a3)] [(.ref a0')])) rfl (by rw [hml]; rfl) rfl (hb hby d_prog_21_method_1_code_1) (by decide) (W := 0) (by show 2 * 0 + _ ≤ _; exact Nat.le_of_eq rfl) (by decide)
  refine go st1 ?_
  refine go (fun _ k => by refine XS.aloadN X1.here hx rfl (hb hby d_prog_21_method_1_code_4) rfl rfl ?_; exact k) ?_
  refine go (fun _ k => by refine XS.aloadN X1.here hx rfl (hb hby d_prog_21_method_1_code_5) rfl rfl ?_; exact k) ?_
  show OwnEnd _ _ _ _ _ _ _ (T1.setTop (mkF m 6 #[.val (.ref a0'), .val (.ref a1), .val (.ref a2), .val (.ref a3)] [(.ref a1), (.ref a0')]))
  obtain ⟨T2, h2, X2, e2, W2, st2⟩ := putF X1 hx hZ hown (host := "") (Or.inl (hw _ (List.mem_of_getElem? (i := 37) rfl))) Via.refl e1 F_namespace EA (Or.inr ⟨(hw _ (List.mem_of_getElem? (i := 38) rfl)), rfl, hnm⟩) (hw _ (List.mem_of_getElem? (i := 31) rfl)) (ty := (.object "java/lang/String")) (by decide) rfl rfl (g := (mkF m 6 #[.val (.ref a0'), .val (.ref a1), .val (.ref a2), .val (.ref a3)] [(.ref a1), (.ref a0')])) rfl rfl (hb hby d_prog_21_method_1_code_6)
  have N2 := Fr.snoc X2 N0 ga
  have EA := EA.wr W2
  have KK := Keep.wr KK W2 (Or.inl (List.mem_of_getElem? (i := 0) rfl))
  have F_userId := F_userId.other W2 (Or.inr (slot_ne (Or.inr (hw _ (List.mem_of_getElem? (i := 40) rfl))) (Or.inr (hw _ (List.mem_of_getElem? (i := 38) rfl))) (by decide) (t := (.object "java/lang/String")) (t' := (.object "java/lang/String")) (by decide) (by decide)))
  have F_propertyId := F_propertyId.other W2 (Or.inr (slot_ne (Or.inr (hw _ (List.mem_of_getElem? (i := 42) rfl))) (Or.inr (hw _ (List.mem_of_getElem? (i := 38) rfl))) (by decide) (t := (.object "java/lang/String")) (t' := (.object "java/lang/String")) (by decide) (by decide)))
  have F_namespace := F_namespace.same W2
  refine go st2 ?_
  refine go (fun _ k => by refine XS.aloadN X2.here hx rfl (hb hby d_prog_21_method_1_code_9) rfl rfl ?_; exact k) ?_
  refine go (fun _ k => by refine XS.aloadN X2.here hx rfl (hb hby d_prog_21_method_1_code_10) rfl rfl ?_; exact k) ?_
  show OwnEnd _ _ _ _ _ _ _ (T2.setTop (mkF m 11 #[.val (.ref a0'), .val (.ref a1), .val (.ref a2), .val (.ref a3)] [(.ref a2), (.ref a0')]))
  obtain ⟨T3, h3, X3, e3, W3, st3⟩ := putF X2 hx hZ hown (host := "") (Or.inl (hw _ (List.mem_of_getElem? (i := 39) rfl))) Via.refl e2 F_userId EA (Or.inr ⟨(hw _ (List.mem_of_getElem? (i := 40) rfl)), rfl, hnm⟩) (hw _ (List.mem_of_getElem? (i := 31) rfl)) (ty := (.object "java/lang/String")) (by decide) rfl rfl (g := (mkF m 11 #[.val (.ref a0'), .val (.ref a1), .val (.ref a2), .val (.ref a3)] [(.ref a2), (.ref a0')])) rfl rfl (hb hby d_prog_21_method_1_code_11)
  have N3 := Fr.snoc X3 N2 ga
  have EA := EA.wr W3
  have KK := Keep.wr KK W3 (Or.inl (List.mem_of_getElem? (i := 0) rfl))
  have F_namespace := F_namespace.other W3 (Or.inr (slot_ne (Or.inr (hw _ (List.mem_of_getElem? (i := 38) rfl))) (Or.inr (hw _ (List.mem_of_getElem? (i := 40) rfl))) (by decide) (t := (.object "java/lang/String")) (t' := (.object "java/lang/String")) (by decide) (by decide)))
  have F_propertyId := F_propertyId.other W3 (Or.inr (slot_ne (Or.inr (hw _ (List.mem_of_getElem? (i := 42) rfl))) (Or.inr (hw _ (List.mem_of_getElem? (i := 40) rfl))) (by decide) (t := (.object "java/lang/String")) (t' := (.object "java/lang/String")) (by decide) (by decide)))
  have F_userId := F_userId.same W3
  refine go st3 ?_
  refine go (fun _ k => by refine XS.aloadN X3.here hx rfl (hb hby d_prog_21_method_1_code_14) rfl rfl ?_; exact k) ?_
  refine go (fun _ k => by refine XS.aloadN X3.here hx rfl (hb hby d_prog_21_method_1_code_15) rfl rfl ?_; exact k) ?_
  show OwnEnd _ _ _ _ _ _ _ (T3.setTop (mkF m 16 #[.val (.ref a0'), .val (.ref a1), .val (.ref a2), .val (.ref a3)] [(.ref a3), (.ref a0')]))
  obtain ⟨T4, h4, X4, e4, W4, st4⟩ := putF X3 hx hZ hown (host := "") (Or.inl (hw _ (List.mem_of_getElem? (i := 41) rfl))) Via.refl e3 F_propertyId EA (Or.inr ⟨(hw _ (List.mem_of_getElem? (i := 42) rfl)), rfl, hnm⟩) (hw _ (List.mem_of_getElem? (i := 31) rfl)) (ty := (.object "java/lang/String")) (by decide) rfl rfl (g := (mkF m 16 #[.val (.ref a0'), .val (.ref a1), .val (.ref a2), .val (.ref a3)] [(.ref a3), (.ref a0')])) rfl rfl (hb hby d_prog_21_method_1_code_16)
  have N4 := Fr.snoc X4 N3 ga
  have EA := EA.wr W4
  have KK := Keep.wr KK W4 (Or.inl (List.mem_of_getElem? (i := 0) rfl))
  have F_namespace := F_namespace.other W4 (Or.inr (slot_ne (Or.inr (hw _ (List.mem_of_getElem? (i := 38) rfl))) (Or.inr (hw _ (List.mem_of_getElem? (i := 42) rfl))) (by decide) (t := (.object "java/lang/String")) (t' := (.object "java/lang/String")) (by decide) (by decide)))
  have F_userId := F_userId.other W4 (Or.inr (slot_ne (Or.inr (hw _ (List.mem_of_getElem? (i := 40) rfl))) (Or.inr (hw _ (List.mem_of_getElem? (i := 42) rfl))) (by decide) (t := (.object "java/lang/String")) (t' := (.object "java/lang/String")) (by decide) (by decide)))
  have F_propertyId := F_propertyId.same W4
  refine go st4 ?_
  show OwnEnd _ _ _ _ _ _ _ (T4.setTop (mkF m 19 #[.val (.ref a0'), .val (.ref a1), .val (.ref a2), .val (.ref a3)] []))
  refine endV X4 hx hlk Bd.returns (hb hby d_prog_21_method_1_code_19) e4 (by decide) (by decide) ?_
  exact ⟨rfl, N4, KK, EA, F_namespace, F_userId, F_propertyId⟩
theorem d_prog_21_method_5_code_0 : decode prog_21_method_5_code 0 = .ok (.aload_n 1, 1) := by decide +kernel
theorem d_prog_21_method_5_code_1 : decode prog_21_method_5_code 1 = .ok (.instanceof 8, 3) := by decide +kernel
theorem d_prog_21_method_5_code_4 : decode prog_21_method_5_code 4 = .ok (.ifCond .eq 54, 3) := by decide +kernel
theorem d_prog_21_method_5_code_7 : decode prog_21_method_5_code 7 = .ok (.aload_n 1, 1) := by decide +kernel
theorem d_prog_21_method_5_code_8 : decode prog_21_method_5_code 8 = .ok (.checkcast 8, 3) := by decide +kernel
theorem d_prog_21_method_5_code_11 : decode prog_21_method_5_code 11 = .ok (.astore_n 2, 1) := by decide +kernel
theorem d_prog_21_method_5_code_12 : decode prog_21_method_5_code 12 = .ok (.aload_n 0, 1) := by decide +kernel
theorem d_prog_21_method_5_code_13 : decode prog_21_method_5_code 13 = .ok (.getfield 7, 3) := by decide +kernel
theorem d_prog_21_method_5_code_16 : decode prog_21_method_5_code 16 = .ok (.aload_n 2, 1) := by decide +kernel
theorem d_prog_21_method_5_code_17 : decode prog_21_method_5_code 17 = .ok (.getfield 7, 3) := by decide +kernel
theorem d_prog_21_method_5_code_20 : decode prog_21_method_5_code 20 = .ok (.invokevirtual 19, 3) := by decide +kernel
theorem pd__Ljava_lang_Object__Z : parseMethodDescriptor "(Ljava/lang/Object;)Z" = some ⟨[(.object "java/lang/Object")], some .boolean⟩ := by decide +kernel
theorem d_prog_21_method_5_code_23 : decode prog_21_method_5_code 23 = .ok (.ifCond .eq 35, 3) := by decide +kernel
theorem d_prog_21_method_5_code_58 : decode prog_21_method_5_code 58 = .ok (.iconst 0, 1) := by decide +kernel
theorem d_prog_21_method_5_code_59 : decode prog_21_method_5_code 59 = .ok (.ireturn, 1) := by decide +kernel
theorem d_prog_21_method_5_code_26 : decode prog_21_method_5_code 26 = .ok (.aload_n 0, 1) := by decide +kernel
theorem d_prog_21_method_5_code_27 : decode prog_21_method_5_code 27 = .ok (.getfield 13, 3) := by decide +kernel
theorem d_prog_21_method_5_code_30 : decode prog_21_method_5_code 30 = .ok (.aload_n 2, 1) := by decide +kernel
theorem d_prog_21_method_5_code_31 : decode prog_21_method_5_code 31 = .ok (.getfield 13, 3) := by decide +kernel
theorem d_prog_21_method_5_code_34 : decode prog_21_method_5_code 34 = .ok (.invokevirtual 19, 3) := by decide +kernel
theorem d_prog_21_method_5_code_37 : decode prog_21_method_5_code 37 = .ok (.ifCond .eq 21, 3) := by decide +kernel
theorem d_prog_21_method_5_code_40 : decode prog_21_method_5_code 40 = .ok (.aload_n 0, 1) := by decide +kernel
theorem d_prog_21_method_5_code_41 : decode prog_21_method_5_code 41 = .ok (.getfield 16, 3) := by decide +kernel
theorem d_prog_21_method_5_code_44 : decode prog_21_method_5_code 44 = .ok (.aload_n 2, 1) := by decide +kernel
theorem d_prog_21_method_5_code_45 : decode prog_21_method_5_code 45 = .ok (.getfield 16, 3) := by decide +kernel
theorem d_prog_21_method_5_code_48 : decode prog_21_method_5_code 48 = .ok (.invokevirtual 19, 3) := by decide +kernel
theorem d_prog_21_method_5_code_51 : decode prog_21_method_5_code 51 = .ok (.ifCond .eq 7, 3) := by decide +kernel
theorem d_prog_21_method_5_code_54 : decode prog_21_method_5_code 54 = .ok (.iconst 1, 1) := by decide +kernel
theorem d_prog_21_method_5_code_55 : decode prog_21_method_5_code 55 = .ok (.goto 4, 3) := by decide +kernel
theorem ef_rm_eqv (m : MethodId) (y0 : Addr) (y1 : Addr) : entryFrame m #[(.ref y0), (.ref y1)] 3 = mkF m 0 #[.val (.ref y0), .val (.ref y1), .unset] [] := by first | (simp [entryFrame, mkF, argsToLocals, Value.category]; done) | rfl
def Q_rm_eqv (Z : State) (a0' : Addr) (a1' : Addr) (x1 : Addr) (x2 : Addr) (x3 : Addr) (y1 : Addr) (y2 : Addr) (y3 : Addr) (tx1 : Addr) (tx2 : Addr) (tx3 : Addr) (ty1 : Addr) (ty2 : Addr) (ty3 : Addr) (kx1 : ClassId) (kx2 : ClassId) (kx3 : ClassId) (ky1 : ClassId) (ky2 : ClassId) (ky3 : ClassId) (cx1 : List Int32) (cx2 : List Int32) (cx3 : List Int32) (cy1 : List Int32) (cy2 : List Int32) (cy3 : List Int32) (cs : Int32) (h0 : Heap) (n0 : Nat) (v : Option Value) (h : Heap) (L : List Loc) : Prop := v = some (.int (if own_eq3 cx1 cx2 cx3 cy1 cy2 cy3 then (1 : Int32) else 0)) ∧ Fr n0 L ∧ h = h0
set_option maxRecDepth 65536 in
set_option maxHeartbeats 40000000 in
theorem rm_eqv (l : Launch) (Z : State) (a0 : Array Value) (hw : ∀ d ∈ tables_1, d.before a0 Z = true) (ws : List Jvm.Cond) (a0' : Addr) (a1' : Addr) (x1 : Addr) (x2 : Addr) (x3 : Addr) (y1 : Addr) (y2 : Addr) (y3 : Addr) (tx1 : Addr) (tx2 : Addr) (tx3 : Addr) (ty1 : Addr) (ty2 : Addr) (ty3 : Addr) (kx1 : ClassId) (kx2 : ClassId) (kx3 : ClassId) (ky1 : ClassId) (ky2 : ClassId) (ky3 : ClassId) (cx1 : List Int32) (cx2 : List Int32) (cx3 : List Int32) (cy1 : List Int32) (cy2 : List Int32) (cy3 : List Int32) (cs : Int32) (h0 : Heap) (n0 : Nat) (F0 : Fld Z h0 a0' "com/example/brisk_ledger/briskledger/LockName" "namespace" "Ljava/lang/String;" (.ref x1)) (F1 : Fld Z h0 a0' "com/example/brisk_ledger/briskledger/LockName" "userId" "Ljava/lang/String;" (.ref x2)) (F2 : Fld Z h0 a0' "com/example/brisk_ledger/briskledger/LockName" "propertyId" "Ljava/lang/String;" (.ref x3)) (F3 : Fld Z h0 a1' "com/example/brisk_ledger/briskledger/LockName" "namespace" "Ljava/lang/String;" (.ref y1)) (F4 : Fld Z h0 a1' "com/example/brisk_ledger/briskledger/LockName" "userId" "Ljava/lang/String;" (.ref y2)) (F5 : Fld Z h0 a1' "com/example/brisk_ledger/briskledger/LockName" "propertyId" "Ljava/lang/String;" (.ref y3)) (EB : Exa Z h0 a1' "com/example/brisk_ledger/briskledger/LockName") (Ex1 : Exa Z h0 x1 "java/lang/String") (Vx1 : Fld Z h0 x1 "java/lang/String" "value" "[B" (.ref tx1)) (Dx1 : Fld Z h0 x1 "java/lang/String" "coder" "B" (.int 0)) (Ax1 : Arv Z h0 tx1 kx1 .byte (Int32.ofNat cx1.length) (own_vs cx1) (.int 0)) (hcx1 : ∀ c ∈ cx1, ¬ c < 0 ∧ ¬ (255 : Int32) < c) (lcx1 : cx1.length ≤ 4000) (Ex2 : Exa Z h0 x2 "java/lang/String") (Vx2 : Fld Z h0 x2 "java/lang/String" "value" "[B" (.ref tx2)) (Dx2 : Fld Z h0 x2 "java/lang/String" "coder" "B" (.int 0)) (Ax2 : Arv Z h0 tx2 kx2 .byte (Int32.ofNat cx2.length) (own_vs cx2) (.int 0)) (hcx2 : ∀ c ∈ cx2, ¬ c < 0 ∧ ¬ (255 : Int32) < c) (lcx2 : cx2.length ≤ 4000) (Ex3 : Exa Z h0 x3 "java/lang/String") (Vx3 : Fld Z h0 x3 "java/lang/String" "value" "[B" (.ref tx3)) (Dx3 : Fld Z h0 x3 "java/lang/String" "coder" "B" (.int 0)) (Ax3 : Arv Z h0 tx3 kx3 .byte (Int32.ofNat cx3.length) (own_vs cx3) (.int 0)) (hcx3 : ∀ c ∈ cx3, ¬ c < 0 ∧ ¬ (255 : Int32) < c) (lcx3 : cx3.length ≤ 4000) (Ey1 : Exa Z h0 y1 "java/lang/String") (Vy1 : Fld Z h0 y1 "java/lang/String" "value" "[B" (.ref ty1)) (Dy1 : Fld Z h0 y1 "java/lang/String" "coder" "B" (.int 0)) (Ay1 : Arv Z h0 ty1 ky1 .byte (Int32.ofNat cy1.length) (own_vs cy1) (.int 0)) (hcy1 : ∀ c ∈ cy1, ¬ c < 0 ∧ ¬ (255 : Int32) < c) (lcy1 : cy1.length ≤ 4000) (Ey2 : Exa Z h0 y2 "java/lang/String") (Vy2 : Fld Z h0 y2 "java/lang/String" "value" "[B" (.ref ty2)) (Dy2 : Fld Z h0 y2 "java/lang/String" "coder" "B" (.int 0)) (Ay2 : Arv Z h0 ty2 ky2 .byte (Int32.ofNat cy2.length) (own_vs cy2) (.int 0)) (hcy2 : ∀ c ∈ cy2, ¬ c < 0 ∧ ¬ (255 : Int32) < c) (lcy2 : cy2.length ≤ 4000) (Ey3 : Exa Z h0 y3 "java/lang/String") (Vy3 : Fld Z h0 y3 "java/lang/String" "value" "[B" (.ref ty3)) (Dy3 : Fld Z h0 y3 "java/lang/String" "coder" "B" (.int 0)) (Ay3 : Arv Z h0 ty3 ky3 .byte (Int32.ofNat cy3.length) (own_vs cy3) (.int 0)) (hcy3 : ∀ c ∈ cy3, ¬ c < 0 ∧ ¬ (255 : Int32) < c) (lcy3 : cy3.length ≤ 4000) (O : Old Z n0 h0) (SC0 : Sta Z Z.heap "java/lang/String" "COMPACT_STRINGS" "Z" (.int cs)) (c1 : ¬ cs = (0 : Int32)) :
    MetFree l (⟨"com/example/brisk_ledger/briskledger/LockName", "equals", "(Ljava/lang/Object;)Z"⟩ : MethodName) (head1 (Jvm.Cond.code (⟨"com/example/brisk_ledger/briskledger/LockName", "equals", "(Ljava/lang/Object;)Z"⟩ : MethodName) prog_21_method_5_code 3 (some .boolean) :: ws) ({ frames := 2, cells := 0, slots := 0, locals := 28 } : Room)) (fun a U => a = #[(.ref a0'), (.ref a1')] ∧ Z.Warmed39 U.vm ∧ U.heap = h0) (fun _ _ _ _ _ => True) (fun _ U o U' => ∃ v L, o = .returned v ∧ Q_rm_eqv Z a0' a1' x1 x2 x3 y1 y2 y3 tx1 tx2 tx3 ty1 ty2 ty3 kx1 kx2 kx3 ky1 ky2 ky3 cx1 cx2 cx3 cy1 cy2 cy3 cs h0 n0 v U'.heap L ∧ FrameEnd U o U' L 0 0) := by
  refine MetFree.of_bodySF (plainFor_of_name pn_com_example_brisk_ledger_briskledger_LockName) hisR ?_
  intro p e s m args below meth c s₁ Bd hml0 hP hK
  obtain ⟨rfl, hZ, hh⟩ := hP
  have hx := Bd.exec
  have hby := Bd.bytes
  have hlk := Bd.notSynchronized
  have hml : c.maxLocals = 3 := hml0
  have hown : s.vm.findClass "com/example/brisk_ledger/briskledger/LockName" = some m.cls := findClass_of_methodNamed Bd.named
  have hnm := (name_of_methodNamed Bd.named Bd.method).1
  have X0 : Stand p l e ({ frames := 2, cells := 0, slots := 0, locals := 28 } : Room) s m #[(.ref a0'), (.ref a1')] below meth c s₁ [] 0 0 := Stand.of_body Bd
  have e0 : s₁.heap = h0 := by rw [← hh, Bd.state]; rfl
  have N0 := Fr.nil n0
  show OwnEnd p e below s (Q_rm_eqv Z a0' a1' x1 x2 x3 y1 y2 y3 tx1 tx2 tx3 ty1 ty2 ty3 kx1 kx2 kx3 ky1 ky2 ky3 cx1 cx2 cx3 cy1 cy2 cy3 cs h0 n0) 0 0 (s₁.setTop (entryFrame m #[(.ref a0'), (.ref a1')] 3))
  refine go (fun t k => castTop (ef_rm_eqv m a0' a1') k) ?_
  have SC := SC0.ext O.2
  show OwnEnd _ _ _ _ _ _ _ (s₁.setTop (mkF m 0 #[.val (.ref a0'), .val (.ref a1'), .unset] []))
  refine go (fun _ k => by refine XS.aloadN X0.here hx rfl (hb hby d_prog_21_method_5_code_0) rfl rfl ?_; exact k) ?_
  show OwnEnd _ _ _ _ _ _ _ (s₁.setTop (mkF m 1 #[.val (.ref a0'), .val (.ref a1'), .unset] [(.ref a1')]))
  obtain ⟨T1, X1, e1, st1⟩ := instY X0 hx hZ hown (hw _ (List.mem_of_getElem? (i := 51) rfl)) e0 (Ins.self EB) (g := (mkF m 1 #[.val (.ref a0'), .val (.ref a1'), .unset] [(.ref a1')])) rfl rfl (hb hby d_prog_21_method_5_code_1)
  refine go st1 ?_
  show OwnEnd _ _ _ _ _ _ _ (T1.setTop (mkF m 4 #[.val (.ref a0'), .val (.ref a1'), .unset] [(.int (1 : Int32))]))
  refine go (fun _ k => by refine XS.ifNo X1.here hx rfl (hb hby d_prog_21_method_5_code_4) rfl ((if0 _ _).trans (feq (by decide)).1) ?_; exact k) ?_
  refine go (fun _ k => by refine XS.aloadN X1.here hx rfl (hb hby d_prog_21_method_5_code_7) rfl rfl ?_; exact k) ?_
  show OwnEnd _ _ _ _ _ _ _ (T1.setTop (mkF m 8 #[.val (.ref a0'), .val (.ref a1'), .unset] [(.ref a1')]))
  obtain ⟨T2, X2, e2, st2⟩ := castY X1 hx hZ hown (hw _ (List.mem_of_getElem? (i := 51) rfl)) e1 (Ins.self EB) (g := (mkF m 8 #[.val (.ref a0'), .val (.ref a1'), .unset] [(.ref a1')])) rfl rfl (hb hby d_prog_21_method_5_code_8)
  refine go st2 ?_
  refine go (fun _ k => by refine XS.astoreN X2.here hx rfl (hb hby d_prog_21_method_5_code_11) rfl rfl (l' := #[.val (.ref a0'), .val (.ref a1'), .val (.ref a1')]) rfl ?_; exact k) ?_
  refine go (fun _ k => by refine XS.aloadN X2.here hx rfl (hb hby d_prog_21_method_5_code_12) rfl rfl ?_; exact k) ?_
  show OwnEnd _ _ _ _ _ _ _ (T2.setTop (mkF m 13 #[.val (.ref a0'), .val (.ref a1'), .val (.ref a1')] [(.ref a0')]))
  obtain ⟨T3, X3, e3, st3⟩ := getF X2 hx hZ hown (host := "") (Or.inl (hw _ (List.mem_of_getElem? (i := 37) rfl))) Via.refl e2 F0 (g := (mkF m 13 #[.val (.ref a0'), .val (.ref a1'), .val (.ref a1')] [(.ref a0')])) rfl rfl (hb hby d_prog_21_method_5_code_13)
  refine go st3 ?_
  refine go (fun _ k => by refine XS.aloadN X3.here hx rfl (hb hby d_prog_21_method_5_code_16) rfl rfl ?_; exact k) ?_
  show OwnEnd _ _ _ _ _ _ _ (T3.setTop (mkF m 17 #[.val (.ref a0'), .val (.ref a1'), .val (.ref a1')] [(.ref a1'), (.ref x1)]))
  obtain ⟨T4, X4, e4, st4⟩ := getF X3 hx hZ hown (host := "") (Or.inl (hw _ (List.mem_of_getElem? (i := 37) rfl))) Via.refl e3 F3 (g := (mkF m 17 #[.val (.ref a0'), .val (.ref a1'), .val (.ref a1')] [(.ref a1'), (.ref x1)])) rfl rfl (hb hby d_prog_21_method_5_code_17)
  refine go st4 ?_
  show OwnEnd _ _ _ _ _ _ _ (T4.setTop (mkF m 20 #[.val (.ref a0'), .val (.ref a1'), .val (.ref a1')] [(.ref y1), (.ref x1)]))
  obtain ⟨_, T5, L5, X5, hQ5, st5⟩ := callVirtB X4 hx hZ hown (hw _ (List.mem_of_getElem? (i := 53) rfl)) (hw _ (List.mem_of_getElem? (i := 54) rfl)) (notFace_of_selects (args := #[]) (mvT hZ (hw _ (List.mem_of_getElem? (i := 56) rfl)))) (hw _ (List.mem_of_getElem? (i := 56) rfl)) (hw _ (List.mem_of_getElem? (i := 55) rfl)) (by decide) (Qc := fun v hp L => ((v = some (.int 1) ∧ cx1 = cy1) ∨ (v = some (.int 0) ∧ ¬ cx1 = cy1)) ∧ L = [] ∧ hp = h0) (StrChars.Road.eqW (W := 0) hZ (fun d hd => hw d ((by decide +kernel : ∀ d ∈ StrChars.Road.wordsEq, d ∈ tables_1) d hd)) (kI := 4) (hw _ (List.mem_of_getElem? (i := 14) rfl)) Ex1 Vx1 Dx1 Ax1 (StrChars.Road.codOf rfl (fun c hc => (hcx1 c hc).2)) (own_up _ hcx1) lcx1 Ey1 Vy1 Dy1 Ay1 (StrChars.Road.codOf rfl (fun c hc => (hcy1 c hc).2)) (own_up _ hcy1) lcy1 SC c1 (by decide) (by decide)) e4 Ex1 (g := (mkF m 20 #[.val (.ref a0'), .val (.ref a1'), .val (.ref a1')] [(.ref y1), (.ref x1)])) rfl (by rw [hml]; rfl) (argsL := [(.ref y1)]) (rest := []) rfl (lenOf pd__Ljava_lang_Object__Z rfl) rfl (by show 2 * 0 + _ ≤ _; exact Nat.le_of_eq rfl) (hb hby d_prog_21_method_5_code_20) (by decide) (by decide)
  obtain ⟨hv5, rfl, eq5⟩ := hQ5
  obtain rfl := own_eqv hv5
  have X5 := X5
  rw [List.append_nil] at X5
  refine go st5 ?_
  show OwnEnd _ _ _ _ _ _ _ (T5.setTop (mkF m 23 #[.val (.ref a0'), .val (.ref a1'), .val (.ref a1')] [(.int (if cx1 = cy1 then (1 : Int32) else 0))]))
  by_cases hc23_6 : (if cx1 = cy1 then (1 : Int32) else 0) = (0 : Int32)
  · refine go (fun _ k => by refine XS.ifYes X5.here hx rfl (pc0 := 23) (pc' := 58) rfl (hb hby d_prog_21_method_5_code_23) rfl ((if0 _ _).trans (teq hc23_6).1) (by decide) (by decide) ?_; exact k) ?_
    show OwnEnd _ _ _ _ _ _ _ (T5.setTop (mkF m 58 #[.val (.ref a0'), .val (.ref a1'), .val (.ref a1')] []))
    refine go (fun _ k => by refine XS.iconst X5.here hx rfl (hb hby d_prog_21_method_5_code_58) ?_; exact k) ?_
    show OwnEnd _ _ _ _ _ _ _ (T5.setTop (mkF m 59 #[.val (.ref a0'), .val (.ref a1'), .val (.ref a1')] [(.int (0 : Int32))]))
    refine endN X5 hx hlk (t := .boolean) (by simp) Bd.returns (hb hby d_prog_21_method_5_code_59) eq5 (by decide) (by decide) ?_
    exact ⟨by rw [if_neg (fun q => own_f hc23_6 q.1)]; rfl, N0, rfl⟩
  · refine go (fun _ k => by refine XS.ifNo X5.here hx rfl (hb hby d_prog_21_method_5_code_23) rfl ((if0 _ _).trans (feq hc23_6).1) ?_; exact k) ?_
    show OwnEnd _ _ _ _ _ _ _ (T5.setTop (mkF m 26 #[.val (.ref a0'), .val (.ref a1'), .val (.ref a1')] []))
    refine go (fun _ k => by refine XS.aloadN X5.here hx rfl (hb hby d_prog_21_method_5_code_26) rfl rfl ?_; exact k) ?_
    show OwnEnd _ _ _ _ _ _ _ (T5.setTop (mkF m 27 #[.val (.ref a0'), .val (.ref a1'), .val (.ref a1')] [(.ref a0')]))
    obtain ⟨T7, X7, e7, st7⟩ := getF X5 hx hZ hown (host := "") (Or.inl (hw _ (List.mem_of_getElem? (i := 39) rfl))) Via.refl eq5 F1 (g := (mkF m 27 #[.val (.ref a0'), .val (.ref a1'), .val (.ref a1')] [(.ref a0')])) rfl rfl (hb hby d_prog_21_method_5_code_27)
    refine go st7 ?_
    refine go (fun _ k => by refine XS.aloadN X7.here hx rfl (hb hby d_prog_21_method_5_code_30) rfl rfl ?_; exact k) ?_
    show OwnEnd _ _ _ _ _ _ _ (T7.setTop (mkF m 31 #[.val (.ref a0'), .val (.ref a1'), .val (.ref a1')] [(.ref a1'), (.ref x2)]))
    obtain ⟨T8, X8, e8, st8⟩ := getF X7 hx hZ hown (host := "") (Or.inl (hw _ (List.mem_of_getElem? (i := 39) rfl))) Via.refl e7 F4 (g := (mkF m 31 #[.val (.ref a0'), .val (.ref a1'), .val (.ref a1')] [(.ref a1'), (.ref x2)])) rfl rfl (hb hby d_prog_21_method_5_code_31)
    refine go st8 ?_
    show OwnEnd _ _ _ _ _ _ _ (T8.setTop (mkF m 34 #[.val (.ref a0'), .val (.ref a1'), .val (.ref a1')] [(.ref y2), (.ref x2)]))
    obtain ⟨_, T9, L9, X9, hQ9, st9⟩ := callVirtB X8 hx hZ hown (hw _ (List.mem_of_getElem? (i := 53) rfl)) (hw _ (List.mem_of_getElem? (i := 54) rfl)) (notFace_of_selects (args := #[]) (mvT hZ (hw _ (List.mem_of_getElem? (i := 56) rfl)))) (hw _ (List.mem_of_getElem? (i := 56) rfl)) (hw _ (List.mem_of_getElem? (i := 55) rfl)) (by decide) (Qc := fun v hp L => ((v = some (.int 1) ∧ cx2 = cy2) ∨ (v = some (.int 0) ∧ ¬ cx2 = cy2)) ∧ L = [] ∧ hp = h0) (StrChars.Road.eqW (W := 0) hZ (fun d hd => hw d ((by decide +kernel : ∀ d ∈ StrChars.Road.wordsEq, d ∈ tables_1) d hd)) (kI := 4) (hw _ (List.mem_of_getElem? (i := 14) rfl)) Ex2 Vx2 Dx2 Ax2 (StrChars.Road.codOf rfl (fun c hc => (hcx2 c hc).2)) (own_up _ hcx2) lcx2 Ey2 Vy2 Dy2 Ay2 (StrChars.Road.codOf rfl (fun c hc => (hcy2 c hc).2)) (own_up _ hcy2) lcy2 SC c1 (by decide) (by decide)) e8 Ex2 (g := (mkF m 34 #[.val (.ref a0'), .val (.ref a1'), .val (.ref a1')] [(.ref y2), (.ref x2)])) rfl (by rw [hml]; rfl) (argsL := [(.ref y2)]) (rest := []) rfl (lenOf pd__Ljava_lang_Object__Z rfl) rfl (by show 2 * 0 + _ ≤ _; exact Nat.le_of_eq rfl) (hb hby d_prog_21_method_5_code_34) (by decide) (by decide)
    obtain ⟨hv9, rfl, eq9⟩ := hQ9
    obtain rfl := own_eqv hv9
    have X9 := X9
    rw [List.append_nil] at X9
    refine go st9 ?_
    show OwnEnd _ _ _ _ _ _ _ (T9.setTop (mkF m 37 #[.val (.ref a0'), .val (.ref a1'), .val (.ref a1')] [(.int (if cx2 = cy2 then (1 : Int32) else 0))]))
    by_cases hc37_10 : (if cx2 = cy2 then (1 : Int32) else 0) = (0 : Int32)
    · refine go (fun _ k => by refine XS.ifYes X9.here hx rfl (pc0 := 37) (pc' := 58) rfl (hb hby d_prog_21_method_5_code_37) rfl ((if0 _ _).trans (teq hc37_10).1) (by decide) (by decide) ?_; exact k) ?_
      show OwnEnd _ _ _ _ _ _ _ (T9.setTop (mkF m 58 #[.val (.ref a0'), .val (.ref a1'), .val (.ref a1')] []))
      refine go (fun _ k => by refine XS.iconst X9.here hx rfl (hb hby d_prog_21_method_5_code_58) ?_; exact k) ?_
      show OwnEnd _ _ _ _ _ _ _ (T9.setTop (mkF m 59 #[.val (.ref a0'), .val (.ref a1'), .val (.ref a1')] [(.int (0 : Int32))]))
      refine endN X9 hx hlk (t := .boolean) (by simp) Bd.returns (hb hby d_prog_21_method_5_code_59) eq9 (by decide) (by decide) ?_
      exact ⟨by rw [if_neg (fun q => own_f hc37_10 q.2.1)]; rfl, N0, rfl⟩
    · refine go (fun _ k => by refine XS.ifNo X9.here hx rfl (hb hby d_prog_21_method_5_code_37) rfl ((if0 _ _).trans (feq hc37_10).1) ?_; exact k) ?_
      show OwnEnd _ _ _ _ _ _ _ (T9.setTop (mkF m 40 #[.val (.ref a0'), .val (.ref a1'), .val (.ref a1')] []))
      refine go (fun _ k => by refine XS.aloadN X9.here hx rfl (hb hby d_prog_21_method_5_code_40) rfl rfl ?_; exact k) ?_
      show OwnEnd _ _ _ _ _ _ _ (T9.setTop (mkF m 41 #[.val (.ref a0'), .val (.ref a1'), .val (.ref a1')] [(.ref a0')]))
      obtain ⟨T11, X11, e11, st11⟩ := getF X9 hx hZ hown (host := "") (Or.inl (hw _ (List.mem_of_getElem? (i := 41) rfl))) Via.refl eq9 F2 (g := (mkF m 41 #[.val (.ref a0'), .val (.ref a1'), .val (.ref a1')] [(.ref a0')])) rfl rfl (hb hby d_prog_21_method_5_code_41)
      refine go st11 ?_
      refine go (fun _ k => by refine XS.aloadN X11.here hx rfl (hb hby d_prog_21_method_5_code_44) rfl rfl ?_; exact k) ?_
      show OwnEnd _ _ _ _ _ _ _ (T11.setTop (mkF m 45 #[.val (.ref a0'), .val (.ref a1'), .val (.ref a1')] [(.ref a1'), (.ref x3)]))
      obtain ⟨T12, X12, e12, st12⟩ := getF X11 hx hZ hown (host := "") (Or.inl (hw _ (List.mem_of_getElem? (i := 41) rfl))) Via.refl e11 F5 (g := (mkF m 45 #[.val (.ref a0'), .val (.ref a1'), .val (.ref a1')] [(.ref a1'), (.ref x3)])) rfl rfl (hb hby d_prog_21_method_5_code_45)
      refine go st12 ?_
      show OwnEnd _ _ _ _ _ _ _ (T12.setTop (mkF m 48 #[.val (.ref a0'), .val (.ref a1'), .val (.ref a1')] [(.ref y3), (.ref x3)]))
      obtain ⟨_, T13, L13, X13, hQ13, st13⟩ := callVirtB X12 hx hZ hown (hw _ (List.mem_of_getElem? (i := 53) rfl)) (hw _ (List.mem_of_getElem? (i := 54) rfl)) (notFace_of_selects (args := #[]) (mvT hZ (hw _ (List.mem_of_getElem? (i := 56) rfl)))) (hw _ (List.mem_of_getElem? (i := 56) rfl)) (hw _ (List.mem_of_getElem? (i := 55) rfl)) (by decide) (Qc := fun v hp L => ((v = some (.int 1) ∧ cx3 = cy3) ∨ (v = some (.int 0) ∧ ¬ cx3 = cy3)) ∧ L = [] ∧ hp = h0) (StrChars.Road.eqW (W := 0) hZ (fun d hd => hw d ((by decide +kernel : ∀ d ∈ StrChars.Road.wordsEq, d ∈ tables_1) d hd)) (kI := 4) (hw _ (List.mem_of_getElem? (i := 14) rfl)) Ex3 Vx3 Dx3 Ax3 (StrChars.Road.codOf rfl (fun c hc => (hcx3 c hc).2)) (own_up _ hcx3) lcx3 Ey3 Vy3 Dy3 Ay3 (StrChars.Road.codOf rfl (fun c hc => (hcy3 c hc).2)) (own_up _ hcy3) lcy3 SC c1 (by decide) (by decide)) e12 Ex3 (g := (mkF m 48 #[.val (.ref a0'), .val (.ref a1'), .val (.ref a1')] [(.ref y3), (.ref x3)])) rfl (by rw [hml]; rfl) (argsL := [(.ref y3)]) (rest := []) rfl (lenOf pd__Ljava_lang_Object__Z rfl) rfl (by show 2 * 0 + _ ≤ _; exact Nat.le_of_eq rfl) (hb hby d_prog_21_method_5_code_48) (by decide) (by decide)
      obtain ⟨hv13, rfl, eq13⟩ := hQ13
      obtain rfl := own_eqv hv13
      have X13 := X13
      rw [List.append_nil] at X13
      refine go st13 ?_
      show OwnEnd _ _ _ _ _ _ _ (T13.setTop (mkF m 51 #[.val (.ref a0'), .val (.ref a1'), .val (.ref a1')] [(.int (if cx3 = cy3 then (1 : Int32) else 0))]))
      by_cases hc51_14 : (if cx3 = cy3 then (1 : Int32) else 0) = (0 : Int32)
      · refine go (fun _ k => by refine XS.ifYes X13.here hx rfl (pc0 := 51) (pc' := 58) rfl (hb hby d_prog_21_method_5_code_51) rfl ((if0 _ _).trans (teq hc51_14).1) (by decide) (by decide) ?_; exact k) ?_
        show OwnEnd _ _ _ _ _ _ _ (T13.setTop (mkF m 58 #[.val (.ref a0'), .val (.ref a1'), .val (.ref a1')] []))
        refine go (fun _ k => by refine XS.iconst X13.here hx rfl (hb hby d_prog_21_method_5_code_58) ?_; exact k) ?_
        show OwnEnd _ _ _ _ _ _ _ (T13.setTop (mkF m 59 #[.val (.ref a0'), .val (.ref a1'), .val (.ref a1')] [(.int (0 : Int32))]))
        refine endN X13 hx hlk (t := .boolean) (by simp) Bd.returns (hb hby d_prog_21_method_5_code_59) eq13 (by decide) (by decide) ?_
        exact ⟨by rw [if_neg (fun q => own_f hc51_14 q.2.2)]; rfl, N0, rfl⟩
      · refine go (fun _ k => by refine XS.ifNo X13.here hx rfl (hb hby d_prog_21_method_5_code_51) rfl ((if0 _ _).trans (feq hc51_14).1) ?_; exact k) ?_
        show OwnEnd _ _ _ _ _ _ _ (T13.setTop (mkF m 54 #[.val (.ref a0'), .val (.ref a1'), .val (.ref a1')] []))
        refine go (fun _ k => by refine XS.iconst X13.here hx rfl (hb hby d_prog_21_method_5_code_54) ?_; exact k) ?_
        refine go (fun _ k => by refine XS.goto X13.here hx rfl (pc0 := 55) (pc' := 59) rfl (hb hby d_prog_21_method_5_code_55) (by decide) (by decide) ?_; exact k) ?_
        show OwnEnd _ _ _ _ _ _ _ (T13.setTop (mkF m 59 #[.val (.ref a0'), .val (.ref a1'), .val (.ref a1')] [(.int (1 : Int32))]))
        refine endN X13 hx hlk (t := .boolean) (by simp) Bd.returns (hb hby d_prog_21_method_5_code_59) eq13 (by decide) (by decide) ?_
        exact ⟨by rw [if_pos ⟨own_t hc23_6, own_t hc37_10, own_t hc51_14⟩]; rfl, N0, rfl⟩
theorem ef_rm_eqn (m : MethodId) (y0 : Addr) : entryFrame m #[(.ref y0), .null] 3 = mkF m 0 #[.val (.ref y0), .val .null, .unset] [] := by first | (simp [entryFrame, mkF, argsToLocals, Value.category]; done) | rfl
def Q_rm_eqn (Z : State) (a0' : Addr) (h0 : Heap) (n0 : Nat) (v : Option Value) (h : Heap) (L : List Loc) : Prop := v = some (.int 0) ∧ Fr n0 L ∧ h = h0
set_option maxRecDepth 65536 in
set_option maxHeartbeats 40000000 in
theorem rm_eqn (l : Launch) (Z : State) (a0 : Array Value) (hw : ∀ d ∈ tables_1, d.before a0 Z = true) (ws : List Jvm.Cond) (a0' : Addr) (h0 : Heap) (n0 : Nat) :
    MetFree l (⟨"com/example/brisk_ledger/briskledger/LockName", "equals", "(Ljava/lang/Object;)Z"⟩ : MethodName) (head1 (Jvm.Cond.code (⟨"com/example/brisk_ledger/briskledger/LockName", "equals", "(Ljava/lang/Object;)Z"⟩ : MethodName) prog_21_method_5_code 3 (some .boolean) :: ws) ({ frames := 0, cells := 0, slots := 0, locals := 0 } : Room)) (fun a U => a = #[(.ref a0'), .null] ∧ Z.Warmed39 U.vm ∧ U.heap = h0) (fun _ _ _ _ _ => True) (fun _ U o U' => ∃ v L, o = .returned v ∧ Q_rm_eqn Z a0' h0 n0 v U'.heap L ∧ FrameEnd U o U' L 0 0) := by
  refine MetFree.of_bodySF (plainFor_of_name pn_com_example_brisk_ledger_briskledger_LockName) hisR ?_
  intro p e s m args below meth c s₁ Bd hml0 hP hK
  obtain ⟨rfl, hZ, hh⟩ := hP
  have hx := Bd.exec
  have hby := Bd.bytes
  have hlk := Bd.notSynchronized
  have hml : c.maxLocals = 3 := hml0
  have hown : s.vm.findClass "com/example/brisk_ledger/briskledger/LockName" = some m.cls := findClass_of_methodNamed Bd.named
  have hnm := (name_of_methodNamed Bd.named Bd.method).1
  have X0 : Stand p l e ({ frames := 0, cells := 0, slots := 0, locals := 0 } : Room) s m #[(.ref a0'), .null] below meth c s₁ [] 0 0 := Stand.of_body Bd
  have e0 : s₁.heap = h0 := by rw [← hh, Bd.state]; rfl
  have N0 := Fr.nil n0
  show OwnEnd p e below s (Q_rm_eqn Z a0' h0 n0) 0 0 (s₁.setTop (entryFrame m #[(.ref a0'), .null] 3))
  refine go (fun t k => castTop (ef_rm_eqn m a0') k) ?_
  show OwnEnd _ _ _ _ _ _ _ (s₁.setTop (mkF m 0 #[.val (.ref a0'), .val .null, .unset] []))
  refine go (fun _ k => by refine XS.aloadN X0.here hx rfl (hb hby d_prog_21_method_5_code_0) rfl rfl ?_; exact k) ?_
  show OwnEnd _ _ _ _ _ _ _ (s₁.setTop (mkF m 1 #[.val (.ref a0'), .val .null, .unset] [.null]))
  refine go (X0.instanceofNull hx (g := (mkF m 1 #[.val (.ref a0'), .val .null, .unset] [.null])) rfl rfl (hb hby d_prog_21_method_5_code_1)) ?_
  show OwnEnd _ _ _ _ _ _ _ (s₁.setTop (mkF m 4 #[.val (.ref a0'), .val .null, .unset] [(.int (0 : Int32))]))
  refine go (fun _ k => by refine XS.ifYes X0.here hx rfl (pc0 := 4) (pc' := 58) rfl (hb hby d_prog_21_method_5_code_4) rfl ((if0 _ _).trans (teq (by decide)).1) (by decide) (by decide) ?_; exact k) ?_
  refine go (fun _ k => by refine XS.iconst X0.here hx rfl (hb hby d_prog_21_method_5_code_58) ?_; exact k) ?_
  show OwnEnd _ _ _ _ _ _ _ (s₁.setTop (mkF m 59 #[.val (.ref a0'), .val .null, .unset] [(.int (0 : Int32))]))
  refine endN X0 hx hlk (t := .boolean) (by simp) Bd.returns (hb hby d_prog_21_method_5_code_59) e0 (by decide) (by decide) ?_
  exact ⟨rfl, N0, rfl⟩
theorem ef_rm_eqb (m : MethodId) (y0 : Addr) (y1 : Addr) : entryFrame m #[(.ref y0), (.ref y1)] 3 = mkF m 0 #[.val (.ref y0), .val (.ref y1), .unset] [] := by first | (simp [entryFrame, mkF, argsToLocals, Value.category]; done) | rfl
def Q_rm_eqb (Z : State) (a0' : Addr) (a1' : Addr) (h0 : Heap) (n0 : Nat) (v : Option Value) (h : Heap) (L : List Loc) : Prop := v = some (.int 0) ∧ Fr n0 L ∧ h = h0
set_option maxRecDepth 65536 in
set_option maxHeartbeats 40000000 in
theorem rm_eqb (l : Launch) (Z : State) (a0 : Array Value) (hw : ∀ d ∈ tables_1, d.before a0 Z = true) (ws : List Jvm.Cond) (a0' : Addr) (a1' : Addr) (h0 : Heap) (n0 : Nat) (EB : Exa Z h0 a1' "java/lang/String") :
    MetFree l (⟨"com/example/brisk_ledger/briskledger/LockName", "equals", "(Ljava/lang/Object;)Z"⟩ : MethodName) (head1 (Jvm.Cond.code (⟨"com/example/brisk_ledger/briskledger/LockName", "equals", "(Ljava/lang/Object;)Z"⟩ : MethodName) prog_21_method_5_code 3 (some .boolean) :: ws) ({ frames := 0, cells := 0, slots := 0, locals := 0 } : Room)) (fun a U => a = #[(.ref a0'), (.ref a1')] ∧ Z.Warmed39 U.vm ∧ U.heap = h0) (fun _ _ _ _ _ => True) (fun _ U o U' => ∃ v L, o = .returned v ∧ Q_rm_eqb Z a0' a1' h0 n0 v U'.heap L ∧ FrameEnd U o U' L 0 0) := by
  refine MetFree.of_bodySF (plainFor_of_name pn_com_example_brisk_ledger_briskledger_LockName) hisR ?_
  intro p e s m args below meth c s₁ Bd hml0 hP hK
  obtain ⟨rfl, hZ, hh⟩ := hP
  have hx := Bd.exec
  have hby := Bd.bytes
  have hlk := Bd.notSynchronized
  have hml : c.maxLocals = 3 := hml0
  have hown : s.vm.findClass "com/example/brisk_ledger/briskledger/LockName" = some m.cls := findClass_of_methodNamed Bd.named
  have hnm := (name_of_methodNamed Bd.named Bd.method).1
  have X0 : Stand p l e ({ frames := 0, cells := 0, slots := 0, locals := 0 } : Room) s m #[(.ref a0'), (.ref a1')] below meth c s₁ [] 0 0 := Stand.of_body Bd
  have e0 : s₁.heap = h0 := by rw [← hh, Bd.state]; rfl
  have N0 := Fr.nil n0
  show OwnEnd p e below s (Q_rm_eqb Z a0' a1' h0 n0) 0 0 (s₁.setTop (entryFrame m #[(.ref a0'), (.ref a1')] 3))
  refine go (fun t k => castTop (ef_rm_eqb m a0' a1') k) ?_
  show OwnEnd _ _ _ _ _ _ _ (s₁.setTop (mkF m 0 #[.val (.ref a0'), .val (.ref a1'), .unset] []))
  refine go (fun _ k => by refine XS.aloadN X0.here hx rfl (hb hby d_prog_21_method_5_code_0) rfl rfl ?_; exact k) ?_
  show OwnEnd _ _ _ _ _ _ _ (s₁.setTop (mkF m 1 #[.val (.ref a0'), .val (.ref a1'), .unset] [(.ref a1')]))
  obtain ⟨T1, X1, e1, st1⟩ := instNo X0 hx hZ hown (hw _ (List.mem_of_getElem? (i := 51) rfl)) e0 EB (NSno (hw _ (List.mem_of_getElem? (i := 79) rfl)) (hw _ (List.mem_of_getElem? (i := 31) rfl)) (NS.step (hw _ (List.mem_of_getElem? (i := 79) rfl)) (NSroot (hw _ (List.mem_of_getElem? (i := 80) rfl)) (hw _ (List.mem_of_getElem? (i := 31) rfl)) (by decide)) (by decide)) (by decide)) (g := (mkF m 1 #[.val (.ref a0'), .val (.ref a1'), .unset] [(.ref a1')])) rfl rfl (hb hby d_prog_21_method_5_code_1)
  refine go st1 ?_
  show OwnEnd _ _ _ _ _ _ _ (T1.setTop (mkF m 4 #[.val (.ref a0'), .val (.ref a1'), .unset] [(.int (0 : Int32))]))
  refine go (fun _ k => by refine XS.ifYes X1.here hx rfl (pc0 := 4) (pc' := 58) rfl (hb hby d_prog_21_method_5_code_4) rfl ((if0 _ _).trans (teq (by decide)).1) (by decide) (by decide) ?_; exact k) ?_
  refine go (fun _ k => by refine XS.iconst X1.here hx rfl (hb hby d_prog_21_method_5_code_58) ?_; exact k) ?_
  show OwnEnd _ _ _ _ _ _ _ (T1.setTop (mkF m 59 #[.val (.ref a0'), .val (.ref a1'), .unset] [(.int (0 : Int32))]))
  refine endN X1 hx hlk (t := .boolean) (by simp) Bd.returns (hb hby d_prog_21_method_5_code_59) e1 (by decide) (by decide) ?_
  exact ⟨rfl, N0, rfl⟩
theorem pd__III_Ljava_lang_String_ : parseMethodDescriptor "(III)Ljava/lang/String;" = some ⟨[.int, .int, .int], some (.object "java/lang/String")⟩ := by decide +kernel
theorem pd__Ljava_lang_String_Ljava_lang_String_Ljava_lang_String__V : parseMethodDescriptor "(Ljava/lang/String;Ljava/lang/String;Ljava/lang/String;)V" = some ⟨[(.object "java/lang/String"), (.object "java/lang/String"), (.object "java/lang/String")], none⟩ := by decide +kernel
theorem pd__IIIIII_Z : parseMethodDescriptor "(IIIIII)Z" = some ⟨[.int, .int, .int, .int, .int, .int], some .boolean⟩ := by decide +kernel
theorem ef_rm_law (m : MethodId) (y0 : Int32) (y1 : Int32) (y2 : Int32) (y3 : Int32) : entryFrame m #[(.int y0), (.int y1), (.int y2), (.int y3)] maxLocals = mkF m 0 #[.val (.int y0), .val (.int y1), .val (.int y2), .val (.int y3), .unset, .unset, .unset, .unset, .unset, .unset, .unset, .unset, .unset, .unset, .unset, .unset, .unset, .unset, .unset, .unset, .unset, .unset, .unset, .unset, .unset, .unset, .unset] [] := by first | (simp [entryFrame, mkF, argsToLocals, Value.category, maxLocals]; done) | rfl
def Q_rm_law (Z : State) (p0 : Int32) (p1 : Int32) (p2 : Int32) (p3 : Int32) (cs : Int32) (h0 : Heap) (n0 : Nat) (v : Option Value) (h : Heap) (L : List Loc) : Prop := v = some (.int 1) ∧ Fr n0 L
set_option maxRecDepth 65536 in
set_option maxHeartbeats 40000000 in
theorem rm_law (l : Launch) (Z : State) (a0 : Array Value) (hw : ∀ d ∈ tables_1, d.before a0 Z = true) (ws : List Jvm.Cond) (p0 : Int32) (p1 : Int32) (p2 : Int32) (p3 : Int32) (cs : Int32) (h0 : Heap) (n0 : Nat) (Z0 : n0 ≤ h0.size) (O : Old Z n0 h0) (SC0 : Sta Z Z.heap "java/lang/String" "COMPACT_STRINGS" "Z" (.int cs)) (c1 : ¬ cs = (0 : Int32)) :
    MetFree l x (head1 (Jvm.Cond.code x code maxLocals ret :: ws) room_1) (fun a U => a = #[(.int p0), (.int p1), (.int p2), (.int p3)] ∧ Z.Warmed39 U.vm ∧ U.heap = h0) (fun _ _ _ _ _ => True) (fun _ U o U' => ∃ v L, o = .returned v ∧ Q_rm_law Z p0 p1 p2 p3 cs h0 n0 v U'.heap L ∧ FrameEnd U o U' L 48 192) := by
  refine MetFree.of_bodySF (plainFor_of_name pn_com_example_brisk_ledger_briskledger_LockNameEqualsPinLaw) hisR ?_
  intro p e s m args below meth c s₁ Bd hml0 hP hK
  obtain ⟨rfl, hZ, hh⟩ := hP
  have hx := Bd.exec
  have hby := Bd.bytes
  have hlk := Bd.notSynchronized
  have hml : c.maxLocals = 27 := hml0
  have hown : s.vm.findClass "com/example/brisk_ledger/briskledger/LockNameEqualsPinLaw" = some m.cls := findClass_of_methodNamed Bd.named
  have hnm := (name_of_methodNamed Bd.named Bd.method).1
  have X0 : Stand p l e room_1 s m #[(.int p0), (.int p1), (.int p2), (.int p3)] below meth c s₁ [] 0 0 := Stand.of_body Bd
  have e0 : s₁.heap = h0 := by rw [← hh, Bd.state]; rfl
  have N0 := Fr.nil n0
  show OwnEnd p e below s (Q_rm_law Z p0 p1 p2 p3 cs h0 n0) 48 192 (s₁.setTop (entryFrame m #[(.int p0), (.int p1), (.int p2), (.int p3)] maxLocals))
  refine go (fun t k => castTop (ef_rm_law m p0 p1 p2 p3) k) ?_
  have SC := SC0.ext O.2
  show OwnEnd _ _ _ _ _ _ _ (s₁.setTop (mkF m 0 (fL6 p0 p1 p2 p3) []))
  refine go (fun _ k => by refine XS.iloadN X0.here hx rfl (hb hby at_0) rfl ?_; exact k) ?_
  refine go (fun _ k => by refine XS.istore X0.here hx rfl (hb hby at_1) rfl (l' := (fL7 p0 p1 p2 p3 p0)) rfl ?_; exact k) ?_
  refine go (fun _ k => by refine XS.iloadN X0.here hx rfl (hb hby at_3) rfl ?_; exact k) ?_
  refine go (fun _ k => by refine XS.bipush X0.here hx rfl (hb hby at_4) ?_; exact k) ?_
  show OwnEnd _ _ _ _ _ _ _ (s₁.setTop (mkF m 6 (fL7 p0 p1 p2 p3 p0) [(.int (8 : Int32)), (.int p0)]))
  refine go (fun _ k => by refine XS.iushr X0.here hx rfl (hb hby at_6) rfl ?_; exact k) ?_
  refine go (fun _ k => by refine XS.istore X0.here hx rfl (hb hby at_7) rfl (l' := (fL8 p0 p1 p2 p3 p0 ((p0.toUInt32 >>> ((8 : Int32) &&& 31).toUInt32).toInt32))) rfl ?_; exact k) ?_
  show OwnEnd _ _ _ _ _ _ _ (s₁.setTop (mkF m 9 (fL8 p0 p1 p2 p3 p0 ((p0.toUInt32 >>> ((8 : Int32) &&& 31).toUInt32).toInt32)) []))
  generalize qx1 : ((p0.toUInt32 >>> ((8 : Int32) &&& 31).toUInt32).toInt32) = x1
  refine go (fun _ k => by refine XS.iloadN X0.here hx rfl (hb hby at_9) rfl ?_; exact k) ?_
  refine go (fun _ k => by refine XS.bipush X0.here hx rfl (hb hby at_10) ?_; exact k) ?_
  show OwnEnd _ _ _ _ _ _ _ (s₁.setTop (mkF m 12 (fL8 p0 p1 p2 p3 p0 x1) [(.int (16 : Int32)), (.int p0)]))
  refine go (fun _ k => by refine XS.iushr X0.here hx rfl (hb hby at_12) rfl ?_; exact k) ?_
  refine go (fun _ k => by refine XS.istore X0.here hx rfl (hb hby at_13) rfl (l' := (fL9 p0 p1 p2 p3 p0 x1 ((p0.toUInt32 >>> ((16 : Int32) &&& 31).toUInt32).toInt32))) rfl ?_; exact k) ?_
  show OwnEnd _ _ _ _ _ _ _ (s₁.setTop (mkF m 15 (fL9 p0 p1 p2 p3 p0 x1 ((p0.toUInt32 >>> ((16 : Int32) &&& 31).toUInt32).toInt32)) []))
  generalize qx2 : ((p0.toUInt32 >>> ((16 : Int32) &&& 31).toUInt32).toInt32) = x2
  refine go (fun _ k => by refine XS.iloadN X0.here hx rfl (hb hby at_15) rfl ?_; exact k) ?_
  refine go (fun _ k => by refine XS.bipush X0.here hx rfl (hb hby at_16) ?_; exact k) ?_
  show OwnEnd _ _ _ _ _ _ _ (s₁.setTop (mkF m 18 (fL9 p0 p1 p2 p3 p0 x1 x2) [(.int (24 : Int32)), (.int p0)]))
  refine go (fun _ k => by refine XS.iushr X0.here hx rfl (hb hby at_18) rfl ?_; exact k) ?_
  refine go (fun _ k => by refine XS.istore X0.here hx rfl (hb hby at_19) rfl (l' := (fL10 p0 p1 p2 p3 p0 x1 x2 ((p0.toUInt32 >>> ((24 : Int32) &&& 31).toUInt32).toInt32))) rfl ?_; exact k) ?_
  show OwnEnd _ _ _ _ _ _ _ (s₁.setTop (mkF m 21 (fL10 p0 p1 p2 p3 p0 x1 x2 ((p0.toUInt32 >>> ((24 : Int32) &&& 31).toUInt32).toInt32)) []))
  generalize qx3 : ((p0.toUInt32 >>> ((24 : Int32) &&& 31).toUInt32).toInt32) = x3
  refine go (fun _ k => by refine XS.iloadN X0.here hx rfl (hb hby at_21) rfl ?_; exact k) ?_
  refine go (fun _ k => by refine XS.istore X0.here hx rfl (hb hby at_22) rfl (l' := (fL11 p0 p1 p2 p3 p0 x1 x2 x3 p1)) rfl ?_; exact k) ?_
  show OwnEnd _ _ _ _ _ _ _ (s₁.setTop (mkF m 24 (fL11 p0 p1 p2 p3 p0 x1 x2 x3 p1) []))
  refine go (fun _ k => by refine XS.iloadN X0.here hx rfl (hb hby at_24) rfl ?_; exact k) ?_
  refine go (fun _ k => by refine XS.bipush X0.here hx rfl (hb hby at_25) ?_; exact k) ?_
  refine go (fun _ k => by refine XS.iushr X0.here hx rfl (hb hby at_27) rfl ?_; exact k) ?_
  refine go (fun _ k => by refine XS.istore X0.here hx rfl (hb hby at_28) rfl (l' := (fL12 p0 p1 p2 p3 p0 x1 x2 x3 p1 ((p1.toUInt32 >>> ((8 : Int32) &&& 31).toUInt32).toInt32))) rfl ?_; exact k) ?_
  show OwnEnd _ _ _ _ _ _ _ (s₁.setTop (mkF m 30 (fL12 p0 p1 p2 p3 p0 x1 x2 x3 p1 ((p1.toUInt32 >>> ((8 : Int32) &&& 31).toUInt32).toInt32)) []))
  generalize qx4 : ((p1.toUInt32 >>> ((8 : Int32) &&& 31).toUInt32).toInt32) = x4
  show OwnEnd _ _ _ _ _ _ _ (s₁.setTop (mkF m 30 (fL12 p0 p1 p2 p3 p0 x1 x2 x3 p1 x4) []))
  refine go (fun _ k => by refine XS.iloadN X0.here hx rfl (hb hby at_30) rfl ?_; exact k) ?_
  refine go (fun _ k => by refine XS.bipush X0.here hx rfl (hb hby at_31) ?_; exact k) ?_
  refine go (fun _ k => by refine XS.iushr X0.here hx rfl (hb hby at_33) rfl ?_; exact k) ?_
  refine go (fun _ k => by refine XS.istore X0.here hx rfl (hb hby at_34) rfl (l' := (fL13 p0 p1 p2 p3 p0 x1 x2 x3 p1 x4 ((p1.toUInt32 >>> ((16 : Int32) &&& 31).toUInt32).toInt32))) rfl ?_; exact k) ?_
  show OwnEnd _ _ _ _ _ _ _ (s₁.setTop (mkF m 36 (fL13 p0 p1 p2 p3 p0 x1 x2 x3 p1 x4 ((p1.toUInt32 >>> ((16 : Int32) &&& 31).toUInt32).toInt32)) []))
  generalize qx5 : ((p1.toUInt32 >>> ((16 : Int32) &&& 31).toUInt32).toInt32) = x5
  show OwnEnd _ _ _ _ _ _ _ (s₁.setTop (mkF m 36 (fL13 p0 p1 p2 p3 p0 x1 x2 x3 p1 x4 x5) []))
  refine go (fun _ k => by refine XS.iloadN X0.here hx rfl (hb hby at_36) rfl ?_; exact k) ?_
  refine go (fun _ k => by refine XS.bipush X0.here hx rfl (hb hby at_37) ?_; exact k) ?_
  refine go (fun _ k => by refine XS.iushr X0.here hx rfl (hb hby at_39) rfl ?_; exact k) ?_
  refine go (fun _ k => by refine XS.istore X0.here hx rfl (hb hby at_40) rfl (l' := (fL14 p0 p1 p2 p3 p0 x1 x2 x3 p1 x4 x5 ((p1.toUInt32 >>> ((24 : Int32) &&& 31).toUInt32).toInt32))) rfl ?_; exact k) ?_
  show OwnEnd _ _ _ _ _ _ _ (s₁.setTop (mkF m 42 (fL14 p0 p1 p2 p3 p0 x1 x2 x3 p1 x4 x5 ((p1.toUInt32 >>> ((24 : Int32) &&& 31).toUInt32).toInt32)) []))
  generalize qx6 : ((p1.toUInt32 >>> ((24 : Int32) &&& 31).toUInt32).toInt32) = x6
  show OwnEnd _ _ _ _ _ _ _ (s₁.setTop (mkF m 42 (fL14 p0 p1 p2 p3 p0 x1 x2 x3 p1 x4 x5 x6) []))
  refine go (fun _ k => by refine XS.iloadN X0.here hx rfl (hb hby at_42) rfl ?_; exact k) ?_
  refine go (fun _ k => by refine XS.istore X0.here hx rfl (hb hby at_43) rfl (l' := (fL15 p0 p1 p2 p3 p0 x1 x2 x3 p1 x4 x5 x6 p2)) rfl ?_; exact k) ?_
  refine go (fun _ k => by refine XS.iloadN X0.here hx rfl (hb hby at_45) rfl ?_; exact k) ?_
  refine go (fun _ k => by refine XS.bipush X0.here hx rfl (hb hby at_46) ?_; exact k) ?_
  show OwnEnd _ _ _ _ _ _ _ (s₁.setTop (mkF m 48 (fL15 p0 p1 p2 p3 p0 x1 x2 x3 p1 x4 x5 x6 p2) [(.int (8 : Int32)), (.int p2)]))
  refine go (fun _ k => by refine XS.iushr X0.here hx rfl (hb hby at_48) rfl ?_; exact k) ?_
  refine go (fun _ k => by refine XS.istore X0.here hx rfl (hb hby at_49) rfl (l' := (fL16 p0 p1 p2 p3 p0 x1 x2 x3 p1 x4 x5 x6 p2 ((p2.toUInt32 >>> ((8 : Int32) &&& 31).toUInt32).toInt32))) rfl ?_; exact k) ?_
  show OwnEnd _ _ _ _ _ _ _ (s₁.setTop (mkF m 51 (fL16 p0 p1 p2 p3 p0 x1 x2 x3 p1 x4 x5 x6 p2 ((p2.toUInt32 >>> ((8 : Int32) &&& 31).toUInt32).toInt32)) []))
  generalize qx7 : ((p2.toUInt32 >>> ((8 : Int32) &&& 31).toUInt32).toInt32) = x7
  refine go (fun _ k => by refine XS.iloadN X0.here hx rfl (hb hby at_51) rfl ?_; exact k) ?_
  refine go (fun _ k => by refine XS.bipush X0.here hx rfl (hb hby at_52) ?_; exact k) ?_
  show OwnEnd _ _ _ _ _ _ _ (s₁.setTop (mkF m 54 (fL16 p0 p1 p2 p3 p0 x1 x2 x3 p1 x4 x5 x6 p2 x7) [(.int (16 : Int32)), (.int p2)]))
  refine go (fun _ k => by refine XS.iushr X0.here hx rfl (hb hby at_54) rfl ?_; exact k) ?_
  refine go (fun _ k => by refine XS.istore X0.here hx rfl (hb hby at_55) rfl (l' := (fL17 p0 p1 p2 p3 p0 x1 x2 x3 p1 x4 x5 x6 p2 x7 ((p2.toUInt32 >>> ((16 : Int32) &&& 31).toUInt32).toInt32))) rfl ?_; exact k) ?_
  show OwnEnd _ _ _ _ _ _ _ (s₁.setTop (mkF m 57 (fL17 p0 p1 p2 p3 p0 x1 x2 x3 p1 x4 x5 x6 p2 x7 ((p2.toUInt32 >>> ((16 : Int32) &&& 31).toUInt32).toInt32)) []))
  generalize qx8 : ((p2.toUInt32 >>> ((16 : Int32) &&& 31).toUInt32).toInt32) = x8
  refine go (fun _ k => by refine XS.iloadN X0.here hx rfl (hb hby at_57) rfl ?_; exact k) ?_
  refine go (fun _ k => by refine XS.bipush X0.here hx rfl (hb hby at_58) ?_; exact k) ?_
  show OwnEnd _ _ _ _ _ _ _ (s₁.setTop (mkF m 60 (fL17 p0 p1 p2 p3 p0 x1 x2 x3 p1 x4 x5 x6 p2 x7 x8) [(.int (24 : Int32)), (.int p2)]))
  refine go (fun _ k => by refine XS.iushr X0.here hx rfl (hb hby at_60) rfl ?_; exact k) ?_
  refine go (fun _ k => by refine XS.istore X0.here hx rfl (hb hby at_61) rfl (l' := (fL18 p0 p1 p2 p3 p0 x1 x2 x3 p1 x4 x5 x6 p2 x7 x8 ((p2.toUInt32 >>> ((24 : Int32) &&& 31).toUInt32).toInt32))) rfl ?_; exact k) ?_
  show OwnEnd _ _ _ _ _ _ _ (s₁.setTop (mkF m 63 (fL18 p0 p1 p2 p3 p0 x1 x2 x3 p1 x4 x5 x6 p2 x7 x8 ((p2.toUInt32 >>> ((24 : Int32) &&& 31).toUInt32).toInt32)) []))
  generalize qx9 : ((p2.toUInt32 >>> ((24 : Int32) &&& 31).toUInt32).toInt32) = x9
  refine go (fun _ k => by refine XS.iloadN X0.here hx rfl (hb hby at_63) rfl ?_; exact k) ?_
  refine go (fun _ k => by refine XS.iconst X0.here hx rfl (hb hby at_64) ?_; exact k) ?_
  show OwnEnd _ _ _ _ _ _ _ (s₁.setTop (mkF m 65 (fL18 p0 p1 p2 p3 p0 x1 x2 x3 p1 x4 x5 x6 p2 x7 x8 x9) [(.int (3 : Int32)), (.int p3)]))
  refine go (fun _ k => by refine XS.iushr X0.here hx rfl (hb hby at_65) rfl ?_; exact k) ?_
  refine go (fun _ k => by refine XS.istore X0.here hx rfl (hb hby at_66) rfl (l' := (fL19 p0 p1 p2 p3 p0 x1 x2 x3 p1 x4 x5 x6 p2 x7 x8 x9 ((p3.toUInt32 >>> ((3 : Int32) &&& 31).toUInt32).toInt32))) rfl ?_; exact k) ?_
  show OwnEnd _ _ _ _ _ _ _ (s₁.setTop (mkF m 68 (fL19 p0 p1 p2 p3 p0 x1 x2 x3 p1 x4 x5 x6 p2 x7 x8 x9 ((p3.toUInt32 >>> ((3 : Int32) &&& 31).toUInt32).toInt32)) []))
  generalize qx10 : ((p3.toUInt32 >>> ((3 : Int32) &&& 31).toUInt32).toInt32) = x10
  refine go (fun _ k => by refine XS.iloadN X0.here hx rfl (hb hby at_68) rfl ?_; exact k) ?_
  refine go (fun _ k => by refine XS.iconst X0.here hx rfl (hb hby at_69) ?_; exact k) ?_
  show OwnEnd _ _ _ _ _ _ _ (s₁.setTop (mkF m 70 (fL19 p0 p1 p2 p3 p0 x1 x2 x3 p1 x4 x5 x6 p2 x7 x8 x9 x10) [(.int (4 : Int32)), (.int p3)]))
  refine go (fun _ k => by refine XS.iushr X0.here hx rfl (hb hby at_70) rfl ?_; exact k) ?_
  refine go (fun _ k => by refine XS.istore X0.here hx rfl (hb hby at_71) rfl (l' := (fL20 p0 p1 p2 p3 p0 x1 x2 x3 p1 x4 x5 x6 p2 x7 x8 x9 x10 ((p3.toUInt32 >>> ((4 : Int32) &&& 31).toUInt32).toInt32))) rfl ?_; exact k) ?_
  show OwnEnd _ _ _ _ _ _ _ (s₁.setTop (mkF m 73 (fL20 p0 p1 p2 p3 p0 x1 x2 x3 p1 x4 x5 x6 p2 x7 x8 x9 x10 ((p3.toUInt32 >>> ((4 : Int32) &&& 31).toUInt32).toInt32)) []))
  generalize qx11 : ((p3.toUInt32 >>> ((4 : Int32) &&& 31).toUInt32).toInt32) = x11
  refine go (fun _ k => by refine XS.iloadN X0.here hx rfl (hb hby at_73) rfl ?_; exact k) ?_
  refine go (fun _ k => by refine XS.iconst X0.here hx rfl (hb hby at_74) ?_; exact k) ?_
  show OwnEnd _ _ _ _ _ _ _ (s₁.setTop (mkF m 75 (fL20 p0 p1 p2 p3 p0 x1 x2 x3 p1 x4 x5 x6 p2 x7 x8 x9 x10 x11) [(.int (5 : Int32)), (.int p3)]))
  refine go (fun _ k => by refine XS.iushr X0.here hx rfl (hb hby at_75) rfl ?_; exact k) ?_
  refine go (fun _ k => by refine XS.istore X0.here hx rfl (hb hby at_76) rfl (l' := (fL21 p0 p1 p2 p3 p0 x1 x2 x3 p1 x4 x5 x6 p2 x7 x8 x9 x10 x11 ((p3.toUInt32 >>> ((5 : Int32) &&& 31).toUInt32).toInt32))) rfl ?_; exact k) ?_
  show OwnEnd _ _ _ _ _ _ _ (s₁.setTop (mkF m 78 (fL21 p0 p1 p2 p3 p0 x1 x2 x3 p1 x4 x5 x6 p2 x7 x8 x9 x10 x11 ((p3.toUInt32 >>> ((5 : Int32) &&& 31).toUInt32).toInt32)) []))
  generalize qx12 : ((p3.toUInt32 >>> ((5 : Int32) &&& 31).toUInt32).toInt32) = x12
  refine go (fun _ k => by refine XS.iloadN X0.here hx rfl (hb hby at_78) rfl ?_; exact k) ?_
  refine go (fun _ k => by refine XS.bipush X0.here hx rfl (hb hby at_79) ?_; exact k) ?_
  show OwnEnd _ _ _ _ _ _ _ (s₁.setTop (mkF m 81 (fL21 p0 p1 p2 p3 p0 x1 x2 x3 p1 x4 x5 x6 p2 x7 x8 x9 x10 x11 x12) [(.int (6 : Int32)), (.int p3)]))
  refine go (fun _ k => by refine XS.iushr X0.here hx rfl (hb hby at_81) rfl ?_; exact k) ?_
  refine go (fun _ k => by refine XS.istore X0.here hx rfl (hb hby at_82) rfl (l' := (fL22 p0 p1 p2 p3 p0 x1 x2 x3 p1 x4 x5 x6 p2 x7 x8 x9 x10 x11 x12 ((p3.toUInt32 >>> ((6 : Int32) &&& 31).toUInt32).toInt32))) rfl ?_; exact k) ?_
  show OwnEnd _ _ _ _ _ _ _ (s₁.setTop (mkF m 84 (fL22 p0 p1 p2 p3 p0 x1 x2 x3 p1 x4 x5 x6 p2 x7 x8 x9 x10 x11 x12 ((p3.toUInt32 >>> ((6 : Int32) &&& 31).toUInt32).toInt32)) []))
  generalize qx13 : ((p3.toUInt32 >>> ((6 : Int32) &&& 31).toUInt32).toInt32) = x13
  refine go (fun _ k => by refine XS.iloadN X0.here hx rfl (hb hby at_84) rfl ?_; exact k) ?_
  refine go (fun _ k => by refine XS.bipush X0.here hx rfl (hb hby at_85) ?_; exact k) ?_
  show OwnEnd _ _ _ _ _ _ _ (s₁.setTop (mkF m 87 (fL22 p0 p1 p2 p3 p0 x1 x2 x3 p1 x4 x5 x6 p2 x7 x8 x9 x10 x11 x12 x13) [(.int (7 : Int32)), (.int p3)]))
  refine go (fun _ k => by refine XS.iushr X0.here hx rfl (hb hby at_87) rfl ?_; exact k) ?_
  refine go (fun _ k => by refine XS.istore X0.here hx rfl (hb hby at_88) rfl (l' := (fL23 p0 p1 p2 p3 p0 x1 x2 x3 p1 x4 x5 x6 p2 x7 x8 x9 x10 x11 x12 x13 ((p3.toUInt32 >>> ((7 : Int32) &&& 31).toUInt32).toInt32))) rfl ?_; exact k) ?_
  show OwnEnd _ _ _ _ _ _ _ (s₁.setTop (mkF m 90 (fL23 p0 p1 p2 p3 p0 x1 x2 x3 p1 x4 x5 x6 p2 x7 x8 x9 x10 x11 x12 x13 ((p3.toUInt32 >>> ((7 : Int32) &&& 31).toUInt32).toInt32)) []))
  generalize qx14 : ((p3.toUInt32 >>> ((7 : Int32) &&& 31).toUInt32).toInt32) = x14
  refine go (fun _ k => by refine XS.iloadN X0.here hx rfl (hb hby at_90) rfl ?_; exact k) ?_
  refine go (fun _ k => by refine XS.bipush X0.here hx rfl (hb hby at_91) ?_; exact k) ?_
  show OwnEnd _ _ _ _ _ _ _ (s₁.setTop (mkF m 93 (fL23 p0 p1 p2 p3 p0 x1 x2 x3 p1 x4 x5 x6 p2 x7 x8 x9 x10 x11 x12 x13 x14) [(.int (8 : Int32)), (.int p3)]))
  refine go (fun _ k => by refine XS.iushr X0.here hx rfl (hb hby at_93) rfl ?_; exact k) ?_
  refine go (fun _ k => by refine XS.istore X0.here hx rfl (hb hby at_94) rfl (l' := (fL24 p0 p1 p2 p3 p0 x1 x2 x3 p1 x4 x5 x6 p2 x7 x8 x9 x10 x11 x12 x13 x14 ((p3.toUInt32 >>> ((8 : Int32) &&& 31).toUInt32).toInt32))) rfl ?_; exact k) ?_
  show OwnEnd _ _ _ _ _ _ _ (s₁.setTop (mkF m 96 (fL24 p0 p1 p2 p3 p0 x1 x2 x3 p1 x4 x5 x6 p2 x7 x8 x9 x10 x11 x12 x13 x14 ((p3.toUInt32 >>> ((8 : Int32) &&& 31).toUInt32).toInt32)) []))
  generalize qx15 : ((p3.toUInt32 >>> ((8 : Int32) &&& 31).toUInt32).toInt32) = x15
  refine go (fun _ k => by refine XS.iloadN X0.here hx rfl (hb hby at_96) rfl ?_; exact k) ?_
  refine go (fun _ k => by refine XS.iconst X0.here hx rfl (hb hby at_97) ?_; exact k) ?_
  show OwnEnd _ _ _ _ _ _ _ (s₁.setTop (mkF m 98 (fL24 p0 p1 p2 p3 p0 x1 x2 x3 p1 x4 x5 x6 p2 x7 x8 x9 x10 x11 x12 x13 x14 x15) [(.int (1 : Int32)), (.int p3)]))
  refine go (fun _ k => by refine XS.iand X0.here hx rfl (hb hby at_98) rfl ?_; exact k) ?_
  show OwnEnd _ _ _ _ _ _ _ (s₁.setTop (mkF m 99 (fL24 p0 p1 p2 p3 p0 x1 x2 x3 p1 x4 x5 x6 p2 x7 x8 x9 x10 x11 x12 x13 x14 x15) [(.int (p3 &&& (1 : Int32)))]))
  have J17 : ∀ (x17_10 : Int32) (qx17_10 : x17_10 = (if (p3 &&& (1 : Int32)) = (0 : Int32) then x5 else p0)) (x17_11 : Int32) (qx17_11 : x17_11 = (if (p3 &&& (1 : Int32)) = (0 : Int32) then x6 else x1)) (x17_19 : Int32) (qx17_19 : x17_19 = (if (p3 &&& (1 : Int32)) = (0 : Int32) then x13 else x10)), OwnEnd p e below s (Q_rm_law Z p0 p1 p2 p3 cs h0 n0) 48 192 (s₁.setTop (mkF m 114 (fL24 p0 p1 p2 p3 p0 x1 x2 x3 p1 x4 x17_10 x17_11 p2 x7 x8 x9 x10 x11 x12 x17_19 x14 x15) [])) := by
    intro x17_10 qx17_10 x17_11 qx17_11 x17_19 qx17_19
    show OwnEnd _ _ _ _ _ _ _ (s₁.setTop (mkF m 114 (fL24 p0 p1 p2 p3 p0 x1 x2 x3 p1 x4 x17_10 x17_11 p2 x7 x8 x9 x10 x11 x12 x17_19 x14 x15) []))
    refine go (fun _ k => by refine XS.iloadN X0.here hx rfl (hb hby at_114) rfl ?_; exact k) ?_
    refine go (fun _ k => by refine XS.iconst X0.here hx rfl (hb hby at_115) ?_; exact k) ?_
    refine go (fun _ k => by refine XS.iand X0.here hx rfl (hb hby at_116) rfl ?_; exact k) ?_
    show OwnEnd _ _ _ _ _ _ _ (s₁.setTop (mkF m 117 (fL24 p0 p1 p2 p3 p0 x1 x2 x3 p1 x4 x17_10 x17_11 p2 x7 x8 x9 x10 x11 x12 x17_19 x14 x15) [(.int (p3 &&& (2 : Int32)))]))
    have J19 : ∀ (x19_12 : Int32) (qx19_12 : x19_12 = (if (p3 &&& (2 : Int32)) = (0 : Int32) then p2 else x2)) (x19_13 : Int32) (qx19_13 : x19_13 = (if (p3 &&& (2 : Int32)) = (0 : Int32) then x7 else x3)) (x19_20 : Int32) (qx19_20 : x19_20 = (if (p3 &&& (2 : Int32)) = (0 : Int32) then x14 else x11)), OwnEnd p e below s (Q_rm_law Z p0 p1 p2 p3 cs h0 n0) 48 192 (s₁.setTop (mkF m 132 (fL24 p0 p1 p2 p3 p0 x1 x2 x3 p1 x4 x17_10 x17_11 x19_12 x19_13 x8 x9 x10 x11 x12 x17_19 x19_20 x15) [])) := by
      intro x19_12 qx19_12 x19_13 qx19_13 x19_20 qx19_20
      show OwnEnd _ _ _ _ _ _ _ (s₁.setTop (mkF m 132 (fL24 p0 p1 p2 p3 p0 x1 x2 x3 p1 x4 x17_10 x17_11 x19_12 x19_13 x8 x9 x10 x11 x12 x17_19 x19_20 x15) []))
      refine go (fun _ k => by refine XS.iloadN X0.here hx rfl (hb hby at_132) rfl ?_; exact k) ?_
      refine go (fun _ k => by refine XS.iconst X0.here hx rfl (hb hby at_133) ?_; exact k) ?_
      refine go (fun _ k => by refine XS.iand X0.here hx rfl (hb hby at_134) rfl ?_; exact k) ?_
      show OwnEnd _ _ _ _ _ _ _ (s₁.setTop (mkF m 135 (fL24 p0 p1 p2 p3 p0 x1 x2 x3 p1 x4 x17_10 x17_11 x19_12 x19_13 x8 x9 x10 x11 x12 x17_19 x19_20 x15) [(.int (p3 &&& (4 : Int32)))]))
      have J21 : ∀ (x21_14 : Int32) (qx21_14 : x21_14 = (if (p3 &&& (4 : Int32)) = (0 : Int32) then x8 else p1)) (x21_15 : Int32) (qx21_15 : x21_15 = (if (p3 &&& (4 : Int32)) = (0 : Int32) then x9 else x4)) (x21_21 : Int32) (qx21_21 : x21_21 = (if (p3 &&& (4 : Int32)) = (0 : Int32) then x15 else x12)), OwnEnd p e below s (Q_rm_law Z p0 p1 p2 p3 cs h0 n0) 48 192 (s₁.setTop (mkF m 150 (fL24 p0 p1 p2 p3 p0 x1 x2 x3 p1 x4 x17_10 x17_11 x19_12 x19_13 x21_14 x21_15 x10 x11 x12 x17_19 x19_20 x21_21) [])) := by
        intro x21_14 qx21_14 x21_15 qx21_15 x21_21 qx21_21
        show OwnEnd _ _ _ _ _ _ _ (s₁.setTop (mkF m 150 (fL24 p0 p1 p2 p3 p0 x1 x2 x3 p1 x4 x17_10 x17_11 x19_12 x19_13 x21_14 x21_15 x10 x11 x12 x17_19 x19_20 x21_21) []))
        refine go (fun _ k => by refine XS.iloadN X0.here hx rfl (hb hby at_150) rfl ?_; exact k) ?_
        refine go (fun _ k => by refine XS.bipush X0.here hx rfl (hb hby at_151) ?_; exact k) ?_
        refine go (fun _ k => by refine XS.iushr X0.here hx rfl (hb hby at_153) rfl ?_; exact k) ?_
        refine go (fun _ k => by refine XS.iconst X0.here hx rfl (hb hby at_154) ?_; exact k) ?_
        show OwnEnd _ _ _ _ _ _ _ (s₁.setTop (mkF m 155 (fL24 p0 p1 p2 p3 p0 x1 x2 x3 p1 x4 x17_10 x17_11 x19_12 x19_13 x21_14 x21_15 x10 x11 x12 x17_19 x19_20 x21_21) [(.int (3 : Int32)), (.int ((p3.toUInt32 >>> ((9 : Int32) &&& 31).toUInt32).toInt32))]))
        refine go (fun _ k => by refine XS.iand X0.here hx rfl (hb hby at_155) rfl ?_; exact k) ?_
        refine go (fun _ k => by refine XS.istore X0.here hx rfl (hb hby at_156) rfl (l' := (fL25 p0 p1 p2 p3 p0 x1 x2 x3 p1 x4 x17_10 x17_11 x19_12 x19_13 x21_14 x21_15 x10 x11 x12 x17_19 x19_20 x21_21 (((p3.toUInt32 >>> ((9 : Int32) &&& 31).toUInt32).toInt32) &&& (3 : Int32)))) rfl ?_; exact k) ?_
        show OwnEnd _ _ _ _ _ _ _ (s₁.setTop (mkF m 158 (fL25 p0 p1 p2 p3 p0 x1 x2 x3 p1 x4 x17_10 x17_11 x19_12 x19_13 x21_14 x21_15 x10 x11 x12 x17_19 x19_20 x21_21 (((p3.toUInt32 >>> ((9 : Int32) &&& 31).toUInt32).toInt32) &&& (3 : Int32))) []))
        generalize qx22 : (((p3.toUInt32 >>> ((9 : Int32) &&& 31).toUInt32).toInt32) &&& (3 : Int32)) = x22
        refine go (fun _ k => by refine XS.iload X0.here hx rfl (hb hby at_158) rfl ?_; exact k) ?_
        refine go (fun _ k => by refine XS.iload X0.here hx rfl (hb hby at_160) rfl ?_; exact k) ?_
        show OwnEnd _ _ _ _ _ _ _ (s₁.setTop (mkF m 162 (fL25 p0 p1 p2 p3 p0 x1 x2 x3 p1 x4 x17_10 x17_11 x19_12 x19_13 x21_14 x21_15 x10 x11 x12 x17_19 x19_20 x21_21 x22) [(.int p0), (.int x10)]))
        refine go (fun _ k => by refine XS.iload X0.here hx rfl (hb hby at_162) rfl ?_; exact k) ?_
        show OwnEnd _ _ _ _ _ _ _ (s₁.setTop (mkF m 164 (fL25 p0 p1 p2 p3 p0 x1 x2 x3 p1 x4 x17_10 x17_11 x19_12 x19_13 x21_14 x21_15 x10 x11 x12 x17_19 x19_20 x21_21 x22) [(.int x1), (.int p0), (.int x10)]))
        obtain ⟨_, T23, L23, X23, hQ23, st23⟩ := callStat X0 hx hZ hown (hw _ (List.mem_of_getElem? (i := 0) rfl)) (hw _ (List.mem_of_getElem? (i := 1) rfl)) (hw _ (List.mem_of_getElem? (i := 2) rfl)) (hw _ (List.mem_of_getElem? (i := 3) rfl)) (by decide) (rm_str l Z a0 hw [] x10 p0 x1 cs h0 n0 Z0 O SC0 c1) (W := 0) (by decide) (by decide) e0 (g := (mkF m 164 (fL25 p0 p1 p2 p3 p0 x1 x2 x3 p1 x4 x17_10 x17_11 x19_12 x19_13 x21_14 x21_15 x10 x11 x12 x17_19 x19_20 x21_21 x22) [(.int x1), (.int p0), (.int x10)])) rfl (by rw [hml]; rfl) (argsL := [(.int x10), (.int p0), (.int x1)]) (rest := []) rfl (lenOf pd__III_Ljava_lang_String_ rfl) rfl (by show 2 * 0 + _ ≤ _; exact Nat.le_of_eq rfl) (hb hby at_164) (by decide) (by decide)
        obtain ⟨x23, t23, kb23, rfl, Nq23, K23, g_x23, sx23, sq23, E_x23, FV_x23, FC_x23, V_t23⟩ := hQ23
        have N23 := Fr.app N0 Nq23
        have Z0 := Nat.le_trans Z0 K23.1
        have O := O.keep K23 all0
        have SC := SC0.ext O.2
        refine go st23 ?_
        refine go (fun _ k => by refine XS.astore X23.here hx rfl (hb hby at_167) rfl rfl (l' := (fL26 p0 p1 p2 p3 p0 x1 x2 x3 p1 x4 x17_10 x17_11 x19_12 x19_13 x21_14 x21_15 x10 x11 x12 x17_19 x19_20 x21_21 x22 x23)) rfl ?_; exact k) ?_
        show OwnEnd _ _ _ _ _ _ _ (T23.setTop (mkF m 169 (fL26 p0 p1 p2 p3 p0 x1 x2 x3 p1 x4 x17_10 x17_11 x19_12 x19_13 x21_14 x21_15 x10 x11 x12 x17_19 x19_20 x21_21 x22 x23) []))
        obtain ⟨T24, h24, X24, e24, E24, A24, D24, -, st24⟩ := newO X23 hx hZ hown (hw _ (List.mem_of_getElem? (i := 30) rfl)) (hw _ (List.mem_of_getElem? (i := 31) rfl)) (hw _ (List.mem_of_getElem? (i := 32) rfl)) rfl (g := (mkF m 169 (fL26 p0 p1 p2 p3 p0 x1 x2 x3 p1 x4 x17_10 x17_11 x19_12 x19_13 x21_14 x21_15 x10 x11 x12 x17_19 x19_20 x21_21 x22 x23) [])) rfl (hb hby at_169) (by decide) (by decide)
        obtain ⟨b24, g24⟩ : ∃ z, z = T23.heap.size := ⟨_, rfl⟩
        rw [← g24] at A24 D24 st24
        have ne_x23_b24 : x23 ≠ b24 := fun q => absurd E_x23.lt (by rw [q, g24]; exact Nat.lt_irrefl _)
        have ne_t23_b24 : t23 ≠ b24 := fun q => absurd V_t23.lt (by rw [q, g24]; exact Nat.lt_irrefl _)
        have g_b24 : n0 ≤ b24 := Nat.le_trans Z0 (Nat.le_of_eq g24.symm)
        have Z0 := Nat.le_trans Z0 E24.1
        have SC := SC.ext E24
        have O := O.ext E24
        have E_x23 := E_x23.ext E24
        have FV_x23 := FV_x23.ext E24
        have FC_x23 := FC_x23.ext E24
        have V_t23 := V_t23.ext E24
        have F_namespace_b24 : Fld Z h24 b24 "com/example/brisk_ledger/briskledger/LockName" "namespace" "Ljava/lang/String;" .null := D24 (Or.inr (hw _ (List.mem_of_getElem? (i := 38) rfl))) (ty := (.object "java/lang/String")) (by decide)
        have F_userId_b24 : Fld Z h24 b24 "com/example/brisk_ledger/briskledger/LockName" "userId" "Ljava/lang/String;" .null := D24 (Or.inr (hw _ (List.mem_of_getElem? (i := 40) rfl))) (ty := (.object "java/lang/String")) (by decide)
        have F_propertyId_b24 : Fld Z h24 b24 "com/example/brisk_ledger/briskledger/LockName" "propertyId" "Ljava/lang/String;" .null := D24 (Or.inr (hw _ (List.mem_of_getElem? (i := 42) rfl))) (ty := (.object "java/lang/String")) (by decide)
        have E_b24 := A24
        refine go st24 ?_
        refine go (fun _ k => by refine XS.dup X24.here hx rfl (hb hby at_172) rfl rfl ?_; exact k) ?_
        refine go (fun _ k => by refine XS.aload X24.here hx rfl (hb hby at_173) rfl rfl ?_; exact k) ?_
        refine go (fun _ k => by refine XS.iload X24.here hx rfl (hb hby at_175) rfl ?_; exact k) ?_
        show OwnEnd _ _ _ _ _ _ _ (T24.setTop (mkF m 177 (fL26 p0 p1 p2 p3 p0 x1 x2 x3 p1 x4 x17_10 x17_11 x19_12 x19_13 x21_14 x21_15 x10 x11 x12 x17_19 x19_20 x21_21 x22 x23) [(.int x11), (.ref x23), (.ref b24), (.ref b24)]))
        refine go (fun _ k => by refine XS.iload X24.here hx rfl (hb hby at_177) rfl ?_; exact k) ?_
        refine go (fun _ k => by refine XS.iload X24.here hx rfl (hb hby at_179) rfl ?_; exact k) ?_
        show OwnEnd _ _ _ _ _ _ _ (T24.setTop (mkF m 181 (fL26 p0 p1 p2 p3 p0 x1 x2 x3 p1 x4 x17_10 x17_11 x19_12 x19_13 x21_14 x21_15 x10 x11 x12 x17_19 x19_20 x21_21 x22 x23) [(.int x3), (.int x2), (.int x11), (.ref x23), (.ref b24), (.ref b24)]))
        obtain ⟨_, T25, L25, X25, hQ25, st25⟩ := callStat X24 hx hZ hown (hw _ (List.mem_of_getElem? (i := 0) rfl)) (hw _ (List.mem_of_getElem? (i := 1) rfl)) (hw _ (List.mem_of_getElem? (i := 2) rfl)) (hw _ (List.mem_of_getElem? (i := 3) rfl)) (by decide) (rm_str l Z a0 hw [] x11 x2 x3 cs h24 n0 Z0 O SC0 c1) (W := 3) (by decide) (by decide) e24 (g := (mkF m 181 (fL26 p0 p1 p2 p3 p0 x1 x2 x3 p1 x4 x17_10 x17_11 x19_12 x19_13 x21_14 x21_15 x10 x11 x12 x17_19 x19_20 x21_21 x22 x23) [(.int x3), (.int x2), (.int x11), (.ref x23), (.ref b24), (.ref b24)])) rfl (by rw [hml]; rfl) (argsL := [(.int x11), (.int x2), (.int x3)]) (rest := [(.ref x23), (.ref b24), (.ref b24)]) rfl (lenOf pd__III_Ljava_lang_String_ rfl) rfl (by show 2 * 0 + _ ≤ _; exact Nat.le_of_eq rfl) (hb hby at_181) (by decide) (by decide)
        have lo25_0 := E_x23.lt
        have lo25_1 := V_t23.lt
        have lo25_2 := F_namespace_b24.lt
        obtain ⟨x25, t25, kb25, rfl, Nq25, K25, g_x25, sx25, sq25, E_x25, FV_x25, FC_x25, V_t25⟩ := hQ25
        have N25 := Fr.app N23 Nq25
        have Z0 := Nat.le_trans Z0 K25.1
        have O := O.keep K25 all0
        have E_x23 := E_x23.keep K25
        have FV_x23 := FV_x23.keep K25 nin0
        have FC_x23 := FC_x23.keep K25 nin0
        have V_t23 := V_t23.keep K25 nin0
        have F_namespace_b24 := F_namespace_b24.keep K25 nin0
        have F_userId_b24 := F_userId_b24.keep K25 nin0
        have F_propertyId_b24 := F_propertyId_b24.keep K25 nin0
        have E_b24 := E_b24.keep K25
        have SC := SC0.ext O.2
        have ne_x23_x25 : x23 ≠ x25 := fun q => absurd lo25_0 (by rw [q]; exact Nat.not_lt.mpr sx25)
        have ne_t23_x25 : t23 ≠ x25 := fun q => absurd lo25_1 (by rw [q]; exact Nat.not_lt.mpr sx25)
        have ne_b24_x25 : b24 ≠ x25 := fun q => absurd lo25_2 (by rw [q]; exact Nat.not_lt.mpr sx25)
        have ne_x23_t25 : x23 ≠ t25 := fun q => absurd lo25_0 (by rw [q]; exact Nat.not_lt.mpr sq25)
        have ne_t23_t25 : t23 ≠ t25 := fun q => absurd lo25_1 (by rw [q]; exact Nat.not_lt.mpr sq25)
        have ne_b24_t25 : b24 ≠ t25 := fun q => absurd lo25_2 (by rw [q]; exact Nat.not_lt.mpr sq25)
        refine go st25 ?_
        refine go (fun _ k => by refine XS.iload X25.here hx rfl (hb hby at_184) rfl ?_; exact k) ?_
        refine go (fun _ k => by refine XS.iload X25.here hx rfl (hb hby at_186) rfl ?_; exact k) ?_
        refine go (fun _ k => by refine XS.iload X25.here hx rfl (hb hby at_188) rfl ?_; exact k) ?_
        show OwnEnd _ _ _ _ _ _ _ (T25.setTop (mkF m 190 (fL26 p0 p1 p2 p3 p0 x1 x2 x3 p1 x4 x17_10 x17_11 x19_12 x19_13 x21_14 x21_15 x10 x11 x12 x17_19 x19_20 x21_21 x22 x23) [(.int x4), (.int p1), (.int x12), (.ref x25), (.ref x23), (.ref b24), (.ref b24)]))
        obtain ⟨_, T26, L26, X26, hQ26, st26⟩ := callStat X25 hx hZ hown (hw _ (List.mem_of_getElem? (i := 0) rfl)) (hw _ (List.mem_of_getElem? (i := 1) rfl)) (hw _ (List.mem_of_getElem? (i := 2) rfl)) (hw _ (List.mem_of_getElem? (i := 3) rfl)) (by decide) (rm_str l Z a0 hw [] x12 p1 x4 cs T25.heap n0 Z0 O SC0 c1) (W := 4) (by decide) (by decide) rfl (g := (mkF m 190 (fL26 p0 p1 p2 p3 p0 x1 x2 x3 p1 x4 x17_10 x17_11 x19_12 x19_13 x21_14 x21_15 x10 x11 x12 x17_19 x19_20 x21_21 x22 x23) [(.int x4), (.int p1), (.int x12), (.ref x25), (.ref x23), (.ref b24), (.ref b24)])) rfl (by rw [hml]; rfl) (argsL := [(.int x12), (.int p1), (.int x4)]) (rest := [(.ref x25), (.ref x23), (.ref b24), (.ref b24)]) rfl (lenOf pd__III_Ljava_lang_String_ rfl) rfl (by show 2 * 0 + _ ≤ _; exact Nat.le_of_eq rfl) (hb hby at_190) (by decide) (by decide)
        have lo26_0 := E_x23.lt
        have lo26_1 := V_t23.lt
        have lo26_2 := F_namespace_b24.lt
        have lo26_3 := E_x25.lt
        have lo26_4 := V_t25.lt
        obtain ⟨x26, t26, kb26, rfl, Nq26, K26, g_x26, sx26, sq26, E_x26, FV_x26, FC_x26, V_t26⟩ := hQ26
        have N26 := Fr.app N25 Nq26
        have Z0 := Nat.le_trans Z0 K26.1
        have O := O.keep K26 all0
        have E_x23 := E_x23.keep K26
        have FV_x23 := FV_x23.keep K26 nin0
        have FC_x23 := FC_x23.keep K26 nin0
        have V_t23 := V_t23.keep K26 nin0
        have F_namespace_b24 := F_namespace_b24.keep K26 nin0
        have F_userId_b24 := F_userId_b24.keep K26 nin0
        have F_propertyId_b24 := F_propertyId_b24.keep K26 nin0
        have E_b24 := E_b24.keep K26
        have E_x25 := E_x25.keep K26
        have FV_x25 := FV_x25.keep K26 nin0
        have FC_x25 := FC_x25.keep K26 nin0
        have V_t25 := V_t25.keep K26 nin0
        have SC := SC0.ext O.2
        have ne_x23_x26 : x23 ≠ x26 := fun q => absurd lo26_0 (by rw [q]; exact Nat.not_lt.mpr sx26)
        have ne_t23_x26 : t23 ≠ x26 := fun q => absurd lo26_1 (by rw [q]; exact Nat.not_lt.mpr sx26)
        have ne_b24_x26 : b24 ≠ x26 := fun q => absurd lo26_2 (by rw [q]; exact Nat.not_lt.mpr sx26)
        have ne_x25_x26 : x25 ≠ x26 := fun q => absurd lo26_3 (by rw [q]; exact Nat.not_lt.mpr sx26)
        have ne_t25_x26 : t25 ≠ x26 := fun q => absurd lo26_4 (by rw [q]; exact Nat.not_lt.mpr sx26)
        have ne_x23_t26 : x23 ≠ t26 := fun q => absurd lo26_0 (by rw [q]; exact Nat.not_lt.mpr sq26)
        have ne_t23_t26 : t23 ≠ t26 := fun q => absurd lo26_1 (by rw [q]; exact Nat.not_lt.mpr sq26)
        have ne_b24_t26 : b24 ≠ t26 := fun q => absurd lo26_2 (by rw [q]; exact Nat.not_lt.mpr sq26)
        have ne_x25_t26 : x25 ≠ t26 := fun q => absurd lo26_3 (by rw [q]; exact Nat.not_lt.mpr sq26)
        have ne_t25_t26 : t25 ≠ t26 := fun q => absurd lo26_4 (by rw [q]; exact Nat.not_lt.mpr sq26)
        refine go st26 ?_
        show OwnEnd _ _ _ _ _ _ _ (T26.setTop (mkF m 193 (fL26 p0 p1 p2 p3 p0 x1 x2 x3 p1 x4 x17_10 x17_11 x19_12 x19_13 x21_14 x21_15 x10 x11 x12 x17_19 x19_20 x21_21 x22 x23) [(.ref x26), (.ref x25), (.ref x23), (.ref b24), (.ref b24)]))
        obtain ⟨_, T27, L27, X27, hQ27, st27⟩ := callInit X26 hx hZ hown rfl (hw _ (List.mem_of_getElem? (i := 33) rfl)) (hw _ (List.mem_of_getElem? (i := 34) rfl)) (hw _ (List.mem_of_getElem? (i := 32) rfl)) (hw _ (List.mem_of_getElem? (i := 35) rfl)) (by decide) (rm_lni l Z a0 hw [] b24 x23 x25 x26 T26.heap n0 g_b24 E_b24 F_namespace_b24 F_userId_b24 F_propertyId_b24) (W := 1) (by decide) (by decide) rfl (g := (mkF m 193 (fL26 p0 p1 p2 p3 p0 x1 x2 x3 p1 x4 x17_10 x17_11 x19_12 x19_13 x21_14 x21_15 x10 x11 x12 x17_19 x19_20 x21_21 x22 x23) [(.ref x26), (.ref x25), (.ref x23), (.ref b24), (.ref b24)])) rfl (by rw [hml]; rfl) (argsL := [(.ref x23), (.ref x25), (.ref x26)]) (rest := [(.ref b24)]) rfl (lenOf pd__Ljava_lang_String_Ljava_lang_String_Ljava_lang_String__V rfl) rfl (by show 2 * 0 + _ ≤ _; exact Nat.le_of_eq rfl) (hb hby at_193) (by decide) (by decide)
        obtain ⟨rfl, Nq27, K27, E_b24, F_namespace_b24, F_userId_b24, F_propertyId_b24⟩ := hQ27
        have N27 := Fr.app N26 Nq27
        have Z0 := Nat.le_trans Z0 K27.1
        have O := O.keep K27 (allS g_b24 all0)
        have E_x23 := E_x23.keep K27
        have FV_x23 := FV_x23.keep K27 (ninS ne_x23_b24 nin0)
        have FC_x23 := FC_x23.keep K27 (ninS ne_x23_b24 nin0)
        have V_t23 := V_t23.keep K27 (ninS ne_t23_b24 nin0)
        have E_x25 := E_x25.keep K27
        have FV_x25 := FV_x25.keep K27 (ninS (Ne.symm ne_b24_x25) nin0)
        have FC_x25 := FC_x25.keep K27 (ninS (Ne.symm ne_b24_x25) nin0)
        have V_t25 := V_t25.keep K27 (ninS (Ne.symm ne_b24_t25) nin0)
        have E_x26 := E_x26.keep K27
        have FV_x26 := FV_x26.keep K27 (ninS (Ne.symm ne_b24_x26) nin0)
        have FC_x26 := FC_x26.keep K27 (ninS (Ne.symm ne_b24_x26) nin0)
        have V_t26 := V_t26.keep K27 (ninS (Ne.symm ne_b24_t26) nin0)
        have SC := SC0.ext O.2
        refine go st27 ?_
        refine go (fun _ k => by refine XS.astore X27.here hx rfl (hb hby at_196) rfl rfl (l' := (fL27 p0 p1 p2 p3 p0 x1 x2 x3 p1 x4 x17_10 x17_11 x19_12 x19_13 x21_14 x21_15 x10 x11 x12 x17_19 x19_20 x21_21 x22 x23 b24)) rfl ?_; exact k) ?_
        show OwnEnd _ _ _ _ _ _ _ (T27.setTop (mkF m 198 (fL27 p0 p1 p2 p3 p0 x1 x2 x3 p1 x4 x17_10 x17_11 x19_12 x19_13 x21_14 x21_15 x10 x11 x12 x17_19 x19_20 x21_21 x22 x23 b24) []))
        obtain ⟨T28, h28, X28, e28, E28, A28, D28, -, st28⟩ := newO X27 hx hZ hown (hw _ (List.mem_of_getElem? (i := 30) rfl)) (hw _ (List.mem_of_getElem? (i := 31) rfl)) (hw _ (List.mem_of_getElem? (i := 32) rfl)) rfl (g := (mkF m 198 (fL27 p0 p1 p2 p3 p0 x1 x2 x3 p1 x4 x17_10 x17_11 x19_12 x19_13 x21_14 x21_15 x10 x11 x12 x17_19 x19_20 x21_21 x22 x23 b24) [])) rfl (hb hby at_198) (by decide) (by decide)
        obtain ⟨b28, g28⟩ : ∃ z, z = T27.heap.size := ⟨_, rfl⟩
        rw [← g28] at A28 D28 st28
        have ne_x23_b28 : x23 ≠ b28 := fun q => absurd E_x23.lt (by rw [q, g28]; exact Nat.lt_irrefl _)
        have ne_t23_b28 : t23 ≠ b28 := fun q => absurd V_t23.lt (by rw [q, g28]; exact Nat.lt_irrefl _)
        have ne_x25_b28 : x25 ≠ b28 := fun q => absurd E_x25.lt (by rw [q, g28]; exact Nat.lt_irrefl _)
        have ne_t25_b28 : t25 ≠ b28 := fun q => absurd V_t25.lt (by rw [q, g28]; exact Nat.lt_irrefl _)
        have ne_x26_b28 : x26 ≠ b28 := fun q => absurd E_x26.lt (by rw [q, g28]; exact Nat.lt_irrefl _)
        have ne_t26_b28 : t26 ≠ b28 := fun q => absurd V_t26.lt (by rw [q, g28]; exact Nat.lt_irrefl _)
        have ne_b24_b28 : b24 ≠ b28 := fun q => absurd E_b24.lt (by rw [q, g28]; exact Nat.lt_irrefl _)
        have g_b28 : n0 ≤ b28 := Nat.le_trans Z0 (Nat.le_of_eq g28.symm)
        have Z0 := Nat.le_trans Z0 E28.1
        have SC := SC.ext E28
        have O := O.ext E28
        have E_x23 := E_x23.ext E28
        have FV_x23 := FV_x23.ext E28
        have FC_x23 := FC_x23.ext E28
        have V_t23 := V_t23.ext E28
        have E_x25 := E_x25.ext E28
        have FV_x25 := FV_x25.ext E28
        have FC_x25 := FC_x25.ext E28
        have V_t25 := V_t25.ext E28
        have E_x26 := E_x26.ext E28
        have FV_x26 := FV_x26.ext E28
        have FC_x26 := FC_x26.ext E28
        have V_t26 := V_t26.ext E28
        have E_b24 := E_b24.ext E28
        have F_namespace_b24 := F_namespace_b24.ext E28
        have F_userId_b24 := F_userId_b24.ext E28
        have F_propertyId_b24 := F_propertyId_b24.ext E28
        have F_namespace_b28 : Fld Z h28 b28 "com/example/brisk_ledger/briskledger/LockName" "namespace" "Ljava/lang/String;" .null := D28 (Or.inr (hw _ (List.mem_of_getElem? (i := 38) rfl))) (ty := (.object "java/lang/String")) (by decide)
        have F_userId_b28 : Fld Z h28 b28 "com/example/brisk_ledger/briskledger/LockName" "userId" "Ljava/lang/String;" .null := D28 (Or.inr (hw _ (List.mem_of_getElem? (i := 40) rfl))) (ty := (.object "java/lang/String")) (by decide)
        have F_propertyId_b28 : Fld Z h28 b28 "com/example/brisk_ledger/briskledger/LockName" "propertyId" "Ljava/lang/String;" .null := D28 (Or.inr (hw _ (List.mem_of_getElem? (i := 42) rfl))) (ty := (.object "java/lang/String")) (by decide)
        have E_b28 := A28
        refine go st28 ?_
        refine go (fun _ k => by refine XS.dup X28.here hx rfl (hb hby at_201) rfl rfl ?_; exact k) ?_
        refine go (fun _ k => by refine XS.iload X28.here hx rfl (hb hby at_202) rfl ?_; exact k) ?_
        refine go (fun _ k => by refine XS.iload X28.here hx rfl (hb hby at_204) rfl ?_; exact k) ?_
        show OwnEnd _ _ _ _ _ _ _ (T28.setTop (mkF m 206 (fL27 p0 p1 p2 p3 p0 x1 x2 x3 p1 x4 x17_10 x17_11 x19_12 x19_13 x21_14 x21_15 x10 x11 x12 x17_19 x19_20 x21_21 x22 x23 b24) [(.int x17_10), (.int x17_19), (.ref b28), (.ref b28)]))
        refine go (fun _ k => by refine XS.iload X28.here hx rfl (hb hby at_206) rfl ?_; exact k) ?_
        show OwnEnd _ _ _ _ _ _ _ (T28.setTop (mkF m 208 (fL27 p0 p1 p2 p3 p0 x1 x2 x3 p1 x4 x17_10 x17_11 x19_12 x19_13 x21_14 x21_15 x10 x11 x12 x17_19 x19_20 x21_21 x22 x23 b24) [(.int x17_11), (.int x17_10), (.int x17_19), (.ref b28), (.ref b28)]))
        obtain ⟨_, T29, L29, X29, hQ29, st29⟩ := callStat X28 hx hZ hown (hw _ (List.mem_of_getElem? (i := 0) rfl)) (hw _ (List.mem_of_getElem? (i := 1) rfl)) (hw _ (List.mem_of_getElem? (i := 2) rfl)) (hw _ (List.mem_of_getElem? (i := 3) rfl)) (by decide) (rm_str l Z a0 hw [] x17_19 x17_10 x17_11 cs h28 n0 Z0 O SC0 c1) (W := 2) (by decide) (by decide) e28 (g := (mkF m 208 (fL27 p0 p1 p2 p3 p0 x1 x2 x3 p1 x4 x17_10 x17_11 x19_12 x19_13 x21_14 x21_15 x10 x11 x12 x17_19 x19_20 x21_21 x22 x23 b24) [(.int x17_11), (.int x17_10), (.int x17_19), (.ref b28), (.ref b28)])) rfl (by rw [hml]; rfl) (argsL := [(.int x17_19), (.int x17_10), (.int x17_11)]) (rest := [(.ref b28), (.ref b28)]) rfl (lenOf pd__III_Ljava_lang_String_ rfl) rfl (by show 2 * 0 + _ ≤ _; exact Nat.le_of_eq rfl) (hb hby at_208) (by decide) (by decide)
        have lo29_0 := E_x23.lt
        have lo29_1 := V_t23.lt
        have lo29_2 := E_x25.lt
        have lo29_3 := V_t25.lt
        have lo29_4 := E_x26.lt
        have lo29_5 := V_t26.lt
        have lo29_6 := E_b24.lt
        have lo29_7 := F_namespace_b28.lt
        obtain ⟨x29, t29, kb29, rfl, Nq29, K29, g_x29, sx29, sq29, E_x29, FV_x29, FC_x29, V_t29⟩ := hQ29
        have N29 := Fr.app N27 Nq29
        have Z0 := Nat.le_trans Z0 K29.1
        have O := O.keep K29 all0
        have E_x23 := E_x23.keep K29
        have FV_x23 := FV_x23.keep K29 nin0
        have FC_x23 := FC_x23.keep K29 nin0
        have V_t23 := V_t23.keep K29 nin0
        have E_x25 := E_x25.keep K29
        have FV_x25 := FV_x25.keep K29 nin0
        have FC_x25 := FC_x25.keep K29 nin0
        have V_t25 := V_t25.keep K29 nin0
        have E_x26 := E_x26.keep K29
        have FV_x26 := FV_x26.keep K29 nin0
        have FC_x26 := FC_x26.keep K29 nin0
        have V_t26 := V_t26.keep K29 nin0
        have E_b24 := E_b24.keep K29
        have F_namespace_b24 := F_namespace_b24.keep K29 nin0
        have F_userId_b24 := F_userId_b24.keep K29 nin0
        have F_propertyId_b24 := F_propertyId_b24.keep K29 nin0
        have F_namespace_b28 := F_namespace_b28.keep K29 nin0
        have F_userId_b28 := F_userId_b28.keep K29 nin0
        have F_propertyId_b28 := F_propertyId_b28.keep K29 nin0
        have E_b28 := E_b28.keep K29
        have SC := SC0.ext O.2
        have ne_x23_x29 : x23 ≠ x29 := fun q => absurd lo29_0 (by rw [q]; exact Nat.not_lt.mpr sx29)
        have ne_t23_x29 : t23 ≠ x29 := fun q => absurd lo29_1 (by rw [q]; exact Nat.not_lt.mpr sx29)
        have ne_x25_x29 : x25 ≠ x29 := fun q => absurd lo29_2 (by rw [q]; exact Nat.not_lt.mpr sx29)
        have ne_t25_x29 : t25 ≠ x29 := fun q => absurd lo29_3 (by rw [q]; exact Nat.not_lt.mpr sx29)
        have ne_x26_x29 : x26 ≠ x29 := fun q => absurd lo29_4 (by rw [q]; exact Nat.not_lt.mpr sx29)
        have ne_t26_x29 : t26 ≠ x29 := fun q => absurd lo29_5 (by rw [q]; exact Nat.not_lt.mpr sx29)
        have ne_b24_x29 : b24 ≠ x29 := fun q => absurd lo29_6 (by rw [q]; exact Nat.not_lt.mpr sx29)
        have ne_b28_x29 : b28 ≠ x29 := fun q => absurd lo29_7 (by rw [q]; exact Nat.not_lt.mpr sx29)
        have ne_x23_t29 : x23 ≠ t29 := fun q => absurd lo29_0 (by rw [q]; exact Nat.not_lt.mpr sq29)
        have ne_t23_t29 : t23 ≠ t29 := fun q => absurd lo29_1 (by rw [q]; exact Nat.not_lt.mpr sq29)
        have ne_x25_t29 : x25 ≠ t29 := fun q => absurd lo29_2 (by rw [q]; exact Nat.not_lt.mpr sq29)
        have ne_t25_t29 : t25 ≠ t29 := fun q => absurd lo29_3 (by rw [q]; exact Nat.not_lt.mpr sq29)
        have ne_x26_t29 : x26 ≠ t29 := fun q => absurd lo29_4 (by rw [q]; exact Nat.not_lt.mpr sq29)
        have ne_t26_t29 : t26 ≠ t29 := fun q => absurd lo29_5 (by rw [q]; exact Nat.not_lt.mpr sq29)
        have ne_b24_t29 : b24 ≠ t29 := fun q => absurd lo29_6 (by rw [q]; exact Nat.not_lt.mpr sq29)
        have ne_b28_t29 : b28 ≠ t29 := fun q => absurd lo29_7 (by rw [q]; exact Nat.not_lt.mpr sq29)
        refine go st29 ?_
        refine go (fun _ k => by refine XS.iload X29.here hx rfl (hb hby at_211) rfl ?_; exact k) ?_
        refine go (fun _ k => by refine XS.iload X29.here hx rfl (hb hby at_213) rfl ?_; exact k) ?_
        refine go (fun _ k => by refine XS.iload X29.here hx rfl (hb hby at_215) rfl ?_; exact k) ?_
        show OwnEnd _ _ _ _ _ _ _ (T29.setTop (mkF m 217 (fL27 p0 p1 p2 p3 p0 x1 x2 x3 p1 x4 x17_10 x17_11 x19_12 x19_13 x21_14 x21_15 x10 x11 x12 x17_19 x19_20 x21_21 x22 x23 b24) [(.int x19_13), (.int x19_12), (.int x19_20), (.ref x29), (.ref b28), (.ref b28)]))
        obtain ⟨_, T30, L30, X30, hQ30, st30⟩ := callStat X29 hx hZ hown (hw _ (List.mem_of_getElem? (i := 0) rfl)) (hw _ (List.mem_of_getElem? (i := 1) rfl)) (hw _ (List.mem_of_getElem? (i := 2) rfl)) (hw _ (List.mem_of_getElem? (i := 3) rfl)) (by decide) (rm_str l Z a0 hw [] x19_20 x19_12 x19_13 cs T29.heap n0 Z0 O SC0 c1) (W := 3) (by decide) (by decide) rfl (g := (mkF m 217 (fL27 p0 p1 p2 p3 p0 x1 x2 x3 p1 x4 x17_10 x17_11 x19_12 x19_13 x21_14 x21_15 x10 x11 x12 x17_19 x19_20 x21_21 x22 x23 b24) [(.int x19_13), (.int x19_12), (.int x19_20), (.ref x29), (.ref b28), (.ref b28)])) rfl (by rw [hml]; rfl) (argsL := [(.int x19_20), (.int x19_12), (.int x19_13)]) (rest := [(.ref x29), (.ref b28), (.ref b28)]) rfl (lenOf pd__III_Ljava_lang_String_ rfl) rfl (by show 2 * 0 + _ ≤ _; exact Nat.le_of_eq rfl) (hb hby at_217) (by decide) (by decide)
        have lo30_0 := E_x23.lt
        have lo30_1 := V_t23.lt
        have lo30_2 := E_x25.lt
        have lo30_3 := V_t25.lt
        have lo30_4 := E_x26.lt
        have lo30_5 := V_t26.lt
        have lo30_6 := E_b24.lt
        have lo30_7 := F_namespace_b28.lt
        have lo30_8 := E_x29.lt
        have lo30_9 := V_t29.lt
        obtain ⟨x30, t30, kb30, rfl, Nq30, K30, g_x30, sx30, sq30, E_x30, FV_x30, FC_x30, V_t30⟩ := hQ30
        have N30 := Fr.app N29 Nq30
        have Z0 := Nat.le_trans Z0 K30.1
        have O := O.keep K30 all0
        have E_x23 := E_x23.keep K30
        have FV_x23 := FV_x23.keep K30 nin0
        have FC_x23 := FC_x23.keep K30 nin0
        have V_t23 := V_t23.keep K30 nin0
        have E_x25 := E_x25.keep K30
        have FV_x25 := FV_x25.keep K30 nin0
        have FC_x25 := FC_x25.keep K30 nin0
        have V_t25 := V_t25.keep K30 nin0
        have E_x26 := E_x26.keep K30
        have FV_x26 := FV_x26.keep K30 nin0
        have FC_x26 := FC_x26.keep K30 nin0
        have V_t26 := V_t26.keep K30 nin0
        have E_b24 := E_b24.keep K30
        have F_namespace_b24 := F_namespace_b24.keep K30 nin0
        have F_userId_b24 := F_userId_b24.keep K30 nin0
        have F_propertyId_b24 := F_propertyId_b24.keep K30 nin0
        have F_namespace_b28 := F_namespace_b28.keep K30 nin0
        have F_userId_b28 := F_userId_b28.keep K30 nin0
        have F_propertyId_b28 := F_propertyId_b28.keep K30 nin0
        have E_b28 := E_b28.keep K30
        have E_x29 := E_x29.keep K30
        have FV_x29 := FV_x29.keep K30 nin0
        have FC_x29 := FC_x29.keep K30 nin0
        have V_t29 := V_t29.keep K30 nin0
        have SC := SC0.ext O.2
        have ne_x23_x30 : x23 ≠ x30 := fun q => absurd lo30_0 (by rw [q]; exact Nat.not_lt.mpr sx30)
        have ne_t23_x30 : t23 ≠ x30 := fun q => absurd lo30_1 (by rw [q]; exact Nat.not_lt.mpr sx30)
        have ne_x25_x30 : x25 ≠ x30 := fun q => absurd lo30_2 (by rw [q]; exact Nat.not_lt.mpr sx30)
        have ne_t25_x30 : t25 ≠ x30 := fun q => absurd lo30_3 (by rw [q]; exact Nat.not_lt.mpr sx30)
        have ne_x26_x30 : x26 ≠ x30 := fun q => absurd lo30_4 (by rw [q]; exact Nat.not_lt.mpr sx30)
        have ne_t26_x30 : t26 ≠ x30 := fun q => absurd lo30_5 (by rw [q]; exact Nat.not_lt.mpr sx30)
        have ne_b24_x30 : b24 ≠ x30 := fun q => absurd lo30_6 (by rw [q]; exact Nat.not_lt.mpr sx30)
        have ne_b28_x30 : b28 ≠ x30 := fun q => absurd lo30_7 (by rw [q]; exact Nat.not_lt.mpr sx30)
        have ne_x29_x30 : x29 ≠ x30 := fun q => absurd lo30_8 (by rw [q]; exact Nat.not_lt.mpr sx30)
        have ne_t29_x30 : t29 ≠ x30 := fun q => absurd lo30_9 (by rw [q]; exact Nat.not_lt.mpr sx30)
        have ne_x23_t30 : x23 ≠ t30 := fun q => absurd lo30_0 (by rw [q]; exact Nat.not_lt.mpr sq30)
        have ne_t23_t30 : t23 ≠ t30 := fun q => absurd lo30_1 (by rw [q]; exact Nat.not_lt.mpr sq30)
        have ne_x25_t30 : x25 ≠ t30 := fun q => absurd lo30_2 (by rw [q]; exact Nat.not_lt.mpr sq30)
        have ne_t25_t30 : t25 ≠ t30 := fun q => absurd lo30_3 (by rw [q]; exact Nat.not_lt.mpr sq30)
        have ne_x26_t30 : x26 ≠ t30 := fun q => absurd lo30_4 (by rw [q]; exact Nat.not_lt.mpr sq30)
        have ne_t26_t30 : t26 ≠ t30 := fun q => absurd lo30_5 (by rw [q]; exact Nat.not_lt.mpr sq30)
        have ne_b24_t30 : b24 ≠ t30 := fun q => absurd lo30_6 (by rw [q]; exact Nat.not_lt.mpr sq30)
        have ne_b28_t30 : b28 ≠ t30 := fun q => absurd lo30_7 (by rw [q]; exact Nat.not_lt.mpr sq30)
        have ne_x29_t30 : x29 ≠ t30 := fun q => absurd lo30_8 (by rw [q]; exact Nat.not_lt.mpr sq30)
        have ne_t29_t30 : t29 ≠ t30 := fun q => absurd lo30_9 (by rw [q]; exact Nat.not_lt.mpr sq30)
        refine go st30 ?_
        refine go (fun _ k => by refine XS.iload X30.here hx rfl (hb hby at_220) rfl ?_; exact k) ?_
        refine go (fun _ k => by refine XS.iload X30.here hx rfl (hb hby at_222) rfl ?_; exact k) ?_
        refine go (fun _ k => by refine XS.iload X30.here hx rfl (hb hby at_224) rfl ?_; exact k) ?_
        show OwnEnd _ _ _ _ _ _ _ (T30.setTop (mkF m 226 (fL27 p0 p1 p2 p3 p0 x1 x2 x3 p1 x4 x17_10 x17_11 x19_12 x19_13 x21_14 x21_15 x10 x11 x12 x17_19 x19_20 x21_21 x22 x23 b24) [(.int x21_15), (.int x21_14), (.int x21_21), (.ref x30), (.ref x29), (.ref b28), (.ref b28)]))
        obtain ⟨_, T31, L31, X31, hQ31, st31⟩ := callStat X30 hx hZ hown (hw _ (List.mem_of_getElem? (i := 0) rfl)) (hw _ (List.mem_of_getElem? (i := 1) rfl)) (hw _ (List.mem_of_getElem? (i := 2) rfl)) (hw _ (List.mem_of_getElem? (i := 3) rfl)) (by decide) (rm_str l Z a0 hw [] x21_21 x21_14 x21_15 cs T30.heap n0 Z0 O SC0 c1) (W := 4) (by decide) (by decide) rfl (g := (mkF m 226 (fL27 p0 p1 p2 p3 p0 x1 x2 x3 p1 x4 x17_10 x17_11 x19_12 x19_13 x21_14 x21_15 x10 x11 x12 x17_19 x19_20 x21_21 x22 x23 b24) [(.int x21_15), (.int x21_14), (.int x21_21), (.ref x30), (.ref x29), (.ref b28), (.ref b28)])) rfl (by rw [hml]; rfl) (argsL := [(.int x21_21), (.int x21_14), (.int x21_15)]) (rest := [(.ref x30), (.ref x29), (.ref b28), (.ref b28)]) rfl (lenOf pd__III_Ljava_lang_String_ rfl) rfl (by show 2 * 0 + _ ≤ _; exact Nat.le_of_eq rfl) (hb hby at_226) (by decide) (by decide)
        have lo31_0 := E_x23.lt
        have lo31_1 := V_t23.lt
        have lo31_2 := E_x25.lt
        have lo31_3 := V_t25.lt
        have lo31_4 := E_x26.lt
        have lo31_5 := V_t26.lt
        have lo31_6 := E_b24.lt
        have lo31_7 := F_namespace_b28.lt
        have lo31_8 := E_x29.lt
        have lo31_9 := V_t29.lt
        have lo31_10 := E_x30.lt
        have lo31_11 := V_t30.lt
        obtain ⟨x31, t31, kb31, rfl, Nq31, K31, g_x31, sx31, sq31, E_x31, FV_x31, FC_x31, V_t31⟩ := hQ31
        have N31 := Fr.app N30 Nq31
        have Z0 := Nat.le_trans Z0 K31.1
        have O := O.keep K31 all0
        have E_x23 := E_x23.keep K31
        have FV_x23 := FV_x23.keep K31 nin0
        have FC_x23 := FC_x23.keep K31 nin0
        have V_t23 := V_t23.keep K31 nin0
        have E_x25 := E_x25.keep K31
        have FV_x25 := FV_x25.keep K31 nin0
        have FC_x25 := FC_x25.keep K31 nin0
        have V_t25 := V_t25.keep K31 nin0
        have E_x26 := E_x26.keep K31
        have FV_x26 := FV_x26.keep K31 nin0
        have FC_x26 := FC_x26.keep K31 nin0
        have V_t26 := V_t26.keep K31 nin0
        have E_b24 := E_b24.keep K31
        have F_namespace_b24 := F_namespace_b24.keep K31 nin0
        have F_userId_b24 := F_userId_b24.keep K31 nin0
        have F_propertyId_b24 := F_propertyId_b24.keep K31 nin0
        have F_namespace_b28 := F_namespace_b28.keep K31 nin0
        have F_userId_b28 := F_userId_b28.keep K31 nin0
        have F_propertyId_b28 := F_propertyId_b28.keep K31 nin0
        have E_b28 := E_b28.keep K31
        have E_x29 := E_x29.keep K31
        have FV_x29 := FV_x29.keep K31 nin0
        have FC_x29 := FC_x29.keep K31 nin0
        have V_t29 := V_t29.keep K31 nin0
        have E_x30 := E_x30.keep K31
        have FV_x30 := FV_x30.keep K31 nin0
        have FC_x30 := FC_x30.keep K31 nin0
        have V_t30 := V_t30.keep K31 nin0
        have SC := SC0.ext O.2
        have ne_x23_x31 : x23 ≠ x31 := fun q => absurd lo31_0 (by rw [q]; exact Nat.not_lt.mpr sx31)
        have ne_t23_x31 : t23 ≠ x31 := fun q => absurd lo31_1 (by rw [q]; exact Nat.not_lt.mpr sx31)
        have ne_x25_x31 : x25 ≠ x31 := fun q => absurd lo31_2 (by rw [q]; exact Nat.not_lt.mpr sx31)
        have ne_t25_x31 : t25 ≠ x31 := fun q => absurd lo31_3 (by rw [q]; exact Nat.not_lt.mpr sx31)
        have ne_x26_x31 : x26 ≠ x31 := fun q => absurd lo31_4 (by rw [q]; exact Nat.not_lt.mpr sx31)
        have ne_t26_x31 : t26 ≠ x31 := fun q => absurd lo31_5 (by rw [q]; exact Nat.not_lt.mpr sx31)
        have ne_b24_x31 : b24 ≠ x31 := fun q => absurd lo31_6 (by rw [q]; exact Nat.not_lt.mpr sx31)
        have ne_b28_x31 : b28 ≠ x31 := fun q => absurd lo31_7 (by rw [q]; exact Nat.not_lt.mpr sx31)
        have ne_x29_x31 : x29 ≠ x31 := fun q => absurd lo31_8 (by rw [q]; exact Nat.not_lt.mpr sx31)
        have ne_t29_x31 : t29 ≠ x31 := fun q => absurd lo31_9 (by rw [q]; exact Nat.not_lt.mpr sx31)
        have ne_x30_x31 : x30 ≠ x31 := fun q => absurd lo31_10 (by rw [q]; exact Nat.not_lt.mpr sx31)
        have ne_t30_x31 : t30 ≠ x31 := fun q => absurd lo31_11 (by rw [q]; exact Nat.not_lt.mpr sx31)
        have ne_x23_t31 : x23 ≠ t31 := fun q => absurd lo31_0 (by rw [q]; exact Nat.not_lt.mpr sq31)
        have ne_t23_t31 : t23 ≠ t31 := fun q => absurd lo31_1 (by rw [q]; exact Nat.not_lt.mpr sq31)
        have ne_x25_t31 : x25 ≠ t31 := fun q => absurd lo31_2 (by rw [q]; exact Nat.not_lt.mpr sq31)
        have ne_t25_t31 : t25 ≠ t31 := fun q => absurd lo31_3 (by rw [q]; exact Nat.not_lt.mpr sq31)
        have ne_x26_t31 : x26 ≠ t31 := fun q => absurd lo31_4 (by rw [q]; exact Nat.not_lt.mpr sq31)
        have ne_t26_t31 : t26 ≠ t31 := fun q => absurd lo31_5 (by rw [q]; exact Nat.not_lt.mpr sq31)
        have ne_b24_t31 : b24 ≠ t31 := fun q => absurd lo31_6 (by rw [q]; exact Nat.not_lt.mpr sq31)
        have ne_b28_t31 : b28 ≠ t31 := fun q => absurd lo31_7 (by rw [q]; exact Nat.not_lt.mpr sq31)
        have ne_x29_t31 : x29 ≠ t31 := fun q => absurd lo31_8 (by rw [q]; exact Nat.not_lt.mpr sq31)
        have ne_t29_t31 : t29 ≠ t31 := fun q => absurd lo31_9 (by rw [q]; exact Nat.not_lt.mpr sq31)
        have ne_x30_t31 : x30 ≠ t31 := fun q => absurd lo31_10 (by rw [q]; exact Nat.not_lt.mpr sq31)
        have ne_t30_t31 : t30 ≠ t31 := fun q => absurd lo31_11 (by rw [q]; exact Nat.not_lt.mpr sq31)
        refine go st31 ?_
        show OwnEnd _ _ _ _ _ _ _ (T31.setTop (mkF m 229 (fL27 p0 p1 p2 p3 p0 x1 x2 x3 p1 x4 x17_10 x17_11 x19_12 x19_13 x21_14 x21_15 x10 x11 x12 x17_19 x19_20 x21_21 x22 x23 b24) [(.ref x31), (.ref x30), (.ref x29), (.ref b28), (.ref b28)]))
        obtain ⟨_, T32, L32, X32, hQ32, st32⟩ := callInit X31 hx hZ hown rfl (hw _ (List.mem_of_getElem? (i := 33) rfl)) (hw _ (List.mem_of_getElem? (i := 34) rfl)) (hw _ (List.mem_of_getElem? (i := 32) rfl)) (hw _ (List.mem_of_getElem? (i := 35) rfl)) (by decide) (rm_lni l Z a0 hw [] b28 x29 x30 x31 T31.heap n0 g_b28 E_b28 F_namespace_b28 F_userId_b28 F_propertyId_b28) (W := 1) (by decide) (by decide) rfl (g := (mkF m 229 (fL27 p0 p1 p2 p3 p0 x1 x2 x3 p1 x4 x17_10 x17_11 x19_12 x19_13 x21_14 x21_15 x10 x11 x12 x17_19 x19_20 x21_21 x22 x23 b24) [(.ref x31), (.ref x30), (.ref x29), (.ref b28), (.ref b28)])) rfl (by rw [hml]; rfl) (argsL := [(.ref x29), (.ref x30), (.ref x31)]) (rest := [(.ref b28)]) rfl (lenOf pd__Ljava_lang_String_Ljava_lang_String_Ljava_lang_String__V rfl) rfl (by show 2 * 0 + _ ≤ _; exact Nat.le_of_eq rfl) (hb hby at_229) (by decide) (by decide)
        obtain ⟨rfl, Nq32, K32, E_b28, F_namespace_b28, F_userId_b28, F_propertyId_b28⟩ := hQ32
        have N32 := Fr.app N31 Nq32
        have Z0 := Nat.le_trans Z0 K32.1
        have O := O.keep K32 (allS g_b28 all0)
        have E_x23 := E_x23.keep K32
        have FV_x23 := FV_x23.keep K32 (ninS ne_x23_b28 nin0)
        have FC_x23 := FC_x23.keep K32 (ninS ne_x23_b28 nin0)
        have V_t23 := V_t23.keep K32 (ninS ne_t23_b28 nin0)
        have E_x25 := E_x25.keep K32
        have FV_x25 := FV_x25.keep K32 (ninS ne_x25_b28 nin0)
        have FC_x25 := FC_x25.keep K32 (ninS ne_x25_b28 nin0)
        have V_t25 := V_t25.keep K32 (ninS ne_t25_b28 nin0)
        have E_x26 := E_x26.keep K32
        have FV_x26 := FV_x26.keep K32 (ninS ne_x26_b28 nin0)
        have FC_x26 := FC_x26.keep K32 (ninS ne_x26_b28 nin0)
        have V_t26 := V_t26.keep K32 (ninS ne_t26_b28 nin0)
        have E_b24 := E_b24.keep K32
        have F_namespace_b24 := F_namespace_b24.keep K32 (ninS ne_b24_b28 nin0)
        have F_userId_b24 := F_userId_b24.keep K32 (ninS ne_b24_b28 nin0)
        have F_propertyId_b24 := F_propertyId_b24.keep K32 (ninS ne_b24_b28 nin0)
        have E_x29 := E_x29.keep K32
        have FV_x29 := FV_x29.keep K32 (ninS (Ne.symm ne_b28_x29) nin0)
        have FC_x29 := FC_x29.keep K32 (ninS (Ne.symm ne_b28_x29) nin0)
        have V_t29 := V_t29.keep K32 (ninS (Ne.symm ne_b28_t29) nin0)
        have E_x30 := E_x30.keep K32
        have FV_x30 := FV_x30.keep K32 (ninS (Ne.symm ne_b28_x30) nin0)
        have FC_x30 := FC_x30.keep K32 (ninS (Ne.symm ne_b28_x30) nin0)
        have V_t30 := V_t30.keep K32 (ninS (Ne.symm ne_b28_t30) nin0)
        have E_x31 := E_x31.keep K32
        have FV_x31 := FV_x31.keep K32 (ninS (Ne.symm ne_b28_x31) nin0)
        have FC_x31 := FC_x31.keep K32 (ninS (Ne.symm ne_b28_x31) nin0)
        have V_t31 := V_t31.keep K32 (ninS (Ne.symm ne_b28_t31) nin0)
        have SC := SC0.ext O.2
        refine go st32 ?_
        refine go (fun _ k => by refine XS.astore X32.here hx rfl (hb hby at_232) rfl rfl (l' := (fL28 p0 p1 p2 p3 p0 x1 x2 x3 p1 x4 x17_10 x17_11 x19_12 x19_13 x21_14 x21_15 x10 x11 x12 x17_19 x19_20 x21_21 x22 x23 b24 b28)) rfl ?_; exact k) ?_
        refine go (fun _ k => by refine XS.iload X32.here hx rfl (hb hby at_234) rfl ?_; exact k) ?_
        show OwnEnd _ _ _ _ _ _ _ (T32.setTop (mkF m 236 (fL28 p0 p1 p2 p3 p0 x1 x2 x3 p1 x4 x17_10 x17_11 x19_12 x19_13 x21_14 x21_15 x10 x11 x12 x17_19 x19_20 x21_21 x22 x23 b24 b28) [(.int x22)]))
        by_cases hc236_33 : x22 = (0 : Int32)
        · refine go (fun _ k => by refine XS.ifNo X32.here hx rfl (hb hby at_236) rfl ((if0 _ _).trans (teq hc236_33).2) ?_; exact k) ?_
          show OwnEnd _ _ _ _ _ _ _ (T32.setTop (mkF m 239 (fL28 p0 p1 p2 p3 p0 x1 x2 x3 p1 x4 x17_10 x17_11 x19_12 x19_13 x21_14 x21_15 x10 x11 x12 x17_19 x19_20 x21_21 x22 x23 b24 b28) []))
          refine go (fun _ k => by refine XS.iload X32.here hx rfl (hb hby at_239) rfl ?_; exact k) ?_
          refine go (fun _ k => by refine XS.iload X32.here hx rfl (hb hby at_241) rfl ?_; exact k) ?_
          refine go (fun _ k => by refine XS.iload X32.here hx rfl (hb hby at_243) rfl ?_; exact k) ?_
          refine go (fun _ k => by refine XS.iload X32.here hx rfl (hb hby at_245) rfl ?_; exact k) ?_
          show OwnEnd _ _ _ _ _ _ _ (T32.setTop (mkF m 247 (fL28 p0 p1 p2 p3 p0 x1 x2 x3 p1 x4 x17_10 x17_11 x19_12 x19_13 x21_14 x21_15 x10 x11 x12 x17_19 x19_20 x21_21 x22 x23 b24 b28) [(.int x17_19), (.int x1), (.int p0), (.int x10)]))
          refine go (fun _ k => by refine XS.iload X32.here hx rfl (hb hby at_247) rfl ?_; exact k) ?_
          refine go (fun _ k => by refine XS.iload X32.here hx rfl (hb hby at_249) rfl ?_; exact k) ?_
          show OwnEnd _ _ _ _ _ _ _ (T32.setTop (mkF m 251 (fL28 p0 p1 p2 p3 p0 x1 x2 x3 p1 x4 x17_10 x17_11 x19_12 x19_13 x21_14 x21_15 x10 x11 x12 x17_19 x19_20 x21_21 x22 x23 b24 b28) [(.int x17_11), (.int x17_10), (.int x17_19), (.int x1), (.int p0), (.int x10)]))
          obtain ⟨_, T34, L34, X34, hQ34, st34⟩ := callStat X32 hx hZ hown (hw _ (List.mem_of_getElem? (i := 43) rfl)) (hw _ (List.mem_of_getElem? (i := 44) rfl)) (hw _ (List.mem_of_getElem? (i := 2) rfl)) (hw _ (List.mem_of_getElem? (i := 45) rfl)) (by decide) (rm_sam l Z a0 hw [] x10 p0 x1 x17_19 x17_10 x17_11 T32.heap n0 ) (W := 0) (by decide) (by decide) rfl (g := (mkF m 251 (fL28 p0 p1 p2 p3 p0 x1 x2 x3 p1 x4 x17_10 x17_11 x19_12 x19_13 x21_14 x21_15 x10 x11 x12 x17_19 x19_20 x21_21 x22 x23 b24 b28) [(.int x17_11), (.int x17_10), (.int x17_19), (.int x1), (.int p0), (.int x10)])) rfl (by rw [hml]; rfl) (argsL := [(.int x10), (.int p0), (.int x1), (.int x17_19), (.int x17_10), (.int x17_11)]) (rest := []) rfl (lenOf pd__IIIIII_Z rfl) rfl (by show 2 * 0 + _ ≤ _; exact Nat.le_of_eq rfl) (hb hby at_251) (by decide) (by decide)
          obtain ⟨rfl, Nq34, eq34⟩ := hQ34
          have N34 := Fr.app N32 Nq34
          refine go st34 ?_
          show OwnEnd _ _ _ _ _ _ _ (T34.setTop (mkF m 254 (fL28 p0 p1 p2 p3 p0 x1 x2 x3 p1 x4 x17_10 x17_11 x19_12 x19_13 x21_14 x21_15 x10 x11 x12 x17_19 x19_20 x21_21 x22 x23 b24 b28) [(.int (own_same x10 p0 x1 x17_19 x17_10 x17_11))]))
          have J40 : ∀ (x40_s0 : Int32) (qx40_s0 : x40_s0 = (if (own_same x10 p0 x1 x17_19 x17_10 x17_11) = (0 : Int32) then (0 : Int32) else (if (own_same x11 x2 x3 x19_20 x19_12 x19_13) = (0 : Int32) then (0 : Int32) else (if (own_same x12 p1 x4 x21_21 x21_14 x21_15) = (0 : Int32) then (0 : Int32) else (1 : Int32))))) (T40 : State) (L40 : List Loc) (X40 : Stand p l e room_1 s m #[(.int p0), (.int p1), (.int p2), (.int p3)] below meth c T40 L40 20 54) (N40 : Fr n0 L40) (e40 : T40.heap = T32.heap), OwnEnd p e below s (Q_rm_law Z p0 p1 p2 p3 cs h0 n0) 48 192 (T40.setTop (mkF m 298 (fL28 p0 p1 p2 p3 p0 x1 x2 x3 p1 x4 x17_10 x17_11 x19_12 x19_13 x21_14 x21_15 x10 x11 x12 x17_19 x19_20 x21_21 x22 x23 b24 b28) [(.int x40_s0)])) := by
            intro x40_s0 qx40_s0 T40 L40 X40 N40 e40
            show OwnEnd _ _ _ _ _ _ _ (T40.setTop (mkF m 298 (fL28 p0 p1 p2 p3 p0 x1 x2 x3 p1 x4 x17_10 x17_11 x19_12 x19_13 x21_14 x21_15 x10 x11 x12 x17_19 x19_20 x21_21 x22 x23 b24 b28) [(.int x40_s0)]))
            refine go (fun _ k => by refine XS.istore X40.here hx rfl (hb hby at_298) rfl (l' := (fL29 p0 p1 p2 p3 p0 x1 x2 x3 p1 x4 x17_10 x17_11 x19_12 x19_13 x21_14 x21_15 x10 x11 x12 x17_19 x19_20 x21_21 x22 x23 b24 b28 x40_s0)) rfl ?_; exact k) ?_
            refine go (fun _ k => by refine XS.aload X40.here hx rfl (hb hby at_300) rfl rfl ?_; exact k) ?_
            refine go (fun _ k => by refine XS.aload X40.here hx rfl (hb hby at_302) rfl rfl ?_; exact k) ?_
            show OwnEnd _ _ _ _ _ _ _ (T40.setTop (mkF m 304 (fL29 p0 p1 p2 p3 p0 x1 x2 x3 p1 x4 x17_10 x17_11 x19_12 x19_13 x21_14 x21_15 x10 x11 x12 x17_19 x19_20 x21_21 x22 x23 b24 b28 x40_s0) [(.ref b28), (.ref b24)]))
            obtain ⟨_, T41, L41, X41, hQ41, st41⟩ := callVirt X40 hx hZ hown (hw _ (List.mem_of_getElem? (i := 46) rfl)) (hw _ (List.mem_of_getElem? (i := 47) rfl)) (notFace_of_selects (args := #[]) (mvT hZ (hw _ (List.mem_of_getElem? (i := 49) rfl)))) (hw _ (List.mem_of_getElem? (i := 49) rfl)) (hw _ (List.mem_of_getElem? (i := 48) rfl)) (hw _ (List.mem_of_getElem? (i := 32) rfl)) (hw _ (List.mem_of_getElem? (i := 50) rfl)) (by decide) (rm_eqv l Z a0 hw [] b24 b28 x23 x25 x26 x29 x30 x31 t23 t25 t26 t29 t30 t31 kb23 kb25 kb26 kb29 kb30 kb31 (own_cs x10 p0 x1) (own_cs x11 x2 x3) (own_cs x12 p1 x4) (own_cs x17_19 x17_10 x17_11) (own_cs x19_20 x19_12 x19_13) (own_cs x21_21 x21_14 x21_15) cs T32.heap n0 F_namespace_b24 F_userId_b24 F_propertyId_b24 F_namespace_b28 F_userId_b28 F_propertyId_b28 E_b28 E_x23 FV_x23 FC_x23 V_t23 (own_csr _ _ _) (own_csl _ _ _) E_x25 FV_x25 FC_x25 V_t25 (own_csr _ _ _) (own_csl _ _ _) E_x26 FV_x26 FC_x26 V_t26 (own_csr _ _ _) (own_csl _ _ _) E_x29 FV_x29 FC_x29 V_t29 (own_csr _ _ _) (own_csl _ _ _) E_x30 FV_x30 FC_x30 V_t30 (own_csr _ _ _) (own_csl _ _ _) E_x31 FV_x31 FC_x31 V_t31 (own_csr _ _ _) (own_csl _ _ _) O SC0 c1) (W := 0) (by decide) (by decide) e40 E_b24 (g := (mkF m 304 (fL29 p0 p1 p2 p3 p0 x1 x2 x3 p1 x4 x17_10 x17_11 x19_12 x19_13 x21_14 x21_15 x10 x11 x12 x17_19 x19_20 x21_21 x22 x23 b24 b28 x40_s0) [(.ref b28), (.ref b24)])) rfl (by rw [hml]; rfl) (argsL := [(.ref b28)]) (rest := []) rfl (lenOf pd__Ljava_lang_Object__Z rfl) rfl (by show 2 * 0 + _ ≤ _; exact Nat.le_of_eq rfl) (hb hby at_304) (by decide) (by decide)
            obtain ⟨rfl, Nq41, eq41⟩ := hQ41
            have N41 := Fr.app N40 Nq41
            refine go st41 ?_
            refine go (fun _ k => by refine XS.iload X41.here hx rfl (hb hby at_307) rfl ?_; exact k) ?_
            show OwnEnd _ _ _ _ _ _ _ (T41.setTop (mkF m 309 (fL29 p0 p1 p2 p3 p0 x1 x2 x3 p1 x4 x17_10 x17_11 x19_12 x19_13 x21_14 x21_15 x10 x11 x12 x17_19 x19_20 x21_21 x22 x23 b24 b28 x40_s0) [(.int x40_s0), (.int (if own_eq3 (own_cs x10 p0 x1) (own_cs x11 x2 x3) (own_cs x12 p1 x4) (own_cs x17_19 x17_10 x17_11) (own_cs x19_20 x19_12 x19_13) (own_cs x21_21 x21_14 x21_15) then (1 : Int32) else 0))]))
            by_cases hc309_42 : (if own_eq3 (own_cs x10 p0 x1) (own_cs x11 x2 x3) (own_cs x12 p1 x4) (own_cs x17_19 x17_10 x17_11) (own_cs x19_20 x19_12 x19_13) (own_cs x21_21 x21_14 x21_15) then (1 : Int32) else 0) = x40_s0
            · refine go (fun _ k => by refine XS.icmpNo X41.here hx rfl (hb hby at_309) rfl (teq hc309_42).2 ?_; exact k) ?_
              show OwnEnd _ _ _ _ _ _ _ (T41.setTop (mkF m 312 (fL29 p0 p1 p2 p3 p0 x1 x2 x3 p1 x4 x17_10 x17_11 x19_12 x19_13 x21_14 x21_15 x10 x11 x12 x17_19 x19_20 x21_21 x22 x23 b24 b28 x40_s0) []))
              refine go (fun _ k => by refine XS.aload X41.here hx rfl (hb hby at_312) rfl rfl ?_; exact k) ?_
              refine go (fun _ k => by refine XS.aload X41.here hx rfl (hb hby at_314) rfl rfl ?_; exact k) ?_
              show OwnEnd _ _ _ _ _ _ _ (T41.setTop (mkF m 316 (fL29 p0 p1 p2 p3 p0 x1 x2 x3 p1 x4 x17_10 x17_11 x19_12 x19_13 x21_14 x21_15 x10 x11 x12 x17_19 x19_20 x21_21 x22 x23 b24 b28 x40_s0) [(.ref b24), (.ref b28)]))
              obtain ⟨_, T43, L43, X43, hQ43, st43⟩ := callVirt X41 hx hZ hown (hw _ (List.mem_of_getElem? (i := 46) rfl)) (hw _ (List.mem_of_getElem? (i := 47) rfl)) (notFace_of_selects (args := #[]) (mvT hZ (hw _ (List.mem_of_getElem? (i := 49) rfl)))) (hw _ (List.mem_of_getElem? (i := 49) rfl)) (hw _ (List.mem_of_getElem? (i := 48) rfl)) (hw _ (List.mem_of_getElem? (i := 32) rfl)) (hw _ (List.mem_of_getElem? (i := 50) rfl)) (by decide) (rm_eqv l Z a0 hw [] b28 b24 x29 x30 x31 x23 x25 x26 t29 t30 t31 t23 t25 t26 kb29 kb30 kb31 kb23 kb25 kb26 (own_cs x17_19 x17_10 x17_11) (own_cs x19_20 x19_12 x19_13) (own_cs x21_21 x21_14 x21_15) (own_cs x10 p0 x1) (own_cs x11 x2 x3) (own_cs x12 p1 x4) cs T32.heap n0 F_namespace_b28 F_userId_b28 F_propertyId_b28 F_namespace_b24 F_userId_b24 F_propertyId_b24 E_b24 E_x29 FV_x29 FC_x29 V_t29 (own_csr _ _ _) (own_csl _ _ _) E_x30 FV_x30 FC_x30 V_t30 (own_csr _ _ _) (own_csl _ _ _) E_x31 FV_x31 FC_x31 V_t31 (own_csr _ _ _) (own_csl _ _ _) E_x23 FV_x23 FC_x23 V_t23 (own_csr _ _ _) (own_csl _ _ _) E_x25 FV_x25 FC_x25 V_t25 (own_csr _ _ _) (own_csl _ _ _) E_x26 FV_x26 FC_x26 V_t26 (own_csr _ _ _) (own_csl _ _ _) O SC0 c1) (W := 0) (by decide) (by decide) eq41 E_b28 (g := (mkF m 316 (fL29 p0 p1 p2 p3 p0 x1 x2 x3 p1 x4 x17_10 x17_11 x19_12 x19_13 x21_14 x21_15 x10 x11 x12 x17_19 x19_20 x21_21 x22 x23 b24 b28 x40_s0) [(.ref b24), (.ref b28)])) rfl (by rw [hml]; rfl) (argsL := [(.ref b24)]) (rest := []) rfl (lenOf pd__Ljava_lang_Object__Z rfl) rfl (by show 2 * 0 + _ ≤ _; exact Nat.le_of_eq rfl) (hb hby at_316) (by decide) (by decide)
              obtain ⟨rfl, Nq43, eq43⟩ := hQ43
              have N43 := Fr.app N41 Nq43
              refine go st43 ?_
              refine go (fun _ k => by refine XS.iload X43.here hx rfl (hb hby at_319) rfl ?_; exact k) ?_
              show OwnEnd _ _ _ _ _ _ _ (T43.setTop (mkF m 321 (fL29 p0 p1 p2 p3 p0 x1 x2 x3 p1 x4 x17_10 x17_11 x19_12 x19_13 x21_14 x21_15 x10 x11 x12 x17_19 x19_20 x21_21 x22 x23 b24 b28 x40_s0) [(.int x40_s0), (.int (if own_eq3 (own_cs x17_19 x17_10 x17_11) (own_cs x19_20 x19_12 x19_13) (own_cs x21_21 x21_14 x21_15) (own_cs x10 p0 x1) (own_cs x11 x2 x3) (own_cs x12 p1 x4) then (1 : Int32) else 0))]))
              by_cases hc321_44 : (if own_eq3 (own_cs x17_19 x17_10 x17_11) (own_cs x19_20 x19_12 x19_13) (own_cs x21_21 x21_14 x21_15) (own_cs x10 p0 x1) (own_cs x11 x2 x3) (own_cs x12 p1 x4) then (1 : Int32) else 0) = x40_s0
              · refine go (fun _ k => by refine XS.icmpNo X43.here hx rfl (hb hby at_321) rfl (teq hc321_44).2 ?_; exact k) ?_
                show OwnEnd _ _ _ _ _ _ _ (T43.setTop (mkF m 324 (fL29 p0 p1 p2 p3 p0 x1 x2 x3 p1 x4 x17_10 x17_11 x19_12 x19_13 x21_14 x21_15 x10 x11 x12 x17_19 x19_20 x21_21 x22 x23 b24 b28 x40_s0) []))
                refine go (fun _ k => by refine XS.iconst X43.here hx rfl (hb hby at_324) ?_; exact k) ?_
                refine go (fun _ k => by refine XS.goto X43.here hx rfl (pc0 := 325) (pc' := 329) rfl (hb hby at_325) (by decide) (by decide) ?_; exact k) ?_
                show OwnEnd _ _ _ _ _ _ _ (T43.setTop (mkF m 329 (fL29 p0 p1 p2 p3 p0 x1 x2 x3 p1 x4 x17_10 x17_11 x19_12 x19_13 x21_14 x21_15 x10 x11 x12 x17_19 x19_20 x21_21 x22 x23 b24 b28 x40_s0) [(.int (1 : Int32))]))
                refine endN X43 hx hlk (t := .boolean) (by simp) Bd.returns (hb hby at_329) eq43 (by decide) (by decide) ?_
                exact ⟨rfl, N43⟩
              · refine go (fun _ k => by refine XS.icmpYes X43.here hx rfl (pc0 := 321) (pc' := 328) rfl (hb hby at_321) rfl (feq hc321_44).2 (by decide) (by decide) ?_; exact k) ?_
                show OwnEnd _ _ _ _ _ _ _ (T43.setTop (mkF m 328 (fL29 p0 p1 p2 p3 p0 x1 x2 x3 p1 x4 x17_10 x17_11 x19_12 x19_13 x21_14 x21_15 x10 x11 x12 x17_19 x19_20 x21_21 x22 x23 b24 b28 x40_s0) []))
                refine go (fun _ k => by refine XS.iconst X43.here hx rfl (hb hby at_328) ?_; exact k) ?_
                show OwnEnd _ _ _ _ _ _ _ (T43.setTop (mkF m 329 (fL29 p0 p1 p2 p3 p0 x1 x2 x3 p1 x4 x17_10 x17_11 x19_12 x19_13 x21_14 x21_15 x10 x11 x12 x17_19 x19_20 x21_21 x22 x23 b24 b28 x40_s0) [(.int (0 : Int32))]))
                refine endN X43 hx hlk (t := .boolean) (by simp) Bd.returns (hb hby at_329) eq43 (by decide) (by decide) ?_
                exact absurd (own_fin _ _ _ _ _ _ _ _ _ _ _ _ _ _ _ _ _ _ _ qx40_s0).2 hc321_44
            · refine go (fun _ k => by refine XS.icmpYes X41.here hx rfl (pc0 := 309) (pc' := 328) rfl (hb hby at_309) rfl (feq hc309_42).2 (by decide) (by decide) ?_; exact k) ?_
              show OwnEnd _ _ _ _ _ _ _ (T41.setTop (mkF m 328 (fL29 p0 p1 p2 p3 p0 x1 x2 x3 p1 x4 x17_10 x17_11 x19_12 x19_13 x21_14 x21_15 x10 x11 x12 x17_19 x19_20 x21_21 x22 x23 b24 b28 x40_s0) []))
              refine go (fun _ k => by refine XS.iconst X41.here hx rfl (hb hby at_328) ?_; exact k) ?_
              show OwnEnd _ _ _ _ _ _ _ (T41.setTop (mkF m 329 (fL29 p0 p1 p2 p3 p0 x1 x2 x3 p1 x4 x17_10 x17_11 x19_12 x19_13 x21_14 x21_15 x10 x11 x12 x17_19 x19_20 x21_21 x22 x23 b24 b28 x40_s0) [(.int (0 : Int32))]))
              refine endN X41 hx hlk (t := .boolean) (by simp) Bd.returns (hb hby at_329) eq41 (by decide) (by decide) ?_
              exact absurd (own_fin _ _ _ _ _ _ _ _ _ _ _ _ _ _ _ _ _ _ _ qx40_s0).1 hc309_42
          by_cases hc254_35 : (own_same x10 p0 x1 x17_19 x17_10 x17_11) = (0 : Int32)
          · refine go (fun _ k => by refine XS.ifYes X34.here hx rfl (pc0 := 254) (pc' := 297) rfl (hb hby at_254) rfl ((if0 _ _).trans (teq hc254_35).1) (by decide) (by decide) ?_; exact k) ?_
            show OwnEnd _ _ _ _ _ _ _ (T34.setTop (mkF m 297 (fL28 p0 p1 p2 p3 p0 x1 x2 x3 p1 x4 x17_10 x17_11 x19_12 x19_13 x21_14 x21_15 x10 x11 x12 x17_19 x19_20 x21_21 x22 x23 b24 b28) []))
            refine go (fun _ k => by refine XS.iconst X34.here hx rfl (hb hby at_297) ?_; exact k) ?_
            exact J40 (0 : Int32) (by rw [if_pos hc254_35]) _ _ X34 N34 eq34
          · refine go (fun _ k => by refine XS.ifNo X34.here hx rfl (hb hby at_254) rfl ((if0 _ _).trans (feq hc254_35).1) ?_; exact k) ?_
            show OwnEnd _ _ _ _ _ _ _ (T34.setTop (mkF m 257 (fL28 p0 p1 p2 p3 p0 x1 x2 x3 p1 x4 x17_10 x17_11 x19_12 x19_13 x21_14 x21_15 x10 x11 x12 x17_19 x19_20 x21_21 x22 x23 b24 b28) []))
            refine go (fun _ k => by refine XS.iload X34.here hx rfl (hb hby at_257) rfl ?_; exact k) ?_
            refine go (fun _ k => by refine XS.iload X34.here hx rfl (hb hby at_259) rfl ?_; exact k) ?_
            refine go (fun _ k => by refine XS.iload X34.here hx rfl (hb hby at_261) rfl ?_; exact k) ?_
            refine go (fun _ k => by refine XS.iload X34.here hx rfl (hb hby at_263) rfl ?_; exact k) ?_
            show OwnEnd _ _ _ _ _ _ _ (T34.setTop (mkF m 265 (fL28 p0 p1 p2 p3 p0 x1 x2 x3 p1 x4 x17_10 x17_11 x19_12 x19_13 x21_14 x21_15 x10 x11 x12 x17_19 x19_20 x21_21 x22 x23 b24 b28) [(.int x19_20), (.int x3), (.int x2), (.int x11)]))
            refine go (fun _ k => by refine XS.iload X34.here hx rfl (hb hby at_265) rfl ?_; exact k) ?_
            refine go (fun _ k => by refine XS.iload X34.here hx rfl (hb hby at_267) rfl ?_; exact k) ?_
            show OwnEnd _ _ _ _ _ _ _ (T34.setTop (mkF m 269 (fL28 p0 p1 p2 p3 p0 x1 x2 x3 p1 x4 x17_10 x17_11 x19_12 x19_13 x21_14 x21_15 x10 x11 x12 x17_19 x19_20 x21_21 x22 x23 b24 b28) [(.int x19_13), (.int x19_12), (.int x19_20), (.int x3), (.int x2), (.int x11)]))
            obtain ⟨_, T36, L36, X36, hQ36, st36⟩ := callStat X34 hx hZ hown (hw _ (List.mem_of_getElem? (i := 43) rfl)) (hw _ (List.mem_of_getElem? (i := 44) rfl)) (hw _ (List.mem_of_getElem? (i := 2) rfl)) (hw _ (List.mem_of_getElem? (i := 45) rfl)) (by decide) (rm_sam l Z a0 hw [] x11 x2 x3 x19_20 x19_12 x19_13 T32.heap n0 ) (W := 0) (by decide) (by decide) eq34 (g := (mkF m 269 (fL28 p0 p1 p2 p3 p0 x1 x2 x3 p1 x4 x17_10 x17_11 x19_12 x19_13 x21_14 x21_15 x10 x11 x12 x17_19 x19_20 x21_21 x22 x23 b24 b28) [(.int x19_13), (.int x19_12), (.int x19_20), (.int x3), (.int x2), (.int x11)])) rfl (by rw [hml]; rfl) (argsL := [(.int x11), (.int x2), (.int x3), (.int x19_20), (.int x19_12), (.int x19_13)]) (rest := []) rfl (lenOf pd__IIIIII_Z rfl) rfl (by show 2 * 0 + _ ≤ _; exact Nat.le_of_eq rfl) (hb hby at_269) (by decide) (by decide)
            obtain ⟨rfl, Nq36, eq36⟩ := hQ36
            have N36 := Fr.app N34 Nq36
            refine go st36 ?_
            show OwnEnd _ _ _ _ _ _ _ (T36.setTop (mkF m 272 (fL28 p0 p1 p2 p3 p0 x1 x2 x3 p1 x4 x17_10 x17_11 x19_12 x19_13 x21_14 x21_15 x10 x11 x12 x17_19 x19_20 x21_21 x22 x23 b24 b28) [(.int (own_same x11 x2 x3 x19_20 x19_12 x19_13))]))
            by_cases hc272_37 : (own_same x11 x2 x3 x19_20 x19_12 x19_13) = (0 : Int32)
            · refine go (fun _ k => by refine XS.ifYes X36.here hx rfl (pc0 := 272) (pc' := 297) rfl (hb hby at_272) rfl ((if0 _ _).trans (teq hc272_37).1) (by decide) (by decide) ?_; exact k) ?_
              show OwnEnd _ _ _ _ _ _ _ (T36.setTop (mkF m 297 (fL28 p0 p1 p2 p3 p0 x1 x2 x3 p1 x4 x17_10 x17_11 x19_12 x19_13 x21_14 x21_15 x10 x11 x12 x17_19 x19_20 x21_21 x22 x23 b24 b28) []))
              refine go (fun _ k => by refine XS.iconst X36.here hx rfl (hb hby at_297) ?_; exact k) ?_
              exact J40 (0 : Int32) (by rw [if_neg hc254_35, if_pos hc272_37]) _ _ X36 N36 eq36
            · refine go (fun _ k => by refine XS.ifNo X36.here hx rfl (hb hby at_272) rfl ((if0 _ _).trans (feq hc272_37).1) ?_; exact k) ?_
              show OwnEnd _ _ _ _ _ _ _ (T36.setTop (mkF m 275 (fL28 p0 p1 p2 p3 p0 x1 x2 x3 p1 x4 x17_10 x17_11 x19_12 x19_13 x21_14 x21_15 x10 x11 x12 x17_19 x19_20 x21_21 x22 x23 b24 b28) []))
              refine go (fun _ k => by refine XS.iload X36.here hx rfl (hb hby at_275) rfl ?_; exact k) ?_
              refine go (fun _ k => by refine XS.iload X36.here hx rfl (hb hby at_277) rfl ?_; exact k) ?_
              refine go (fun _ k => by refine XS.iload X36.here hx rfl (hb hby at_279) rfl ?_; exact k) ?_
              refine go (fun _ k => by refine XS.iload X36.here hx rfl (hb hby at_281) rfl ?_; exact k) ?_
              show OwnEnd _ _ _ _ _ _ _ (T36.setTop (mkF m 283 (fL28 p0 p1 p2 p3 p0 x1 x2 x3 p1 x4 x17_10 x17_11 x19_12 x19_13 x21_14 x21_15 x10 x11 x12 x17_19 x19_20 x21_21 x22 x23 b24 b28) [(.int x21_21), (.int x4), (.int p1), (.int x12)]))
              refine go (fun _ k => by refine XS.iload X36.here hx rfl (hb hby at_283) rfl ?_; exact k) ?_
              refine go (fun _ k => by refine XS.iload X36.here hx rfl (hb hby at_285) rfl ?_; exact k) ?_
              show OwnEnd _ _ _ _ _ _ _ (T36.setTop (mkF m 287 (fL28 p0 p1 p2 p3 p0 x1 x2 x3 p1 x4 x17_10 x17_11 x19_12 x19_13 x21_14 x21_15 x10 x11 x12 x17_19 x19_20 x21_21 x22 x23 b24 b28) [(.int x21_15), (.int x21_14), (.int x21_21), (.int x4), (.int p1), (.int x12)]))
              obtain ⟨_, T38, L38, X38, hQ38, st38⟩ := callStat X36 hx hZ hown (hw _ (List.mem_of_getElem? (i := 43) rfl)) (hw _ (List.mem_of_getElem? (i := 44) rfl)) (hw _ (List.mem_of_getElem? (i := 2) rfl)) (hw _ (List.mem_of_getElem? (i := 45) rfl)) (by decide) (rm_sam l Z a0 hw [] x12 p1 x4 x21_21 x21_14 x21_15 T32.heap n0 ) (W := 0) (by decide) (by decide) eq36 (g := (mkF m 287 (fL28 p0 p1 p2 p3 p0 x1 x2 x3 p1 x4 x17_10 x17_11 x19_12 x19_13 x21_14 x21_15 x10 x11 x12 x17_19 x19_20 x21_21 x22 x23 b24 b28) [(.int x21_15), (.int x21_14), (.int x21_21), (.int x4), (.int p1), (.int x12)])) rfl (by rw [hml]; rfl) (argsL := [(.int x12), (.int p1), (.int x4), (.int x21_21), (.int x21_14), (.int x21_15)]) (rest := []) rfl (lenOf pd__IIIIII_Z rfl) rfl (by show 2 * 0 + _ ≤ _; exact Nat.le_of_eq rfl) (hb hby at_287) (by decide) (by decide)
              obtain ⟨rfl, Nq38, eq38⟩ := hQ38
              have N38 := Fr.app N36 Nq38
              refine go st38 ?_
              show OwnEnd _ _ _ _ _ _ _ (T38.setTop (mkF m 290 (fL28 p0 p1 p2 p3 p0 x1 x2 x3 p1 x4 x17_10 x17_11 x19_12 x19_13 x21_14 x21_15 x10 x11 x12 x17_19 x19_20 x21_21 x22 x23 b24 b28) [(.int (own_same x12 p1 x4 x21_21 x21_14 x21_15))]))
              by_cases hc290_39 : (own_same x12 p1 x4 x21_21 x21_14 x21_15) = (0 : Int32)
              · refine go (fun _ k => by refine XS.ifYes X38.here hx rfl (pc0 := 290) (pc' := 297) rfl (hb hby at_290) rfl ((if0 _ _).trans (teq hc290_39).1) (by decide) (by decide) ?_; exact k) ?_
                show OwnEnd _ _ _ _ _ _ _ (T38.setTop (mkF m 297 (fL28 p0 p1 p2 p3 p0 x1 x2 x3 p1 x4 x17_10 x17_11 x19_12 x19_13 x21_14 x21_15 x10 x11 x12 x17_19 x19_20 x21_21 x22 x23 b24 b28) []))
                refine go (fun _ k => by refine XS.iconst X38.here hx rfl (hb hby at_297) ?_; exact k) ?_
                exact J40 (0 : Int32) (by rw [if_neg hc254_35, if_neg hc272_37, if_pos hc290_39]) _ _ X38 N38 eq38
              · refine go (fun _ k => by refine XS.ifNo X38.here hx rfl (hb hby at_290) rfl ((if0 _ _).trans (feq hc290_39).1) ?_; exact k) ?_
                show OwnEnd _ _ _ _ _ _ _ (T38.setTop (mkF m 293 (fL28 p0 p1 p2 p3 p0 x1 x2 x3 p1 x4 x17_10 x17_11 x19_12 x19_13 x21_14 x21_15 x10 x11 x12 x17_19 x19_20 x21_21 x22 x23 b24 b28) []))
                refine go (fun _ k => by refine XS.iconst X38.here hx rfl (hb hby at_293) ?_; exact k) ?_
                refine go (fun _ k => by refine XS.goto X38.here hx rfl (pc0 := 294) (pc' := 298) rfl (hb hby at_294) (by decide) (by decide) ?_; exact k) ?_
                exact J40 (1 : Int32) (by rw [if_neg hc254_35, if_neg hc272_37, if_neg hc290_39]) _ _ X38 N38 eq38
        · refine go (fun _ k => by refine XS.ifYes X32.here hx rfl (pc0 := 236) (pc' := 330) rfl (hb hby at_236) rfl ((if0 _ _).trans (feq hc236_33).2) (by decide) (by decide) ?_; exact k) ?_
          show OwnEnd _ _ _ _ _ _ _ (T32.setTop (mkF m 330 (fL28 p0 p1 p2 p3 p0 x1 x2 x3 p1 x4 x17_10 x17_11 x19_12 x19_13 x21_14 x21_15 x10 x11 x12 x17_19 x19_20 x21_21 x22 x23 b24 b28) []))
          refine go (fun _ k => by refine XS.iload X32.here hx rfl (hb hby at_330) rfl ?_; exact k) ?_
          refine go (fun _ k => by refine XS.iconst X32.here hx rfl (hb hby at_332) ?_; exact k) ?_
          show OwnEnd _ _ _ _ _ _ _ (T32.setTop (mkF m 333 (fL28 p0 p1 p2 p3 p0 x1 x2 x3 p1 x4 x17_10 x17_11 x19_12 x19_13 x21_14 x21_15 x10 x11 x12 x17_19 x19_20 x21_21 x22 x23 b24 b28) [(.int (1 : Int32)), (.int x22)]))
          by_cases hc333_45 : x22 = (1 : Int32)
          · refine go (fun _ k => by refine XS.icmpNo X32.here hx rfl (hb hby at_333) rfl (teq hc333_45).2 ?_; exact k) ?_
            show OwnEnd _ _ _ _ _ _ _ (T32.setTop (mkF m 336 (fL28 p0 p1 p2 p3 p0 x1 x2 x3 p1 x4 x17_10 x17_11 x19_12 x19_13 x21_14 x21_15 x10 x11 x12 x17_19 x19_20 x21_21 x22 x23 b24 b28) []))
            refine go (fun _ k => by refine XS.aconstNull X32.here hx rfl (hb hby at_336) ?_; exact k) ?_
            refine go (fun _ k => by refine XS.astore X32.here hx rfl (hb hby at_337) rfl rfl (l' := (fL30 p0 p1 p2 p3 p0 x1 x2 x3 p1 x4 x17_10 x17_11 x19_12 x19_13 x21_14 x21_15 x10 x11 x12 x17_19 x19_20 x21_21 x22 x23 b24 b28)) rfl ?_; exact k) ?_
            refine go (fun _ k => by refine XS.aload X32.here hx rfl (hb hby at_339) rfl rfl ?_; exact k) ?_
            refine go (fun _ k => by refine XS.aload X32.here hx rfl (hb hby at_341) rfl rfl ?_; exact k) ?_
            show OwnEnd _ _ _ _ _ _ _ (T32.setTop (mkF m 343 (fL30 p0 p1 p2 p3 p0 x1 x2 x3 p1 x4 x17_10 x17_11 x19_12 x19_13 x21_14 x21_15 x10 x11 x12 x17_19 x19_20 x21_21 x22 x23 b24 b28) [.null, (.ref b24)]))
            obtain ⟨_, T46, L46, X46, hQ46, st46⟩ := callVirt X32 hx hZ hown (hw _ (List.mem_of_getElem? (i := 46) rfl)) (hw _ (List.mem_of_getElem? (i := 47) rfl)) (notFace_of_selects (args := #[]) (mvT hZ (hw _ (List.mem_of_getElem? (i := 49) rfl)))) (hw _ (List.mem_of_getElem? (i := 49) rfl)) (hw _ (List.mem_of_getElem? (i := 48) rfl)) (hw _ (List.mem_of_getElem? (i := 32) rfl)) (hw _ (List.mem_of_getElem? (i := 50) rfl)) (by decide) (rm_eqn l Z a0 hw [] b24 T32.heap n0) (W := 0) (by decide) (by decide) rfl E_b24 (g := (mkF m 343 (fL30 p0 p1 p2 p3 p0 x1 x2 x3 p1 x4 x17_10 x17_11 x19_12 x19_13 x21_14 x21_15 x10 x11 x12 x17_19 x19_20 x21_21 x22 x23 b24 b28) [.null, (.ref b24)])) rfl (by rw [hml]; rfl) (argsL := [.null]) (rest := []) rfl (lenOf pd__Ljava_lang_Object__Z rfl) rfl (by show 2 * 0 + _ ≤ _; exact Nat.le_of_eq rfl) (hb hby at_343) (by decide) (by decide)
            obtain ⟨rfl, Nq46, eq46⟩ := hQ46
            have N46 := Fr.app N32 Nq46
            refine go st46 ?_
            show OwnEnd _ _ _ _ _ _ _ (T46.setTop (mkF m 346 (fL30 p0 p1 p2 p3 p0 x1 x2 x3 p1 x4 x17_10 x17_11 x19_12 x19_13 x21_14 x21_15 x10 x11 x12 x17_19 x19_20 x21_21 x22 x23 b24 b28) [(.int (0 : Int32))]))
            refine go (fun _ k => by refine XS.ifNo X46.here hx rfl (hb hby at_346) rfl ((if0 _ _).trans (teq (by decide)).2) ?_; exact k) ?_
            refine go (fun _ k => by refine XS.iconst X46.here hx rfl (hb hby at_349) ?_; exact k) ?_
            refine go (fun _ k => by refine XS.goto X46.here hx rfl (pc0 := 350) (pc' := 354) rfl (hb hby at_350) (by decide) (by decide) ?_; exact k) ?_
            show OwnEnd _ _ _ _ _ _ _ (T46.setTop (mkF m 354 (fL30 p0 p1 p2 p3 p0 x1 x2 x3 p1 x4 x17_10 x17_11 x19_12 x19_13 x21_14 x21_15 x10 x11 x12 x17_19 x19_20 x21_21 x22 x23 b24 b28) [(.int (1 : Int32))]))
            refine endN X46 hx hlk (t := .boolean) (by simp) Bd.returns (hb hby at_354) eq46 (by decide) (by decide) ?_
            exact ⟨rfl, N46⟩
          · refine go (fun _ k => by refine XS.icmpYes X32.here hx rfl (pc0 := 333) (pc' := 355) rfl (hb hby at_333) rfl (feq hc333_45).2 (by decide) (by decide) ?_; exact k) ?_
            show OwnEnd _ _ _ _ _ _ _ (T32.setTop (mkF m 355 (fL28 p0 p1 p2 p3 p0 x1 x2 x3 p1 x4 x17_10 x17_11 x19_12 x19_13 x21_14 x21_15 x10 x11 x12 x17_19 x19_20 x21_21 x22 x23 b24 b28) []))
            refine go (fun _ k => by refine XS.iload X32.here hx rfl (hb hby at_355) rfl ?_; exact k) ?_
            refine go (fun _ k => by refine XS.iconst X32.here hx rfl (hb hby at_357) ?_; exact k) ?_
            show OwnEnd _ _ _ _ _ _ _ (T32.setTop (mkF m 358 (fL28 p0 p1 p2 p3 p0 x1 x2 x3 p1 x4 x17_10 x17_11 x19_12 x19_13 x21_14 x21_15 x10 x11 x12 x17_19 x19_20 x21_21 x22 x23 b24 b28) [(.int (2 : Int32)), (.int x22)]))
            by_cases hc358_47 : x22 = (2 : Int32)
            · refine go (fun _ k => by refine XS.icmpNo X32.here hx rfl (hb hby at_358) rfl (teq hc358_47).2 ?_; exact k) ?_
              show OwnEnd _ _ _ _ _ _ _ (T32.setTop (mkF m 361 (fL28 p0 p1 p2 p3 p0 x1 x2 x3 p1 x4 x17_10 x17_11 x19_12 x19_13 x21_14 x21_15 x10 x11 x12 x17_19 x19_20 x21_21 x22 x23 b24 b28) []))
              refine go (fun _ k => by refine XS.aload X32.here hx rfl (hb hby at_361) rfl rfl ?_; exact k) ?_
              refine go (fun _ k => by refine XS.astore X32.here hx rfl (hb hby at_363) rfl rfl (l' := (fL31 p0 p1 p2 p3 p0 x1 x2 x3 p1 x4 x17_10 x17_11 x19_12 x19_13 x21_14 x21_15 x10 x11 x12 x17_19 x19_20 x21_21 x22 x23 b24 b28 x23)) rfl ?_; exact k) ?_
              refine go (fun _ k => by refine XS.aload X32.here hx rfl (hb hby at_365) rfl rfl ?_; exact k) ?_
              refine go (fun _ k => by refine XS.aload X32.here hx rfl (hb hby at_367) rfl rfl ?_; exact k) ?_
              show OwnEnd _ _ _ _ _ _ _ (T32.setTop (mkF m 369 (fL31 p0 p1 p2 p3 p0 x1 x2 x3 p1 x4 x17_10 x17_11 x19_12 x19_13 x21_14 x21_15 x10 x11 x12 x17_19 x19_20 x21_21 x22 x23 b24 b28 x23) [(.ref x23), (.ref b24)]))
              obtain ⟨_, T48, L48, X48, hQ48, st48⟩ := callVirt X32 hx hZ hown (hw _ (List.mem_of_getElem? (i := 46) rfl)) (hw _ (List.mem_of_getElem? (i := 47) rfl)) (notFace_of_selects (args := #[]) (mvT hZ (hw _ (List.mem_of_getElem? (i := 49) rfl)))) (hw _ (List.mem_of_getElem? (i := 49) rfl)) (hw _ (List.mem_of_getElem? (i := 48) rfl)) (hw _ (List.mem_of_getElem? (i := 32) rfl)) (hw _ (List.mem_of_getElem? (i := 50) rfl)) (by decide) (rm_eqb l Z a0 hw [] b24 x23 T32.heap n0 E_x23) (W := 0) (by decide) (by decide) rfl E_b24 (g := (mkF m 369 (fL31 p0 p1 p2 p3 p0 x1 x2 x3 p1 x4 x17_10 x17_11 x19_12 x19_13 x21_14 x21_15 x10 x11 x12 x17_19 x19_20 x21_21 x22 x23 b24 b28 x23) [(.ref x23), (.ref b24)])) rfl (by rw [hml]; rfl) (argsL := [(.ref x23)]) (rest := []) rfl (lenOf pd__Ljava_lang_Object__Z rfl) rfl (by show 2 * 0 + _ ≤ _; exact Nat.le_of_eq rfl) (hb hby at_369) (by decide) (by decide)
              obtain ⟨rfl, Nq48, eq48⟩ := hQ48
              have N48 := Fr.app N32 Nq48
              refine go st48 ?_
              show OwnEnd _ _ _ _ _ _ _ (T48.setTop (mkF m 372 (fL31 p0 p1 p2 p3 p0 x1 x2 x3 p1 x4 x17_10 x17_11 x19_12 x19_13 x21_14 x21_15 x10 x11 x12 x17_19 x19_20 x21_21 x22 x23 b24 b28 x23) [(.int (0 : Int32))]))
              refine go (fun _ k => by refine XS.ifNo X48.here hx rfl (hb hby at_372) rfl ((if0 _ _).trans (teq (by decide)).2) ?_; exact k) ?_
              refine go (fun _ k => by refine XS.iconst X48.here hx rfl (hb hby at_375) ?_; exact k) ?_
              refine go (fun _ k => by refine XS.goto X48.here hx rfl (pc0 := 376) (pc' := 380) rfl (hb hby at_376) (by decide) (by decide) ?_; exact k) ?_
              show OwnEnd _ _ _ _ _ _ _ (T48.setTop (mkF m 380 (fL31 p0 p1 p2 p3 p0 x1 x2 x3 p1 x4 x17_10 x17_11 x19_12 x19_13 x21_14 x21_15 x10 x11 x12 x17_19 x19_20 x21_21 x22 x23 b24 b28 x23) [(.int (1 : Int32))]))
              refine endN X48 hx hlk (t := .boolean) (by simp) Bd.returns (hb hby at_380) eq48 (by decide) (by decide) ?_
              exact ⟨rfl, N48⟩
            · refine go (fun _ k => by refine XS.icmpYes X32.here hx rfl (pc0 := 358) (pc' := 381) rfl (hb hby at_358) rfl (feq hc358_47).2 (by decide) (by decide) ?_; exact k) ?_
              show OwnEnd _ _ _ _ _ _ _ (T32.setTop (mkF m 381 (fL28 p0 p1 p2 p3 p0 x1 x2 x3 p1 x4 x17_10 x17_11 x19_12 x19_13 x21_14 x21_15 x10 x11 x12 x17_19 x19_20 x21_21 x22 x23 b24 b28) []))
              refine go (fun _ k => by refine XS.aload X32.here hx rfl (hb hby at_381) rfl rfl ?_; exact k) ?_
              refine go (fun _ k => by refine XS.astore X32.here hx rfl (hb hby at_383) rfl rfl (l' := (fL31 p0 p1 p2 p3 p0 x1 x2 x3 p1 x4 x17_10 x17_11 x19_12 x19_13 x21_14 x21_15 x10 x11 x12 x17_19 x19_20 x21_21 x22 x23 b24 b28 b24)) rfl ?_; exact k) ?_
              refine go (fun _ k => by refine XS.aload X32.here hx rfl (hb hby at_385) rfl rfl ?_; exact k) ?_
              refine go (fun _ k => by refine XS.aload X32.here hx rfl (hb hby at_387) rfl rfl ?_; exact k) ?_
              show OwnEnd _ _ _ _ _ _ _ (T32.setTop (mkF m 389 (fL31 p0 p1 p2 p3 p0 x1 x2 x3 p1 x4 x17_10 x17_11 x19_12 x19_13 x21_14 x21_15 x10 x11 x12 x17_19 x19_20 x21_21 x22 x23 b24 b28 b24) [(.ref b24), (.ref b24)]))
              obtain ⟨_, T49, L49, X49, hQ49, st49⟩ := callVirt X32 hx hZ hown (hw _ (List.mem_of_getElem? (i := 46) rfl)) (hw _ (List.mem_of_getElem? (i := 47) rfl)) (notFace_of_selects (args := #[]) (mvT hZ (hw _ (List.mem_of_getElem? (i := 49) rfl)))) (hw _ (List.mem_of_getElem? (i := 49) rfl)) (hw _ (List.mem_of_getElem? (i := 48) rfl)) (hw _ (List.mem_of_getElem? (i := 32) rfl)) (hw _ (List.mem_of_getElem? (i := 50) rfl)) (by decide) (rm_eqv l Z a0 hw [] b24 b24 x23 x25 x26 x23 x25 x26 t23 t25 t26 t23 t25 t26 kb23 kb25 kb26 kb23 kb25 kb26 (own_cs x10 p0 x1) (own_cs x11 x2 x3) (own_cs x12 p1 x4) (own_cs x10 p0 x1) (own_cs x11 x2 x3) (own_cs x12 p1 x4) cs T32.heap n0 F_namespace_b24 F_userId_b24 F_propertyId_b24 F_namespace_b24 F_userId_b24 F_propertyId_b24 E_b24 E_x23 FV_x23 FC_x23 V_t23 (own_csr _ _ _) (own_csl _ _ _) E_x25 FV_x25 FC_x25 V_t25 (own_csr _ _ _) (own_csl _ _ _) E_x26 FV_x26 FC_x26 V_t26 (own_csr _ _ _) (own_csl _ _ _) E_x23 FV_x23 FC_x23 V_t23 (own_csr _ _ _) (own_csl _ _ _) E_x25 FV_x25 FC_x25 V_t25 (own_csr _ _ _) (own_csl _ _ _) E_x26 FV_x26 FC_x26 V_t26 (own_csr _ _ _) (own_csl _ _ _) O SC0 c1) (W := 0) (by decide) (by decide) rfl E_b24 (g := (mkF m 389 (fL31 p0 p1 p2 p3 p0 x1 x2 x3 p1 x4 x17_10 x17_11 x19_12 x19_13 x21_14 x21_15 x10 x11 x12 x17_19 x19_20 x21_21 x22 x23 b24 b28 b24) [(.ref b24), (.ref b24)])) rfl (by rw [hml]; rfl) (argsL := [(.ref b24)]) (rest := []) rfl (lenOf pd__Ljava_lang_Object__Z rfl) rfl (by show 2 * 0 + _ ≤ _; exact Nat.le_of_eq rfl) (hb hby at_389) (by decide) (by decide)
              obtain ⟨rfl, Nq49, eq49⟩ := hQ49
              have N49 := Fr.app N32 Nq49
              refine go st49 ?_
              show OwnEnd _ _ _ _ _ _ _ (T49.setTop (mkF m 392 (fL31 p0 p1 p2 p3 p0 x1 x2 x3 p1 x4 x17_10 x17_11 x19_12 x19_13 x21_14 x21_15 x10 x11 x12 x17_19 x19_20 x21_21 x22 x23 b24 b28 b24) [(.int (if own_eq3 (own_cs x10 p0 x1) (own_cs x11 x2 x3) (own_cs x12 p1 x4) (own_cs x10 p0 x1) (own_cs x11 x2 x3) (own_cs x12 p1 x4) then (1 : Int32) else 0))]))
              refine endN X49 hx hlk (t := .boolean) (by simp) Bd.returns (hb hby at_392) eq49 (by decide) (by decide) ?_
              exact ⟨by rw [if_pos ⟨rfl, rfl, rfl⟩]; rfl, N49⟩
      by_cases hc135_20 : (p3 &&& (4 : Int32)) = (0 : Int32)
      · refine go (fun _ k => by refine XS.ifYes X0.here hx rfl (pc0 := 135) (pc' := 150) rfl (hb hby at_135) rfl ((if0 _ _).trans (teq hc135_20).1) (by decide) (by decide) ?_; exact k) ?_
        exact J21 x8 (by rw [if_pos hc135_20]) x9 (by rw [if_pos hc135_20]) x15 (by rw [if_pos hc135_20])
      · refine go (fun _ k => by refine XS.ifNo X0.here hx rfl (hb hby at_135) rfl ((if0 _ _).trans (feq hc135_20).1) ?_; exact k) ?_
        show OwnEnd _ _ _ _ _ _ _ (s₁.setTop (mkF m 138 (fL24 p0 p1 p2 p3 p0 x1 x2 x3 p1 x4 x17_10 x17_11 x19_12 x19_13 x8 x9 x10 x11 x12 x17_19 x19_20 x15) []))
        refine go (fun _ k => by refine XS.iload X0.here hx rfl (hb hby at_138) rfl ?_; exact k) ?_
        refine go (fun _ k => by refine XS.istore X0.here hx rfl (hb hby at_140) rfl (l' := (fL24 p0 p1 p2 p3 p0 x1 x2 x3 p1 x4 x17_10 x17_11 x19_12 x19_13 p1 x9 x10 x11 x12 x17_19 x19_20 x15)) rfl ?_; exact k) ?_
        refine go (fun _ k => by refine XS.iload X0.here hx rfl (hb hby at_142) rfl ?_; exact k) ?_
        refine go (fun _ k => by refine XS.istore X0.here hx rfl (hb hby at_144) rfl (l' := (fL24 p0 p1 p2 p3 p0 x1 x2 x3 p1 x4 x17_10 x17_11 x19_12 x19_13 p1 x4 x10 x11 x12 x17_19 x19_20 x15)) rfl ?_; exact k) ?_
        show OwnEnd _ _ _ _ _ _ _ (s₁.setTop (mkF m 146 (fL24 p0 p1 p2 p3 p0 x1 x2 x3 p1 x4 x17_10 x17_11 x19_12 x19_13 p1 x4 x10 x11 x12 x17_19 x19_20 x15) []))
        refine go (fun _ k => by refine XS.iload X0.here hx rfl (hb hby at_146) rfl ?_; exact k) ?_
        refine go (fun _ k => by refine XS.istore X0.here hx rfl (hb hby at_148) rfl (l' := (fL24 p0 p1 p2 p3 p0 x1 x2 x3 p1 x4 x17_10 x17_11 x19_12 x19_13 p1 x4 x10 x11 x12 x17_19 x19_20 x12)) rfl ?_; exact k) ?_
        exact J21 p1 (by rw [if_neg hc135_20]) x4 (by rw [if_neg hc135_20]) x12 (by rw [if_neg hc135_20])
    by_cases hc117_18 : (p3 &&& (2 : Int32)) = (0 : Int32)
    · refine go (fun _ k => by refine XS.ifYes X0.here hx rfl (pc0 := 117) (pc' := 132) rfl (hb hby at_117) rfl ((if0 _ _).trans (teq hc117_18).1) (by decide) (by decide) ?_; exact k) ?_
      exact J19 p2 (by rw [if_pos hc117_18]) x7 (by rw [if_pos hc117_18]) x14 (by rw [if_pos hc117_18])
    · refine go (fun _ k => by refine XS.ifNo X0.here hx rfl (hb hby at_117) rfl ((if0 _ _).trans (feq hc117_18).1) ?_; exact k) ?_
      show OwnEnd _ _ _ _ _ _ _ (s₁.setTop (mkF m 120 (fL24 p0 p1 p2 p3 p0 x1 x2 x3 p1 x4 x17_10 x17_11 p2 x7 x8 x9 x10 x11 x12 x17_19 x14 x15) []))
      refine go (fun _ k => by refine XS.iload X0.here hx rfl (hb hby at_120) rfl ?_; exact k) ?_
      refine go (fun _ k => by refine XS.istore X0.here hx rfl (hb hby at_122) rfl (l' := (fL24 p0 p1 p2 p3 p0 x1 x2 x3 p1 x4 x17_10 x17_11 x2 x7 x8 x9 x10 x11 x12 x17_19 x14 x15)) rfl ?_; exact k) ?_
      refine go (fun _ k => by refine XS.iload X0.here hx rfl (hb hby at_124) rfl ?_; exact k) ?_
      refine go (fun _ k => by refine XS.istore X0.here hx rfl (hb hby at_126) rfl (l' := (fL24 p0 p1 p2 p3 p0 x1 x2 x3 p1 x4 x17_10 x17_11 x2 x3 x8 x9 x10 x11 x12 x17_19 x14 x15)) rfl ?_; exact k) ?_
      show OwnEnd _ _ _ _ _ _ _ (s₁.setTop (mkF m 128 (fL24 p0 p1 p2 p3 p0 x1 x2 x3 p1 x4 x17_10 x17_11 x2 x3 x8 x9 x10 x11 x12 x17_19 x14 x15) []))
      refine go (fun _ k => by refine XS.iload X0.here hx rfl (hb hby at_128) rfl ?_; exact k) ?_
      refine go (fun _ k => by refine XS.istore X0.here hx rfl (hb hby at_130) rfl (l' := (fL24 p0 p1 p2 p3 p0 x1 x2 x3 p1 x4 x17_10 x17_11 x2 x3 x8 x9 x10 x11 x12 x17_19 x11 x15)) rfl ?_; exact k) ?_
      exact J19 x2 (by rw [if_neg hc117_18]) x3 (by rw [if_neg hc117_18]) x11 (by rw [if_neg hc117_18])
  by_cases hc99_16 : (p3 &&& (1 : Int32)) = (0 : Int32)
  · refine go (fun _ k => by refine XS.ifYes X0.here hx rfl (pc0 := 99) (pc' := 114) rfl (hb hby at_99) rfl ((if0 _ _).trans (teq hc99_16).1) (by decide) (by decide) ?_; exact k) ?_
    exact J17 x5 (by rw [if_pos hc99_16]) x6 (by rw [if_pos hc99_16]) x13 (by rw [if_pos hc99_16])
  · refine go (fun _ k => by refine XS.ifNo X0.here hx rfl (hb hby at_99) rfl ((if0 _ _).trans (feq hc99_16).1) ?_; exact k) ?_
    show OwnEnd _ _ _ _ _ _ _ (s₁.setTop (mkF m 102 (fL24 p0 p1 p2 p3 p0 x1 x2 x3 p1 x4 x5 x6 p2 x7 x8 x9 x10 x11 x12 x13 x14 x15) []))
    refine go (fun _ k => by refine XS.iload X0.here hx rfl (hb hby at_102) rfl ?_; exact k) ?_
    refine go (fun _ k => by refine XS.istore X0.here hx rfl (hb hby at_104) rfl (l' := (fL24 p0 p1 p2 p3 p0 x1 x2 x3 p1 x4 p0 x6 p2 x7 x8 x9 x10 x11 x12 x13 x14 x15)) rfl ?_; exact k) ?_
    refine go (fun _ k => by refine XS.iload X0.here hx rfl (hb hby at_106) rfl ?_; exact k) ?_
    refine go (fun _ k => by refine XS.istore X0.here hx rfl (hb hby at_108) rfl (l' := (fL24 p0 p1 p2 p3 p0 x1 x2 x3 p1 x4 p0 x1 p2 x7 x8 x9 x10 x11 x12 x13 x14 x15)) rfl ?_; exact k) ?_
    show OwnEnd _ _ _ _ _ _ _ (s₁.setTop (mkF m 110 (fL24 p0 p1 p2 p3 p0 x1 x2 x3 p1 x4 p0 x1 p2 x7 x8 x9 x10 x11 x12 x13 x14 x15) []))
    refine go (fun _ k => by refine XS.iload X0.here hx rfl (hb hby at_110) rfl ?_; exact k) ?_
    refine go (fun _ k => by refine XS.istore X0.here hx rfl (hb hby at_112) rfl (l' := (fL24 p0 p1 p2 p3 p0 x1 x2 x3 p1 x4 p0 x1 p2 x7 x8 x9 x10 x11 x12 x10 x14 x15)) rfl ?_; exact k) ?_
    exact J17 p0 (by rw [if_neg hc99_16]) x1 (by rw [if_neg hc99_16]) x10 (by rw [if_neg hc99_16])
set_option maxRecDepth 65536 in
set_option maxHeartbeats 40000000 in
theorem comes_1 {Post : Tables → Env → Array Value → State → Outcome → State → Prop} (hpost : ∀ tb e args s v u, (limb_1_1.after args s (.returned v) u = true ∧ limb_1_2.after args s (.returned v) u = true ∧ True) → FrameEnd s (.returned v) u (Jvm.fieldLocs frame_1_writes args s ++ Jvm.arrayLocs frame_1_arrays args s ++ Jvm.staticLocs frame_1_statics s) 48 192 → Post tb e args s (.returned v) u) :
    ArmFor flags0 classFile x code maxLocals ret World_1 tables_1 room_1 Calls_1 rest_1 Pre_1 Post := by
  intro l hfl _ _ p e ha hc hk s m args below hf hA hF happ hP
  obtain ⟨hcalls, hrest, hpre⟩ := hP
  obtain ⟨-, -, -, hnamed, -, -, -, hat⟩ := (Spec.applies_iff hf).mp happ
  obtain ⟨hg, hn⟩ := and_e (Cond.before_iff.mp (show (Jvm.Cond.and given_1 narrow_1).before args s = true from hpre))
  obtain ⟨gv1, gv2⟩ := and_e hg
  obtain ⟨gv3, gv4⟩ := and_e gv2
  obtain ⟨gv5, gv6⟩ := and_e gv4
  obtain ⟨gv7, gv8⟩ := and_e gv6
  obtain ⟨w0, w1, w2, w3, rfl⟩ : ∃ w0 w1 w2 w3 : Value, args = #[w0, w1, w2, w3] := by
    have hs : args.size = 4 := by simpa [Cond.value, given_1] using gv1
    obtain ⟨L⟩ := args
    match L, hs with
    | [w0, w1, w2, w3], _ => exact ⟨w0, w1, w2, w3, rfl⟩
  have hw := fun d (hd : d ∈ tables_1) => atoms_spec (ws := Jvm.Cond.code x code maxLocals ret :: tables_1) hat d (List.mem_cons_of_mem _ hd)
  have hfit : Fit s := fun {y c} hc i hi => by
    obtain ⟨ha, rfl⟩ := Array.getElem?_eq_some_iff.mp hc
    have q := List.all_eq_true.mp ((Array.all_eq_true_iff_forall_mem.mp hF) _ (Array.getElem_mem ha)) i (List.mem_range.mpr hi)
    simpa [Array.getElem?_eq_getElem hi] using q
  obtain ⟨hsets, hown0⟩ := atoms_of _ (rest_1_c_eq ▸ (show rest_1_c.before _ s = true from hrest))
  have hr0 := Cond.before_iff.mp hown0
  obtain ⟨i0, ei0⟩ := is_v gv3
  obtain rfl : w0 = (.int i0) := Option.some.inj ei0
  obtain ⟨i1, ei1⟩ := is_v gv5
  obtain rfl : w1 = (.int i1) := Option.some.inj ei1
  obtain ⟨i2, ei2⟩ := is_v gv7
  obtain rfl : w2 = (.int i2) := Option.some.inj ei2
  obtain ⟨i3, ei3⟩ := is_v gv8
  obtain rfl : w3 = (.int i3) := Option.some.inj ei3
  obtain ⟨cs, ecs⟩ := is_v (Cond.before_iff.mp (hsets _ (List.mem_of_getElem? (i := 1) rfl)))
  have SC0 : Sta s s.heap "java/lang/String" "COMPACT_STRINGS" "Z" (.int cs) := Sta.start ecs (Or.inl (hsets _ (List.mem_of_getElem? (i := 0) rfl)))
  have c1 : ¬ cs = (0 : Int32) := gotF (Cond.eq_ints ecs (Term.int_eval (0))) (not_v (Cond.before_iff.mp (hsets _ (List.mem_of_getElem? (i := 2) rfl))))
  obtain ⟨n, o, h1, h2, h3, _, L, rfl, ⟨rfl, N⟩, hq⟩ := rm_law l s _ hw tables_1 i0 i1 i2 i3 cs s.heap s.heap.size (Nat.le_refl _) (Old.start s) SC0 c1 p e ha hc hk s m _ below hf ((Spec.applies_iff_loose hf).mp happ).1 ⟨rfl, State.Warmed39.refl s, rfl⟩ trivial
  refine ⟨n, _, h1, h2, h3, hpost _ _ _ _ _ _ ⟨Cond.after_iff.mpr rfl, Cond.after_iff.mpr (eq_i res_at (Term.int_eval (1)) rfl), trivial⟩ ⟨hq.1, hq.2.1, (hq.2.2.sift fun y hy => Or.inr (N y hy)).mono (by decide) (by decide)⟩⟩
theorem main_1_1 : Claimed_1_1 := comes_1 fun _ _ _ _ _ _ h hF => ⟨h.1, hF⟩
theorem main_1_2 : Claimed_1_2 := comes_1 fun _ _ _ _ _ _ h hF => ⟨h.2.1, hF⟩
end Jvm.Pilot.@@N@@
namespace Jvm.Pilot.@@N@@
open Jvm Jvm.ClassFile Sem Op Lib Jvm.Free Jvm.Stand Jvm.Pilot.@@N@@.Jvm.D
/-! MADE BY PROGRAM (witnessworld.py) out of the Statement's table words and the real class files: 20 classes; the members and pool entries that the words name. The judged class is class 1, her method 3. -/
namespace start1
open Jvm.ClassFile
def u (s : String) : CpInfo := .utf8 (stringToUtf16 s)
/-- a pool by its gaps: so many unusable entries, then the entry; so many at the end -/
def gap : Nat → List CpInfo → List CpInfo
  | 0, r => r
  | n + 1, r => .unusable :: gap n r
def poolList (es : List (Nat × CpInfo)) (last : Nat) : List CpInfo := es.foldr (fun e r => gap e.1 (e.2 :: r)) (gap last [])
def pool (es : List (Nat × CpInfo)) (last : Nat) : Array CpInfo := ⟨poolList es last⟩
def fileOf (pool : Array CpInfo) (this : Nat) (attrs : Array Attribute := #[]) (ms : Array MethodInfo := #[]) (fl : Nat := 33) (sup : Nat := 0) (ifs : Array Nat := #[]) (fds : Array FieldInfo := #[]) : ClassFile where
  minorVersion := 0
  majorVersion := 65
  constantPool := pool
  accessFlags := fl
  thisClass := this
  superClass := sup
  interfaces := ifs
  fields := fds
  methods := ms
  attributes := attrs
def plain (name : String) (sup : Option ClassId) : Class where
  name := name
  kind := .ordinary
  loader := none
  accessFlags := 33
  super := sup
  interfaces := #[]
  cf := none
  fields := #[]
  methods := #[]
  instanceTypes := #[]
  staticTypes := #[]
  resolved := #[]
  callSites := []
  init := .initialized
  statics := none
  mirror := none

def pool0 : Array CpInfo := pool [(5, u "<init>"), (0, u "()V"), (1, .class_ 10), (1, u "java/lang/Object")] 113

def k0c0 : Code := { maxStack := 0, maxLocals := 1, code := object_method_1_code, exceptionTable := #[], attributes := #[] }
def k0m0 : Method := { name := "<init>", desc := "()V", sig := { parameters := [], returnType := none }, accessFlags := 1, code := some k0c0 }
/-- java/lang/Object -/
def k0 : Class := { plain "java/lang/Object" none with
  accessFlags := 33
  interfaces := #[]
  cf := some (fileOf pool0 8 #[] #[{ accessFlags := 1, nameIndex := 5, descriptorIndex := 6, attributes := #[] }] 33 0 #[] #[])
  fields := #[]
  methods := #[k0m0]
  instanceTypes := #[]
  staticTypes := #[]
  resolved := Array.replicate 124 none
  statics := none }

def pool1 : Array CpInfo := pool [(2, .class_ 4), (1, u "java/lang/Object"), (0, u "<init>"), (0, u "()V"), (0, .methodref 8 9), (0, .class_ 10), (0, .nameAndType 11 12), (0, u "java/lang/String"), (0, u "valueOf"), (0, u "(C)Ljava/lang/String;"), (0, .methodref 8 14), (0, .nameAndType 5 15), (0, u "([C)V"), (0, .methodref 17 18), (0, .class_ 19), (0, .nameAndType 20 21), (0, u "com/example/brisk_ledger/briskledger/LockNameEqualsPinLaw"), (0, u "str"), (0, u "(III)Ljava/lang/String;"), (0, .class_ 23), (0, u "com/example/brisk_ledger/briskledger/LockName"), (0, .methodref 22 25), (0, .nameAndType 5 26), (0, u "(Ljava/lang/String;Ljava/lang/String;Ljava/lang/String;)V"), (0, .methodref 17 28), (0, .nameAndType 29 30), (0, u "same"), (0, u "(IIIIII)Z"), (0, .methodref 22 32), (0, .nameAndType 33 34), (0, u "equals"), (0, u "(Ljava/lang/Object;)Z"), (3, u "law"), (0, u "(IIII)Z")] 2

def k1m0 : Method := { name := "<init>", desc := "()V", sig := { parameters := [], returnType := none }, accessFlags := 1, code := none }
def k1c1 : Code := { maxStack := 6, maxLocals := 5, code := method_2_code, exceptionTable := #[], attributes := #[] }
def k1m1 : Method := { name := "str", desc := "(III)Ljava/lang/String;", sig := { parameters := [.int, .int, .int], returnType := some (.object "java/lang/String") }, accessFlags := 10, code := some k1c1 }
def k1c2 : Code := { maxStack := 3, maxLocals := 8, code := method_3_code, exceptionTable := #[], attributes := #[] }
def k1m2 : Method := { name := "same", desc := "(IIIIII)Z", sig := { parameters := [.int, .int, .int, .int, .int, .int], returnType := some .boolean }, accessFlags := 10, code := some k1c2 }
def k1c3 : Code := { maxStack := 7, maxLocals := 27, code := code, exceptionTable := #[], attributes := #[] }
def k1m3 : Method := { name := "law", desc := "(IIII)Z", sig := { parameters := [.int, .int, .int, .int], returnType := some .boolean }, accessFlags := 9, code := some k1c3 }
/-- com/example/brisk_ledger/briskledger/LockNameEqualsPinLaw -/
def k1 : Class := { plain "com/example/brisk_ledger/briskledger/LockNameEqualsPinLaw" (some 0) with
  accessFlags := 49
  interfaces := #[]
  cf := some (fileOf pool1 17 #[] #[{ accessFlags := 1, nameIndex := 5, descriptorIndex := 6, attributes := #[] }, { accessFlags := 10, nameIndex := 20, descriptorIndex := 21, attributes := #[] }, { accessFlags := 10, nameIndex := 29, descriptorIndex := 30, attributes := #[] }, { accessFlags := 9, nameIndex := 38, descriptorIndex := 39, attributes := #[] }] 49 2 #[] #[])
  fields := #[]
  methods := #[k1m0, k1m1, k1m2, k1m3]
  instanceTypes := #[]
  staticTypes := #[]
  resolved := Array.replicate 42 none
  statics := none }

def pool2 : Array CpInfo := pool [(1, .class_ 2), (0, u "java/io/Serializable"), (0, .class_ 4), (0, u "java/lang/Object")] 2

/-- java/io/Serializable -/
def k2 : Class := { plain "java/io/Serializable" (some 0) with
  accessFlags := 1537
  interfaces := #[]
  cf := some (fileOf pool2 1 #[] #[] 1537 3 #[] #[])
  fields := #[]
  methods := #[]
  instanceTypes := #[]
  staticTypes := #[]
  resolved := Array.replicate 7 none
  statics := none }

def pool3 : Array CpInfo := pool [(1, .class_ 2), (0, u "java/lang/Comparable"), (0, .class_ 4), (0, u "java/lang/Object")] 7

/-- java/lang/Comparable -/
def k3 : Class := { plain "java/lang/Comparable" (some 0) with
  accessFlags := 1537
  interfaces := #[]
  cf := some (fileOf pool3 1 #[] #[] 1537 3 #[] #[])
  fields := #[]
  methods := #[]
  instanceTypes := #[]
  staticTypes := #[]
  resolved := Array.replicate 12 none
  statics := none }

def pool4 : Array CpInfo := pool [(2, .class_ 4), (1, u "java/lang/CharSequence"), (42, .class_ 48), (0, u "java/lang/CharSequence$1CodePointIterator"), (10, .class_ 60), (0, u "java/lang/CharSequence$1CharIterator"), (5, .class_ 67), (0, u "java/lang/Object")] 63

/-- java/lang/CharSequence -/
def k4 : Class := { plain "java/lang/CharSequence" (some 0) with
  accessFlags := 1537
  interfaces := #[]
  cf := some (fileOf pool4 2 #[.nestMembers #[47, 59]] #[] 1537 66 #[] #[])
  fields := #[]
  methods := #[]
  instanceTypes := #[]
  staticTypes := #[]
  resolved := Array.replicate 131 none
  statics := none }

def pool5 : Array CpInfo := pool [(1, .class_ 2), (0, u "java/lang/constant/Constable"), (0, .class_ 4), (0, u "java/lang/Object")] 6

/-- java/lang/constant/Constable -/
def k5 : Class := { plain "java/lang/constant/Constable" (some 0) with
  accessFlags := 1537
  interfaces := #[]
  cf := some (fileOf pool5 1 #[] #[] 1537 3 #[] #[])
  fields := #[]
  methods := #[]
  instanceTypes := #[]
  staticTypes := #[]
  resolved := Array.replicate 11 none
  statics := none }

def pool6 : Array CpInfo := pool [(1, .class_ 2), (0, u "java/lang/constant/ConstantDesc"), (0, .class_ 4), (0, u "java/lang/Object")] 32

/-- java/lang/constant/ConstantDesc -/
def k6 : Class := { plain "java/lang/constant/ConstantDesc" (some 0) with
  accessFlags := 1537
  interfaces := #[]
  cf := some (fileOf pool6 1 #[] #[] 1537 3 #[] #[])
  fields := #[]
  methods := #[]
  instanceTypes := #[]
  staticTypes := #[]
  resolved := Array.replicate 37 none
  statics := none }

def pool7 : Array CpInfo := pool [(1, .methodref 2 3), (0, .class_ 4), (0, .nameAndType 5 6), (0, u "java/lang/Object"), (0, u "<init>"), (0, u "()V"), (2, .fieldref 10 11), (0, .class_ 12), (0, .nameAndType 13 14), (0, u "java/lang/String"), (0, u "value"), (0, u "[B"), (0, .fieldref 10 16), (0, .nameAndType 17 18), (0, u "coder"), (0, u "B"), (2, u "hash"), (0, u "I"), (2, u "hashIsZero"), (0, u "Z"), (0, .methodref 10 28), (0, .nameAndType 5 29), (0, u "([CIILjava/lang/Void;)V"), (8, .fieldref 10 39), (0, .nameAndType 40 26), (0, u "COMPACT_STRINGS"), (1, .class_ 44), (1, u "java/lang/StringUTF16"), (0, u "compress"), (1, .methodref 42 48), (0, .nameAndType 49 50), (0, u "coderFromArrayLen"), (0, u "([BI)B"), (2, u "toBytes"), (53, .class_ 109), (1, u "java/lang/StringLatin1"), (67, .methodref 42 178), (0, .nameAndType 45 179), (0, u "([CII)[B"), (29, .methodref 10 210), (0, .nameAndType 5 211), (0, u "([BB)V"), (157, u "(C)Z"), (171, .methodref 107 542), (0, .nameAndType 543 544), (0, u "equals"), (0, u "([B[B)Z"), (28, u "(Ljava/lang/Object;)Z"), (1, .class_ 576), (0, u "java/lang/CharSequence"), (22, u "CASE_INSENSITIVE_ORDER"), (0, u "Ljava/util/Comparator;"), (181, u "valueOf"), (0, u "(C)Ljava/lang/String;"), (226, u "([C)V"), (4, .methodref 107 1016), (0, .nameAndType 1017 369), (0, u "canEncode"), (0, .methodref 107 1019), (0, .nameAndType 53 1020), (0, u "(C)[B"), (80, u "serialPersistentFields"), (0, u "[Ljava/io/ObjectStreamField;"), (0, .class_ 1104), (0, u "java/lang/String$CaseInsensitiveComparator"), (1, .class_ 1107), (0, u "java/io/Serializable"), (0, .class_ 1109), (0, u "java/lang/Comparable"), (0, .class_ 1111), (0, u "java/lang/constant/Constable"), (0, .class_ 1113), (0, u "java/lang/constant/ConstantDesc"), (2, u "serialVersionUID"), (0, u "J"), (3, u "REPL"), (0, u "C"), (2, u "LATIN1"), (1, u "UTF16")] 323

def k7m0 : Method := { name := "<init>", desc := "()V", sig := { parameters := [], returnType := none }, accessFlags := 1, code := none }
def k7c1 : Code := { maxStack := 5, maxLocals := 2, code := jdk_42_method_3_code, exceptionTable := #[], attributes := #[] }
def k7m1 : Method := { name := "<init>", desc := "([C)V", sig := { parameters := [(.array .char)], returnType := none }, accessFlags := 1, code := some k7c1 }
def k7c2 : Code := { maxStack := 2, maxLocals := 3, code := jdk_42_method_66_code, exceptionTable := #[], attributes := #[] }
def k7m2 : Method := { name := "equals", desc := "(Ljava/lang/Object;)Z", sig := { parameters := [(.object "java/lang/Object")], returnType := some .boolean }, accessFlags := 1, code := some k7c2 }
def k7c3 : Code := { maxStack := 4, maxLocals := 1, code := jdk_42_method_139_code, exceptionTable := #[], attributes := #[] }
def k7m3 : Method := { name := "valueOf", desc := "(C)Ljava/lang/String;", sig := { parameters := [.char], returnType := some (.object "java/lang/String") }, accessFlags := 9, code := some k7c3 }
def k7c4 : Code := { maxStack := 4, maxLocals := 6, code := jdk_42_method_149_code, exceptionTable := #[], attributes := #[] }
def k7m4 : Method := { name := "<init>", desc := "([CIILjava/lang/Void;)V", sig := { parameters := [(.array .char), .int, .int, (.object "java/lang/Void")], returnType := none }, accessFlags := 2, code := some k7c4 }
def k7c5 : Code := { maxStack := 2, maxLocals := 3, code := jdk_42_method_151_code, exceptionTable := #[], attributes := #[] }
def k7m5 : Method := { name := "<init>", desc := "([BB)V", sig := { parameters := [(.array .byte), .byte], returnType := none }, accessFlags := 0, code := some k7c5 }
/-- java/lang/String -/
def k7 : Class := { plain "java/lang/String" (some 0) with
  accessFlags := 49
  interfaces := #[2, 3, 4, 5, 6]
  cf := some (fileOf pool7 10 #[.nestMembers #[1103]] #[{ accessFlags := 1, nameIndex := 5, descriptorIndex := 6, attributes := #[] }, { accessFlags := 1, nameIndex := 5, descriptorIndex := 1010, attributes := #[] }, { accessFlags := 1, nameIndex := 543, descriptorIndex := 573, attributes := #[] }, { accessFlags := 9, nameIndex := 782, descriptorIndex := 783, attributes := #[] }, { accessFlags := 2, nameIndex := 5, descriptorIndex := 29, attributes := #[] }, { accessFlags := 0, nameIndex := 5, descriptorIndex := 211, attributes := #[] }] 49 2 #[1106, 1108, 575, 1110, 1112] #[{ accessFlags := 18, nameIndex := 13, descriptorIndex := 14, attributes := #[] }, { accessFlags := 18, nameIndex := 17, descriptorIndex := 18, attributes := #[] }, { accessFlags := 2, nameIndex := 21, descriptorIndex := 22, attributes := #[] }, { accessFlags := 2, nameIndex := 25, descriptorIndex := 26, attributes := #[] }, { accessFlags := 26, nameIndex := 1116, descriptorIndex := 1117, attributes := #[] }, { accessFlags := 24, nameIndex := 40, descriptorIndex := 26, attributes := #[] }, { accessFlags := 26, nameIndex := 1101, descriptorIndex := 1102, attributes := #[] }, { accessFlags := 26, nameIndex := 1121, descriptorIndex := 1122, attributes := #[] }, { accessFlags := 25, nameIndex := 599, descriptorIndex := 600, attributes := #[] }, { accessFlags := 24, nameIndex := 1125, descriptorIndex := 18, attributes := #[] }, { accessFlags := 24, nameIndex := 1127, descriptorIndex := 18, attributes := #[] }])
  fields := #[{ name := "value", type := (.array .byte), accessFlags := 18, slot := 0, constantValue := 0 }, { name := "coder", type := .byte, accessFlags := 18, slot := 1, constantValue := 0 }, { name := "hash", type := .int, accessFlags := 2, slot := 2, constantValue := 0 }, { name := "hashIsZero", type := .boolean, accessFlags := 2, slot := 3, constantValue := 0 }, { name := "serialVersionUID", type := .long, accessFlags := 26, slot := 0, constantValue := 0 }, { name := "COMPACT_STRINGS", type := .boolean, accessFlags := 24, slot := 1, constantValue := 0 }, { name := "serialPersistentFields", type := (.array (.object "java/io/ObjectStreamField")), accessFlags := 26, slot := 2, constantValue := 0 }, { name := "REPL", type := .char, accessFlags := 26, slot := 3, constantValue := 0 }, { name := "CASE_INSENSITIVE_ORDER", type := (.object "java/util/Comparator"), accessFlags := 25, slot := 4, constantValue := 0 }, { name := "LATIN1", type := .byte, accessFlags := 24, slot := 5, constantValue := 0 }, { name := "UTF16", type := .byte, accessFlags := 24, slot := 6, constantValue := 0 }]
  methods := #[k7m0, k7m1, k7m2, k7m3, k7m4, k7m5]
  instanceTypes := #[(.array .byte), .byte, .int, .boolean]
  staticTypes := #[.long, .boolean, (.array (.object "java/io/ObjectStreamField")), .char, (.object "java/util/Comparator"), .byte, .byte]
  resolved := Array.replicate 1451 none
  statics := some 0 }

def pool8 : Array CpInfo := pool [(4, .class_ 6), (1, u "java/lang/Object"), (0, u "<init>"), (0, u "()V"), (5, .class_ 16), (1, u "java/lang/StringLatin1"), (73, u "canEncode"), (14, u "(C)Z"), (15, u "$assertionsDisabled"), (0, u "Z"), (98, .class_ 223), (1, u "java/lang/StringLatin1$LinesSpliterator"), (57, u "equals"), (0, u "([B[B)Z"), (97, u "toBytes"), (1, u "(C)[B"), (7, .class_ 391), (0, u "java/lang/StringLatin1$CharsSpliterator")] 3

def k8m0 : Method := { name := "<init>", desc := "()V", sig := { parameters := [], returnType := none }, accessFlags := 0, code := none }
def k8c1 : Code := { maxStack := 2, maxLocals := 1, code := jdk_43_method_3_code, exceptionTable := #[], attributes := #[] }
def k8m1 : Method := { name := "canEncode", desc := "(C)Z", sig := { parameters := [.char], returnType := some .boolean }, accessFlags := 9, code := some k8c1 }
def k8c2 : Code := { maxStack := 3, maxLocals := 3, code := jdk_43_method_13_code, exceptionTable := #[], attributes := #[] }
def k8m2 : Method := { name := "equals", desc := "([B[B)Z", sig := { parameters := [(.array .byte), (.array .byte)], returnType := some .boolean }, accessFlags := 9, code := some k8c2 }
def k8c3 : Code := { maxStack := 4, maxLocals := 1, code := jdk_43_method_46_code, exceptionTable := #[], attributes := #[] }
def k8m3 : Method := { name := "toBytes", desc := "(C)[B", sig := { parameters := [.char], returnType := some (.array .byte) }, accessFlags := 9, code := some k8c3 }
/-- java/lang/StringLatin1 -/
def k8 : Class := { plain "java/lang/StringLatin1" (some 0) with
  accessFlags := 48
  interfaces := #[]
  cf := some (fileOf pool8 14 #[.nestMembers #[390, 221]] #[{ accessFlags := 0, nameIndex := 7, descriptorIndex := 8, attributes := #[] }, { accessFlags := 9, nameIndex := 90, descriptorIndex := 105, attributes := #[] }, { accessFlags := 9, nameIndex := 281, descriptorIndex := 282, attributes := #[] }, { accessFlags := 9, nameIndex := 380, descriptorIndex := 382, attributes := #[] }] 48 4 #[] #[{ accessFlags := 4120, nameIndex := 121, descriptorIndex := 122, attributes := #[] }])
  fields := #[{ name := "$assertionsDisabled", type := .boolean, accessFlags := 4120, slot := 0, constantValue := 0 }]
  methods := #[k8m0, k8m1, k8m2, k8m3]
  instanceTypes := #[]
  staticTypes := #[.boolean]
  resolved := Array.replicate 395 none
  statics := none }

def pool9 : Array CpInfo := pool [(1, .methodref 2 3), (0, .class_ 4), (0, .nameAndType 5 6), (0, u "java/lang/Object"), (0, u "<init>"), (0, u "()V"), (0, .fieldref 8 9), (0, .class_ 10), (0, .nameAndType 11 12), (0, u "com/example/brisk_ledger/briskledger/LockName"), (0, u "namespace"), (0, u "Ljava/lang/String;"), (0, .fieldref 8 14), (0, .nameAndType 15 12), (0, u "userId"), (0, .fieldref 8 17), (0, .nameAndType 18 12), (0, u "propertyId"), (0, .methodref 20 21), (0, .class_ 22), (0, .nameAndType 23 24), (0, u "java/lang/String"), (0, u "equals"), (0, u "(Ljava/lang/Object;)Z"), (6, u "(Ljava/lang/String;Ljava/lang/String;Ljava/lang/String;)V")] 8

def k9c0 : Code := { maxStack := 2, maxLocals := 4, code := prog_21_method_1_code, exceptionTable := #[], attributes := #[] }
def k9m0 : Method := { name := "<init>", desc := "(Ljava/lang/String;Ljava/lang/String;Ljava/lang/String;)V", sig := { parameters := [(.object "java/lang/String"), (.object "java/lang/String"), (.object "java/lang/String")], returnType := none }, accessFlags := 0, code := some k9c0 }
def k9c1 : Code := { maxStack := 2, maxLocals := 3, code := prog_21_method_5_code, exceptionTable := #[], attributes := #[] }
def k9m1 : Method := { name := "equals", desc := "(Ljava/lang/Object;)Z", sig := { parameters := [(.object "java/lang/Object")], returnType := some .boolean }, accessFlags := 1, code := some k9c1 }
/-- com/example/brisk_ledger/briskledger/LockName -/
def k9 : Class := { plain "com/example/brisk_ledger/briskledger/LockName" (some 0) with
  accessFlags := 49
  interfaces := #[]
  cf := some (fileOf pool9 8 #[] #[{ accessFlags := 0, nameIndex := 5, descriptorIndex := 31, attributes := #[] }, { accessFlags := 1, nameIndex := 23, descriptorIndex := 24, attributes := #[] }] 49 2 #[] #[{ accessFlags := 18, nameIndex := 11, descriptorIndex := 12, attributes := #[] }, { accessFlags := 18, nameIndex := 15, descriptorIndex := 12, attributes := #[] }, { accessFlags := 18, nameIndex := 18, descriptorIndex := 12, attributes := #[] }])
  fields := #[{ name := "namespace", type := (.object "java/lang/String"), accessFlags := 18, slot := 0, constantValue := 0 }, { name := "userId", type := (.object "java/lang/String"), accessFlags := 18, slot := 1, constantValue := 0 }, { name := "propertyId", type := (.object "java/lang/String"), accessFlags := 18, slot := 2, constantValue := 0 }]
  methods := #[k9m0, k9m1]
  instanceTypes := #[(.object "java/lang/String"), (.object "java/lang/String"), (.object "java/lang/String")]
  staticTypes := #[]
  resolved := Array.replicate 40 none
  statics := none }

def pool10 : Array CpInfo := pool [(6, .class_ 8), (1, u "java/lang/Object"), (0, u "<init>"), (0, u "()V"), (1, .class_ 14), (1, u "java/lang/StringUTF16"), (31, u "$assertionsDisabled"), (0, u "Z"), (13, u "HI_BYTE_SHIFT"), (0, u "I"), (2, u "LO_BYTE_SHIFT"), (49, .methodref 12 116), (0, .nameAndType 117 118), (0, u "compress"), (0, u "([CI[BII)I"), (3, u "([CII)[B"), (138, u "coderFromArrayLen"), (0, u "([BI)B"), (106, .class_ 371), (1, u "java/lang/StringUTF16$LinesSpliterator"), (58, u "MAX_LENGTH"), (196, .class_ 628), (0, u "java/lang/StringUTF16$CodePointsSpliterator"), (0, .class_ 630), (0, u "java/lang/StringUTF16$CharsSpliterator")] 4

def k10m0 : Method := { name := "<init>", desc := "()V", sig := { parameters := [], returnType := none }, accessFlags := 0, code := none }
def k10c1 : Code := { maxStack := 2, maxLocals := 2, code := jdk_52_method_15_code, exceptionTable := #[], attributes := #[] }
def k10m1 : Method := { name := "coderFromArrayLen", desc := "([BI)B", sig := { parameters := [(.array .byte), .int], returnType := some .byte }, accessFlags := 8, code := some k10c1 }
def k10c2 : Code := { maxStack := 5, maxLocals := 6, code := jdk_52_method_16_code, exceptionTable := #[], attributes := #[] }
def k10m2 : Method := { name := "compress", desc := "([CII)[B", sig := { parameters := [(.array .char), .int, .int], returnType := some (.array .byte) }, accessFlags := 9, code := some k10c2 }
def k10c3 : Code := { maxStack := 3, maxLocals := 7, code := jdk_52_method_21_code, exceptionTable := #[], attributes := #[] }
def k10m3 : Method := { name := "compress", desc := "([CI[BII)I", sig := { parameters := [(.array .char), .int, (.array .byte), .int, .int], returnType := some .int }, accessFlags := 9, code := some k10c3 }
/-- java/lang/StringUTF16 -/
def k10 : Class := { plain "java/lang/StringUTF16" (some 0) with
  accessFlags := 48
  interfaces := #[]
  cf := some (fileOf pool10 12 #[.nestMembers #[627, 629, 369]] #[{ accessFlags := 0, nameIndex := 9, descriptorIndex := 10, attributes := #[] }, { accessFlags := 8, nameIndex := 261, descriptorIndex := 262, attributes := #[] }, { accessFlags := 9, nameIndex := 117, descriptorIndex := 122, attributes := #[] }, { accessFlags := 9, nameIndex := 117, descriptorIndex := 118, attributes := #[] }] 48 6 #[] #[{ accessFlags := 26, nameIndex := 61, descriptorIndex := 62, attributes := #[] }, { accessFlags := 26, nameIndex := 65, descriptorIndex := 62, attributes := #[] }, { accessFlags := 24, nameIndex := 430, descriptorIndex := 62, attributes := #[] }, { accessFlags := 4120, nameIndex := 46, descriptorIndex := 47, attributes := #[] }])
  fields := #[{ name := "HI_BYTE_SHIFT", type := .int, accessFlags := 26, slot := 0, constantValue := 0 }, { name := "LO_BYTE_SHIFT", type := .int, accessFlags := 26, slot := 1, constantValue := 0 }, { name := "MAX_LENGTH", type := .int, accessFlags := 24, slot := 2, constantValue := 0 }, { name := "$assertionsDisabled", type := .boolean, accessFlags := 4120, slot := 3, constantValue := 0 }]
  methods := #[k10m0, k10m1, k10m2, k10m3]
  instanceTypes := #[]
  staticTypes := #[.int, .int, .int, .boolean]
  resolved := Array.replicate 635 none
  statics := none }

def pool11 : Array CpInfo := pool [(2, .class_ 4), (1, u "java/lang/Object"), (0, u "<init>"), (0, u "()V"), (17, .class_ 26), (1, u "jdk/internal/util/Preconditions"), (28, .class_ 56), (0, u "jdk/internal/util/Preconditions$4"), (57, .class_ 115), (0, u "jdk/internal/util/Preconditions$1"), (7, u "SIOOBE_FORMATTER"), (0, u "Ljava/util/function/BiFunction;"), (0, .class_ 126), (0, u "jdk/internal/util/Preconditions$2"), (3, u "AIOOBE_FORMATTER"), (0, .class_ 132), (0, u "jdk/internal/util/Preconditions$3"), (3, u "IOOBE_FORMATTER")] 57

def k11m0 : Method := { name := "<init>", desc := "()V", sig := { parameters := [], returnType := none }, accessFlags := 1, code := none }
/-- jdk/internal/util/Preconditions -/
def k11 : Class := { plain "jdk/internal/util/Preconditions" (some 0) with
  accessFlags := 33
  interfaces := #[]
  cf := some (fileOf pool11 24 #[.nestMembers #[55, 131, 125, 114]] #[{ accessFlags := 1, nameIndex := 5, descriptorIndex := 6, attributes := #[] }] 33 2 #[] #[{ accessFlags := 25, nameIndex := 123, descriptorIndex := 124, attributes := #[] }, { accessFlags := 25, nameIndex := 130, descriptorIndex := 124, attributes := #[] }, { accessFlags := 25, nameIndex := 136, descriptorIndex := 124, attributes := #[] }])
  fields := #[{ name := "SIOOBE_FORMATTER", type := (.object "java/util/function/BiFunction"), accessFlags := 25, slot := 0, constantValue := 0 }, { name := "AIOOBE_FORMATTER", type := (.object "java/util/function/BiFunction"), accessFlags := 25, slot := 1, constantValue := 0 }, { name := "IOOBE_FORMATTER", type := (.object "java/util/function/BiFunction"), accessFlags := 25, slot := 2, constantValue := 0 }]
  methods := #[k11m0]
  instanceTypes := #[]
  staticTypes := #[(.object "java/util/function/BiFunction"), (.object "java/util/function/BiFunction"), (.object "java/util/function/BiFunction")]
  resolved := Array.replicate 194 none
  statics := some 1 }

def pool12 : Array CpInfo := pool [(9, u "<init>"), (6, .class_ 18), (1, u "java/lang/Object"), (0, u "()V"), (1, .class_ 23), (1, u "jdk/internal/util/ArraysSupport"), (0, u "LOG2_ARRAY_LONG_INDEX_SCALE"), (0, u "I"), (2, u "U"), (0, u "Ljdk/internal/misc/Unsafe;"), (8, u "BIG_ENDIAN"), (0, u "Z"), (8, u "LOG2_BYTE_BIT_SIZE"), (4, u "LOG2_ARRAY_INT_INDEX_SCALE"), (54, u "JLA"), (0, u "Ljdk/internal/access/JavaLangAccess;"), (11, u "LOG2_ARRAY_BOOLEAN_INDEX_SCALE"), (9, u "LOG2_ARRAY_BYTE_INDEX_SCALE"), (5, u "LOG2_ARRAY_CHAR_INDEX_SCALE"), (5, u "LOG2_ARRAY_SHORT_INDEX_SCALE"), (18, u "LOG2_ARRAY_FLOAT_INDEX_SCALE"), (24, u "LOG2_ARRAY_DOUBLE_INDEX_SCALE"), (89, u "T_BOOLEAN"), (2, u "T_CHAR"), (1, u "T_FLOAT"), (1, u "T_DOUBLE"), (1, u "T_BYTE"), (1, u "T_SHORT"), (1, u "T_INT"), (1, u "T_LONG"), (1, u "SOFT_MAX_ARRAY_LENGTH")] 83

def k12m0 : Method := { name := "<init>", desc := "()V", sig := { parameters := [], returnType := none }, accessFlags := 2, code := none }
/-- jdk/internal/util/ArraysSupport -/
def k12 : Class := { plain "jdk/internal/util/ArraysSupport" (some 0) with
  accessFlags := 33
  interfaces := #[]
  cf := some (fileOf pool12 21 #[] #[{ accessFlags := 2, nameIndex := 9, descriptorIndex := 19, attributes := #[] }] 33 16 #[] #[{ accessFlags := 24, nameIndex := 28, descriptorIndex := 29, attributes := #[] }, { accessFlags := 26, nameIndex := 38, descriptorIndex := 39, attributes := #[] }, { accessFlags := 25, nameIndex := 121, descriptorIndex := 25, attributes := #[] }, { accessFlags := 25, nameIndex := 131, descriptorIndex := 25, attributes := #[] }, { accessFlags := 25, nameIndex := 137, descriptorIndex := 25, attributes := #[] }, { accessFlags := 25, nameIndex := 143, descriptorIndex := 25, attributes := #[] }, { accessFlags := 25, nameIndex := 53, descriptorIndex := 25, attributes := #[] }, { accessFlags := 25, nameIndex := 24, descriptorIndex := 25, attributes := #[] }, { accessFlags := 25, nameIndex := 162, descriptorIndex := 25, attributes := #[] }, { accessFlags := 25, nameIndex := 187, descriptorIndex := 25, attributes := #[] }, { accessFlags := 26, nameIndex := 48, descriptorIndex := 25, attributes := #[] }, { accessFlags := 25, nameIndex := 277, descriptorIndex := 25, attributes := #[] }, { accessFlags := 25, nameIndex := 280, descriptorIndex := 25, attributes := #[] }, { accessFlags := 25, nameIndex := 282, descriptorIndex := 25, attributes := #[] }, { accessFlags := 25, nameIndex := 284, descriptorIndex := 25, attributes := #[] }, { accessFlags := 25, nameIndex := 286, descriptorIndex := 25, attributes := #[] }, { accessFlags := 25, nameIndex := 288, descriptorIndex := 25, attributes := #[] }, { accessFlags := 25, nameIndex := 290, descriptorIndex := 25, attributes := #[] }, { accessFlags := 25, nameIndex := 292, descriptorIndex := 25, attributes := #[] }, { accessFlags := 26, nameIndex := 108, descriptorIndex := 109, attributes := #[] }, { accessFlags := 25, nameIndex := 294, descriptorIndex := 25, attributes := #[] }])
  fields := #[{ name := "U", type := (.object "jdk/internal/misc/Unsafe"), accessFlags := 24, slot := 0, constantValue := 0 }, { name := "BIG_ENDIAN", type := .boolean, accessFlags := 26, slot := 1, constantValue := 0 }, { name := "LOG2_ARRAY_BOOLEAN_INDEX_SCALE", type := .int, accessFlags := 25, slot := 2, constantValue := 0 }, { name := "LOG2_ARRAY_BYTE_INDEX_SCALE", type := .int, accessFlags := 25, slot := 3, constantValue := 0 }, { name := "LOG2_ARRAY_CHAR_INDEX_SCALE", type := .int, accessFlags := 25, slot := 4, constantValue := 0 }, { name := "LOG2_ARRAY_SHORT_INDEX_SCALE", type := .int, accessFlags := 25, slot := 5, constantValue := 0 }, { name := "LOG2_ARRAY_INT_INDEX_SCALE", type := .int, accessFlags := 25, slot := 6, constantValue := 0 }, { name := "LOG2_ARRAY_LONG_INDEX_SCALE", type := .int, accessFlags := 25, slot := 7, constantValue := 0 }, { name := "LOG2_ARRAY_FLOAT_INDEX_SCALE", type := .int, accessFlags := 25, slot := 8, constantValue := 0 }, { name := "LOG2_ARRAY_DOUBLE_INDEX_SCALE", type := .int, accessFlags := 25, slot := 9, constantValue := 0 }, { name := "LOG2_BYTE_BIT_SIZE", type := .int, accessFlags := 26, slot := 10, constantValue := 0 }, { name := "T_BOOLEAN", type := .int, accessFlags := 25, slot := 11, constantValue := 0 }, { name := "T_CHAR", type := .int, accessFlags := 25, slot := 12, constantValue := 0 }, { name := "T_FLOAT", type := .int, accessFlags := 25, slot := 13, constantValue := 0 }, { name := "T_DOUBLE", type := .int, accessFlags := 25, slot := 14, constantValue := 0 }, { name := "T_BYTE", type := .int, accessFlags := 25, slot := 15, constantValue := 0 }, { name := "T_SHORT", type := .int, accessFlags := 25, slot := 16, constantValue := 0 }, { name := "T_INT", type := .int, accessFlags := 25, slot := 17, constantValue := 0 }, { name := "T_LONG", type := .int, accessFlags := 25, slot := 18, constantValue := 0 }, { name := "JLA", type := (.object "jdk/internal/access/JavaLangAccess"), accessFlags := 26, slot := 19, constantValue := 0 }, { name := "SOFT_MAX_ARRAY_LENGTH", type := .int, accessFlags := 25, slot := 20, constantValue := 0 }]
  methods := #[k12m0]
  instanceTypes := #[]
  staticTypes := #[(.object "jdk/internal/misc/Unsafe"), .boolean, .int, .int, .int, .int, .int, .int, .int, .int, .int, .int, .int, .int, .int, .int, .int, .int, .int, (.object "jdk/internal/access/JavaLangAccess"), .int]
  resolved := Array.replicate 378 none
  statics := none }

def pool13 : Array CpInfo := pool [(1, u "java/lang/Cloneable"), (0, .class_ 1), (0, u "java/lang/Object"), (0, .class_ 3)] 3

/-- java/lang/Cloneable -/
def k13 : Class := { plain "java/lang/Cloneable" (some 0) with
  accessFlags := 1537
  interfaces := #[]
  cf := some (fileOf pool13 2 #[] #[] 1537 4 #[] #[])
  fields := #[]
  methods := #[]
  instanceTypes := #[]
  staticTypes := #[]
  resolved := Array.replicate 8 none
  statics := none }

/-- the primitive byte -/
def k14 : Class := { plain "byte" none with kind := .primitive 'B', accessFlags := 0x411 }
/-- [B -/
def k15 : Class := { plain "[B" (some 0) with kind := .array 14 .byte, interfaces := #[13, 2], accessFlags := 1041 }

/-- the primitive char -/
def k16 : Class := { plain "char" none with kind := .primitive 'C', accessFlags := 0x411 }
/-- [C -/
def k17 : Class := { plain "[C" (some 0) with kind := .array 16 .char, interfaces := #[13, 2], accessFlags := 1041 }

/-- the primitive int -/
def k18 : Class := { plain "int" none with kind := .primitive 'I', accessFlags := 0x411 }
/-- [I -/
def k19 : Class := { plain "[I" (some 0) with kind := .array 18 .int, interfaces := #[13, 2], accessFlags := 1041 }

def heap : Heap := #[{ cls := 7, slots := #[.long 0, .int 1, .null, .int 0, .null, .int 0, .int 0], vm := .statics 7 },
  { cls := 11, slots := #[.null, .null, .null], vm := .statics 11 }]
def classes : Array Class := #[k0, k1, k2, k3, k4, k5, k6, k7, k8, k9, k10, k11, k12, k13, k14, k15, k16, k17, k18, k19]
def interned : List (Array UInt16 × Addr) := []
def slotsUsed : Nat := 10
def theMethod : MethodId := ⟨1, 3⟩
def args0 : Array Value := #[.int 5, .int 3, .int 2, .int 7]
def aboutOver (below : List Frame) : State where
  vm := { classes := classes, interned := interned.toArray }
  heap := heap
  slotsUsed := slotsUsed
  threads := #[{ frames := .invoking theMethod args0 :: below }]
def below0 : List Frame := [.native { method := ⟨0, 0⟩, args := #[] }]
def about1 : State := aboutOver below0
def p0 : Program := .bare "" "" ""
def e0 : Env := launch0.env 0 0 0
theorem w_frames : about1.frames = Frame.invoking theMethod args0 :: below0 := rfl
set_option maxRecDepth 65536 in
theorem w_args : argsFit about1.vm theMethod args0 = true := by decide +kernel
set_option maxRecDepth 65536 in
theorem w_heap : heapFits about1 = true := by decide +kernel
set_option maxRecDepth 65536 in
theorem w_runnable : about1.curStatus? = some .runnable := by decide +kernel
set_option maxRecDepth 65536 in
theorem w_alone : about1.alone = true := by decide +kernel
set_option maxRecDepth 65536 in
theorem w_named : about1.methodNamed? x = some theMethod := by decide +kernel
set_option maxRecDepth 65536 in
theorem w_hears : about1.hears theMethod below0 = true := by decide +kernel
set_option maxRecDepth 65536 in
theorem w_ripe : about1.ripe theMethod args0 below0 = true := by decide +kernel
theorem w_running : about1.status = .running := rfl
set_option maxRecDepth 65536 in
theorem w_room : about1.hasRoom e0.platform room_1 = true :=
  launch0.hasRoom_least _ room_1 (by decide +kernel) (by decide +kernel) (by decide +kernel) (by decide +kernel) (by decide +kernel) (by decide +kernel)
theorem allAtoms_all (ts : List Jvm.Cond) (a : Array Jvm.Value) (st : Jvm.State) : (allAtoms ts).before a st = ts.all (fun c => c.before a st) := by
  induction ts with
  | nil => rfl
  | cons c t ih =>
    show (Jvm.Cond.and c (allAtoms t)).before a st = _
    rw [Jvm.Cond.before_and, ih, List.all_cons]
def words1 : List Jvm.Cond := Jvm.Cond.code x code maxLocals ret :: tables_1
/-- a 'code' word, met by the world's own term for the bytes: nothing is compared byte by byte -/
theorem code_word {y : MethodName} {bytes : ByteArray} {mx : Nat} {rt : Option FieldType} {a : Array Value} {s : State} {m : MethodId} {meth : Method} {c : Code} (h1 : s.methodNamed? y = some m) (h2 : s.vm.method? m = some meth) (h3 : meth.code = some c) (h4 : c.code = bytes)
    (h5 : (c.maxLocals == mx && c.exceptionTable.isEmpty && decide (c.maxStack ≤ mostOperands) && decide (meth.sig.returnType = rt) && !meth.locks && decide (parseMethodDescriptor y.desc = some meth.sig)) = true) : (Jvm.Cond.code y bytes mx rt).before a s = true := by
  simp only [Bool.and_eq_true, beq_iff_eq, Bool.not_eq_true', decide_eq_true_eq] at h5
  obtain ⟨⟨⟨⟨⟨g1, g2⟩, g3⟩, g4⟩, g5⟩, g6⟩ := h5
  simp [Cond.before, Cond.holds, Cond.value, h1, h2, h3, h4, g1, g2, g3, g4, g5, g6]
def isCode : Jvm.Cond → Bool
  | .code _ _ _ _ => true
  | _ => false
theorem all_split {L : List Jvm.Cond} {P : Jvm.Cond → Bool} (h1 : L.all (fun c => isCode c || P c) = true) (h2 : ∀ c ∈ L.filter isCode, P c = true) : L.all P = true := by
  refine List.all_eq_true.mpr fun c hc => ?_
  have h := List.all_eq_true.mp h1 c hc
  rcases Bool.eq_false_or_eq_true (isCode c) with hi | hi
  · exact h2 c (List.mem_filter.mpr ⟨hc, hi⟩)
  · simpa [hi] using h
set_option maxRecDepth 65536 in
theorem w_c0 : (Jvm.Cond.code x code maxLocals ret).before args0 about1 = true := code_word (m := ⟨1, 3⟩) (meth := k1m3) (c := k1c3) (by decide +kernel) rfl rfl rfl (by decide +kernel)
set_option maxRecDepth 65536 in
theorem w_c1 : (Jvm.Cond.code ({ cls := "com/example/brisk_ledger/briskledger/LockNameEqualsPinLaw", name := "str", desc := "(III)Ljava/lang/String;" } : Jvm.MethodName) method_2_code (5 : Nat) (Option.some (Jvm.ClassFile.FieldType.object "java/lang/String"))).before args0 about1 = true := code_word (m := ⟨1, 1⟩) (meth := k1m1) (c := k1c1) (by decide +kernel) rfl rfl rfl (by decide +kernel)
set_option maxRecDepth 65536 in
theorem w_c2 : (Jvm.Cond.code ({ cls := "java/lang/String", name := "valueOf", desc := "(C)Ljava/lang/String;" } : Jvm.MethodName) jdk_42_method_139_code (1 : Nat) (Option.some (Jvm.ClassFile.FieldType.object "java/lang/String"))).before args0 about1 = true := code_word (m := ⟨7, 3⟩) (meth := k7m3) (c := k7c3) (by decide +kernel) rfl rfl rfl (by decide +kernel)
set_option maxRecDepth 65536 in
theorem w_c3 : (Jvm.Cond.code ({ cls := "java/lang/StringLatin1", name := "canEncode", desc := "(C)Z" } : Jvm.MethodName) jdk_43_method_3_code (1 : Nat) (Option.some Jvm.ClassFile.FieldType.boolean)).before args0 about1 = true := code_word (m := ⟨8, 1⟩) (meth := k8m1) (c := k8c1) (by decide +kernel) rfl rfl rfl (by decide +kernel)
set_option maxRecDepth 65536 in
theorem w_c4 : (Jvm.Cond.code ({ cls := "java/lang/StringLatin1", name := "toBytes", desc := "(C)[B" } : Jvm.MethodName) jdk_43_method_46_code (1 : Nat) (Option.some (Jvm.ClassFile.FieldType.array Jvm.ClassFile.FieldType.byte))).before args0 about1 = true := code_word (m := ⟨8, 3⟩) (meth := k8m3) (c := k8c3) (by decide +kernel) rfl rfl rfl (by decide +kernel)
set_option maxRecDepth 65536 in
theorem w_c5 : (Jvm.Cond.code ({ cls := "java/lang/String", name := "<init>", desc := "([BB)V" } : Jvm.MethodName) jdk_42_method_151_code (3 : Nat) (Option.none : Option Jvm.ClassFile.FieldType)).before args0 about1 = true := code_word (m := ⟨7, 5⟩) (meth := k7m5) (c := k7c5) (by decide +kernel) rfl rfl rfl (by decide +kernel)
set_option maxRecDepth 65536 in
theorem w_c6 : (Jvm.Cond.code ({ cls := "java/lang/Object", name := "<init>", desc := "()V" } : Jvm.MethodName) object_method_1_code (1 : Nat) (Option.none : Option Jvm.ClassFile.FieldType)).before args0 about1 = true := code_word (m := ⟨0, 0⟩) (meth := k0m0) (c := k0c0) (by decide +kernel) rfl rfl rfl (by decide +kernel)
set_option maxRecDepth 65536 in
theorem w_c7 : (Jvm.Cond.code ({ cls := "com/example/brisk_ledger/briskledger/LockName", name := "<init>", desc := "(Ljava/lang/String;Ljava/lang/String;Ljava/lang/String;)V" } : Jvm.MethodName) prog_21_method_1_code (4 : Nat) (Option.none : Option Jvm.ClassFile.FieldType)).before args0 about1 = true := code_word (m := ⟨9, 0⟩) (meth := k9m0) (c := k9c0) (by decide +kernel) rfl rfl rfl (by decide +kernel)
set_option maxRecDepth 65536 in
theorem w_c8 : (Jvm.Cond.code ({ cls := "com/example/brisk_ledger/briskledger/LockNameEqualsPinLaw", name := "same", desc := "(IIIIII)Z" } : Jvm.MethodName) method_3_code (8 : Nat) (Option.some Jvm.ClassFile.FieldType.boolean)).before args0 about1 = true := code_word (m := ⟨1, 2⟩) (meth := k1m2) (c := k1c2) (by decide +kernel) rfl rfl rfl (by decide +kernel)
set_option maxRecDepth 65536 in
theorem w_c9 : (Jvm.Cond.code ({ cls := "com/example/brisk_ledger/briskledger/LockName", name := "equals", desc := "(Ljava/lang/Object;)Z" } : Jvm.MethodName) prog_21_method_5_code (3 : Nat) (Option.some Jvm.ClassFile.FieldType.boolean)).before args0 about1 = true := code_word (m := ⟨9, 1⟩) (meth := k9m1) (c := k9c1) (by decide +kernel) rfl rfl rfl (by decide +kernel)
set_option maxRecDepth 65536 in
theorem w_c10 : (Jvm.Cond.code ({ cls := "java/lang/String", name := "equals", desc := "(Ljava/lang/Object;)Z" } : Jvm.MethodName) jdk_42_method_66_code (3 : Nat) (Option.some Jvm.ClassFile.FieldType.boolean)).before args0 about1 = true := code_word (m := ⟨7, 2⟩) (meth := k7m2) (c := k7c2) (by decide +kernel) rfl rfl rfl (by decide +kernel)
set_option maxRecDepth 65536 in
theorem w_c11 : (Jvm.Cond.code ({ cls := "java/lang/StringLatin1", name := "equals", desc := "([B[B)Z" } : Jvm.MethodName) jdk_43_method_13_code (3 : Nat) (Option.some Jvm.ClassFile.FieldType.boolean)).before args0 about1 = true := code_word (m := ⟨8, 2⟩) (meth := k8m2) (c := k8c2) (by decide +kernel) rfl rfl rfl (by decide +kernel)
set_option maxRecDepth 65536 in
theorem w_c12 : (Jvm.Cond.code ({ cls := "java/lang/String", name := "<init>", desc := "([C)V" } : Jvm.MethodName) jdk_42_method_3_code (2 : Nat) (Option.none : Option Jvm.ClassFile.FieldType)).before args0 about1 = true := code_word (m := ⟨7, 1⟩) (meth := k7m1) (c := k7c1) (by decide +kernel) rfl rfl rfl (by decide +kernel)
set_option maxRecDepth 65536 in
theorem w_c13 : (Jvm.Cond.code ({ cls := "java/lang/String", name := "<init>", desc := "([CIILjava/lang/Void;)V" } : Jvm.MethodName) jdk_42_method_149_code (6 : Nat) (Option.none : Option Jvm.ClassFile.FieldType)).before args0 about1 = true := code_word (m := ⟨7, 4⟩) (meth := k7m4) (c := k7c4) (by decide +kernel) rfl rfl rfl (by decide +kernel)
set_option maxRecDepth 65536 in
theorem w_c14 : (Jvm.Cond.code ({ cls := "java/lang/StringUTF16", name := "compress", desc := "([CII)[B" } : Jvm.MethodName) jdk_52_method_16_code (6 : Nat) (Option.some (Jvm.ClassFile.FieldType.array Jvm.ClassFile.FieldType.byte))).before args0 about1 = true := code_word (m := ⟨10, 2⟩) (meth := k10m2) (c := k10c2) (by decide +kernel) rfl rfl rfl (by decide +kernel)
set_option maxRecDepth 65536 in
theorem w_c15 : (Jvm.Cond.code ({ cls := "java/lang/StringUTF16", name := "compress", desc := "([CI[BII)I" } : Jvm.MethodName) jdk_52_method_21_code (7 : Nat) (Option.some Jvm.ClassFile.FieldType.int)).before args0 about1 = true := code_word (m := ⟨10, 3⟩) (meth := k10m3) (c := k10c3) (by decide +kernel) rfl rfl rfl (by decide +kernel)
set_option maxRecDepth 65536 in
theorem w_c16 : (Jvm.Cond.code ({ cls := "java/lang/StringUTF16", name := "coderFromArrayLen", desc := "([BI)B" } : Jvm.MethodName) jdk_52_method_15_code (2 : Nat) (Option.some Jvm.ClassFile.FieldType.byte)).before args0 about1 = true := code_word (m := ⟨10, 1⟩) (meth := k10m1) (c := k10c1) (by decide +kernel) rfl rfl rfl (by decide +kernel)
def codes1 : List Jvm.Cond := [Jvm.Cond.code x code maxLocals ret, Jvm.Cond.code ({ cls := "com/example/brisk_ledger/briskledger/LockNameEqualsPinLaw", name := "str", desc := "(III)Ljava/lang/String;" } : Jvm.MethodName) method_2_code (5 : Nat) (Option.some (Jvm.ClassFile.FieldType.object "java/lang/String")), Jvm.Cond.code ({ cls := "java/lang/String", name := "valueOf", desc := "(C)Ljava/lang/String;" } : Jvm.MethodName) jdk_42_method_139_code (1 : Nat) (Option.some (Jvm.ClassFile.FieldType.object "java/lang/String")), Jvm.Cond.code ({ cls := "java/lang/StringLatin1", name := "canEncode", desc := "(C)Z" } : Jvm.MethodName) jdk_43_method_3_code (1 : Nat) (Option.some Jvm.ClassFile.FieldType.boolean), Jvm.Cond.code ({ cls := "java/lang/StringLatin1", name := "toBytes", desc := "(C)[B" } : Jvm.MethodName) jdk_43_method_46_code (1 : Nat) (Option.some (Jvm.ClassFile.FieldType.array Jvm.ClassFile.FieldType.byte)), Jvm.Cond.code ({ cls := "java/lang/String", name := "<init>", desc := "([BB)V" } : Jvm.MethodName) jdk_42_method_151_code (3 : Nat) (Option.none : Option Jvm.ClassFile.FieldType), Jvm.Cond.code ({ cls := "java/lang/Object", name := "<init>", desc := "()V" } : Jvm.MethodName) object_method_1_code (1 : Nat) (Option.none : Option Jvm.ClassFile.FieldType), Jvm.Cond.code ({ cls := "com/example/brisk_ledger/briskledger/LockName", name := "<init>", desc := "(Ljava/lang/String;Ljava/lang/String;Ljava/lang/String;)V" } : Jvm.MethodName) prog_21_method_1_code (4 : Nat) (Option.none : Option Jvm.ClassFile.FieldType), Jvm.Cond.code ({ cls := "com/example/brisk_ledger/briskledger/LockNameEqualsPinLaw", name := "same", desc := "(IIIIII)Z" } : Jvm.MethodName) method_3_code (8 : Nat) (Option.some Jvm.ClassFile.FieldType.boolean), Jvm.Cond.code ({ cls := "com/example/brisk_ledger/briskledger/LockName", name := "equals", desc := "(Ljava/lang/Object;)Z" } : Jvm.MethodName) prog_21_method_5_code (3 : Nat) (Option.some Jvm.ClassFile.FieldType.boolean), Jvm.Cond.code ({ cls := "java/lang/String", name := "equals", desc := "(Ljava/lang/Object;)Z" } : Jvm.MethodName) jdk_42_method_66_code (3 : Nat) (Option.some Jvm.ClassFile.FieldType.boolean), Jvm.Cond.code ({ cls := "java/lang/StringLatin1", name := "equals", desc := "([B[B)Z" } : Jvm.MethodName) jdk_43_method_13_code (3 : Nat) (Option.some Jvm.ClassFile.FieldType.boolean), Jvm.Cond.code ({ cls := "java/lang/String", name := "<init>", desc := "([C)V" } : Jvm.MethodName) jdk_42_method_3_code (2 : Nat) (Option.none : Option Jvm.ClassFile.FieldType), Jvm.Cond.code ({ cls := "java/lang/String", name := "<init>", desc := "([CIILjava/lang/Void;)V" } : Jvm.MethodName) jdk_42_method_149_code (6 : Nat) (Option.none : Option Jvm.ClassFile.FieldType), Jvm.Cond.code ({ cls := "java/lang/StringUTF16", name := "compress", desc := "([CII)[B" } : Jvm.MethodName) jdk_52_method_16_code (6 : Nat) (Option.some (Jvm.ClassFile.FieldType.array Jvm.ClassFile.FieldType.byte)), Jvm.Cond.code ({ cls := "java/lang/StringUTF16", name := "compress", desc := "([CI[BII)I" } : Jvm.MethodName) jdk_52_method_21_code (7 : Nat) (Option.some Jvm.ClassFile.FieldType.int), Jvm.Cond.code ({ cls := "java/lang/StringUTF16", name := "coderFromArrayLen", desc := "([BI)B" } : Jvm.MethodName) jdk_52_method_15_code (2 : Nat) (Option.some Jvm.ClassFile.FieldType.byte)]
set_option maxRecDepth 65536 in
theorem codes_eq : words1.filter isCode = codes1 := rfl
theorem w_codes : ∀ c ∈ words1.filter isCode, c.before args0 about1 = true := by
  rw [codes_eq]
  intro c hc
  simp only [codes1, List.mem_cons, List.not_mem_nil, or_false] at hc
  rcases hc with rfl | rfl | rfl | rfl | rfl | rfl | rfl | rfl | rfl | rfl | rfl | rfl | rfl | rfl | rfl | rfl | rfl
  · exact w_c0
  · exact w_c1
  · exact w_c2
  · exact w_c3
  · exact w_c4
  · exact w_c5
  · exact w_c6
  · exact w_c7
  · exact w_c8
  · exact w_c9
  · exact w_c10
  · exact w_c11
  · exact w_c12
  · exact w_c13
  · exact w_c14
  · exact w_c15
  · exact w_c16
set_option maxRecDepth 65536 in
theorem w_t1 : (words1.take 24).all (fun c => isCode c || c.before args0 about1) = true := by decide +kernel
set_option maxRecDepth 65536 in
theorem w_t2 : ((words1.drop 24).take 24).all (fun c => isCode c || c.before args0 about1) = true := by decide +kernel
set_option maxRecDepth 65536 in
theorem w_t3 : (((words1.drop 24).drop 24).take 24).all (fun c => isCode c || c.before args0 about1) = true := by decide +kernel
set_option maxRecDepth 65536 in
theorem w_t4 : (((words1.drop 24).drop 24).drop 24).all (fun c => isCode c || c.before args0 about1) = true := by decide +kernel
theorem w_tables : (allAtoms (Jvm.Cond.code x code maxLocals ret :: tables_1)).before args0 about1 = true := by
  rw [allAtoms_all]
  show words1.all (fun c => c.before args0 about1) = true
  refine all_split ?_ w_codes
  rw [← List.take_append_drop 24 words1, List.all_append, w_t1, ← List.take_append_drop 24 (words1.drop 24), List.all_append, w_t2, ← List.take_append_drop 24 ((words1.drop 24).drop 24), List.all_append, w_t3, w_t4]
  rfl
set_option maxRecDepth 65536 in
theorem w_rest : rest_1_c.before args0 about1 = true := by decide +kernel
set_option maxRecDepth 65536 in
theorem w_case : (Jvm.Cond.and given_1 narrow_1).before args0 about1 = true := by decide +kernel
theorem w_applies : (headSpec (Jvm.Cond.code x code maxLocals ret :: tables_1) room_1).applies x e0.platform about1 = true :=
  (Spec.applies_iff w_frames).mpr ⟨w_running, w_runnable, w_alone, w_named, w_hears, w_ripe, w_room, w_tables⟩
theorem atStart : AtStart classFile x code maxLocals ret World_1 tables_1 room_1 Calls_1 rest_1 Pre_1 launch0 p0 e0 about1 theMethod args0 below0 :=
  ⟨lists_1, trivial, launch0.admits_env _ _ _, launch0.least_env, fairChoices_fair.cas, fairChoices_fair.clock, w_frames, w_args, w_heap, w_applies, trivial, w_rest, w_case⟩
end start1
theorem witness_1 : WitnessClaimed_1 := ⟨start1.p0, start1.e0, start1.about1, start1.theMethod, start1.args0, start1.below0, start1.atStart⟩
end Jvm.Pilot.@@N@@
