import JvmDerived
import JvmDerived.Pilot.@@N@@Statement
import JvmDerived.Pilot.@@N@@Code
set_option linter.unusedVariables false
set_option linter.unusedSimpArgs false
namespace Jvm.OwnKit
open Sem ClassFile Op Lib Jvm.Stand Jvm.Free Jvm.LawKit Jvm.RoadKit
/-- from the state A the run comes to an end as the contract asks it -/
def OwnEnd (p : Program) (e : Env) (below : List Frame) (s : State) (Q : Option Value → Heap → List Loc → Prop) (kc ks : Nat) (A : State) : Prop :=
  ∃ (s₂ : State) (o : Outcome), Steps p.tables e below A s₂ ∧ s₂.status = .running ∧ Ended s₂ below o ∧ ∃ v L, o = .returned v ∧ Q v s₂.heap L ∧ FrameEnd s o s₂ L kc ks
section Own
variable {p : Program} {l : Launch} {e : Env} {R : Room} {s : State} {m : MethodId} {args : Array Value} {below : List Frame} {meth : Method} {c : Code} {T : State} {locs : List Loc} {cells slots : Nat} {Z : State} {a0 : Array Value} {h : Heap}
variable {Q : Option Value → Heap → List Loc → Prop} {kc ks : Nat}
theorem go {A B : State} (k : ∀ t, Steps p.tables e below B t → Steps p.tables e below A t) (F : OwnEnd p e below s Q kc ks B) : OwnEnd p e below s Q kc ks A := by
  obtain ⟨s₂, o, h1, r⟩ := F; exact ⟨s₂, o, k _ h1, r⟩
theorem up {cells' slots' : Nat} (X : Stand p l e R s m args below meth c T locs cells slots) (h1 : cells ≤ cells') (h2 : slots ≤ slots') : Stand p l e R s m args below meth c T locs cells' slots' :=
  ⟨X.admits, X.cas, X.clock, X.frames, X.room, X.hears, X.method, X.code, X.here, X.tail, X.warmed, X.limits, X.bytes, X.same.mono h1 h2⟩
theorem done (X : Stand p l e R s m args below meth c T locs cells slots) (hlk : meth.locks = false) {v : Option Value} (hv : meth.sig.returnType = none → v = none) {A : State}
    (st : ∀ fs, (∀ (f : JFrame) (acts : List Action), f.method = m → f.locked = none → f.entered = [] → (doReturn e (T.setTop f) acts v).1 = T.setFrames fs) → Steps p.tables e below A (T.setFrames fs))
    (eT : T.heap = h) (hk : cells ≤ kc) (hs : slots ≤ ks) (hQ : Q v h locs) : OwnEnd p e below s Q kc ks A := by
  obtain ⟨fs, hr, hrun, hended, hW, hsame⟩ := X.leave (v := v) hv hlk
  exact ⟨_, _, st fs hr, hrun, hended, _, _, rfl, (by show Q v T.heap locs; rw [eT]; exact hQ), ⟨_, rfl⟩, hW, hsame.mono hk hs⟩
theorem endI (X : Stand p l e R s m args below meth c T locs cells slots) (hx : p.tables.exec = Jvm.exec) (hlk : meth.locks = false) (hret : meth.sig.returnType = some .int) {pc : Nat} {Ls : Array Slot} {z : Int32} {rest : List Value} (hd : decode c.code pc = .ok (.ireturn, 1))
    (eT : T.heap = h) (hk : cells ≤ kc) (hs : slots ≤ ks) (hQ : Q (some (.int z)) h locs) : OwnEnd p e below s Q kc ks (T.setTop (mkF m pc Ls (.int z :: rest))) :=
  done X hlk (fun q => by rw [hret] at q; cases q) (fun fs hr => retOut X hx (w := .int z) hret rfl (Or.inl ⟨rfl, Or.inl rfl, z, rfl⟩) hd hr) eT hk hs hQ
theorem endN (X : Stand p l e R s m args below meth c T locs cells slots) (hx : p.tables.exec = Jvm.exec) (hlk : meth.locks = false) {t : FieldType} (ht : t = .boolean ∨ t = .byte ∨ t = .char ∨ t = .short) (hret : meth.sig.returnType = some t) {pc : Nat} {Ls : Array Slot} {z : Int32} {rest : List Value} (hd : decode c.code pc = .ok (.ireturn, 1))
    (eT : T.heap = h) (hk : cells ≤ kc) (hs : slots ≤ ks) (hQ : Q (some (.int (nar t z))) h locs) : OwnEnd p e below s Q kc ks (T.setTop (mkF m pc Ls (.int z :: rest))) :=
  done X hlk (fun q => by rw [hret] at q; cases q) (fun fs hr => retN X hx hret ht hd hr) eT hk hs hQ
theorem endJ (X : Stand p l e R s m args below meth c T locs cells slots) (hx : p.tables.exec = Jvm.exec) (hlk : meth.locks = false) (hret : meth.sig.returnType = some .long) {pc : Nat} {Ls : Array Slot} {z : Int64} {rest : List Value} (hd : decode c.code pc = .ok (.lreturn, 1))
    (eT : T.heap = h) (hk : cells ≤ kc) (hs : slots ≤ ks) (hQ : Q (some (.long z)) h locs) : OwnEnd p e below s Q kc ks (T.setTop (mkF m pc Ls (.long z :: rest))) :=
  done X hlk (fun q => by rw [hret] at q; cases q) (fun fs hr => retOut X hx (w := .long z) hret rfl (Or.inr (Or.inl ⟨rfl, rfl, z, rfl⟩)) hd hr) eT hk hs hQ
theorem endA (X : Stand p l e R s m args below meth c T locs cells slots) (hx : p.tables.exec = Jvm.exec) (hlk : meth.locks = false) {t : FieldType} (hret : meth.sig.returnType = some t) (ht : t.isReference = true) {pc : Nat} {Ls : Array Slot} {w : Value} (hw : w.isRef = true) {rest : List Value} (hd : decode c.code pc = .ok (.areturn, 1))
    (eT : T.heap = h) (hk : cells ≤ kc) (hs : slots ≤ ks) (hQ : Q (some w) h locs) : OwnEnd p e below s Q kc ks (T.setTop (mkF m pc Ls (w :: rest))) :=
  done X hlk (fun q => by rw [hret] at q; cases q) (fun fs hr => retOut X hx (w := w) hret (by cases t <;> first | rfl | cases ht) (Or.inr (Or.inr (Or.inr (Or.inr ⟨rfl, ht, hw⟩)))) hd hr) eT hk hs hQ
theorem endV (X : Stand p l e R s m args below meth c T locs cells slots) (hx : p.tables.exec = Jvm.exec) (hlk : meth.locks = false) (hret : meth.sig.returnType = none) {pc : Nat} {Ls : Array Slot} (hd : decode c.code pc = .ok (.return_, 1))
    (eT : T.heap = h) (hk : cells ≤ kc) (hs : slots ≤ ks) (hQ : Q none h locs) : OwnEnd p e below s Q kc ks (T.setTop (mkF m pc Ls [])) :=
  done X hlk (fun _ => rfl) (fun fs hr => X.returnOut hx hret hd hr) eT hk hs hQ
theorem nar01 {P : Prop} [Decidable P] : nar .boolean (if P then (1 : Int32) else 0) = if P then (1 : Int32) else 0 := by split <;> rfl
section Call
variable {own : String} {index : Nat} {y z : MethodName} {bytes : ByteArray} {maxL W : Nat} {ret : Option FieldType} {rm : Room} {as' : Array Value} {Qc : Option Value → Heap → List Loc → Prop} {g : JFrame} {argsL rest : List Value}
theorem callStat (X : Stand p l e R s m args below meth c T locs cells slots) (hx : p.tables.exec = Jvm.exec) (hZ : Z.Warmed39 s.vm) (hown : s.vm.findClass own = some m.cls)
    (w1 : (Cond.methodLink own index y).before a0 Z = true) (w2 : (Cond.static y).before a0 Z = true) (w3 : (Cond.initialized y.cls).before a0 Z = true) (w4 : (Cond.code y bytes maxL ret).before a0 Z = true)
    (hy : y.cls ≠ "java/lang/invoke/MethodHandle" ∧ y.cls ≠ "java/lang/invoke/VarHandle")
    (hM : MetFree l y (head1 [Cond.code y bytes maxL ret] rm) (fun a U => a = as' ∧ Z.Warmed39 U.vm ∧ U.heap = h) (fun _ _ _ _ _ => True) (fun _ U o U' => ∃ v L, o = .returned v ∧ Qc v U'.heap L ∧ FrameEnd U o U' L rm.cells rm.slots))
    (hf : rm.frames + 1 ≤ R.frames) (hl : W + (maxL + 11) + rm.locals ≤ R.locals) (eT : T.heap = h) (hg : g.method = m) (hsize : g.locals.size = c.maxLocals) (ha : argsL.toArray = as')
    (hlen : ∀ sig, parseMethodDescriptor y.desc = some sig → argsL.length = sig.parameters.length) (hstack : g.stack = argsL.reverse ++ rest) (hW : 2 * g.monitorRoom + (rest.map fun v => v.category).sum ≤ W) (hdg : decode c.code g.pc = .ok (.invokestatic index, 3))
    (hc : cells + rm.cells ≤ R.cells) (hs : slots + rm.slots ≤ R.slots) :
    ∃ (v : Option Value) (T' : State) (L : List Loc), Stand p l e R s m args below meth c T' (locs ++ L) (cells + rm.cells) (slots + rm.slots) ∧ Qc v T'.heap L ∧ ∀ target, Steps p.tables e below (T'.setTop { g with pc := g.pc + 3, stack := v.toList ++ rest }) target → Steps p.tables e below (T.setTop g) target := by
  obtain ⟨v, _, ⟨T', L', k', n'⟩, -, X', ⟨L, hQ, l1, l2, l3⟩, st⟩ := Jvm.LawKit.callS X hx hown (mvT hZ w1) (mvT hZ w2) (mvT hZ w3) (mvT hZ w4) hy (backOf (W := W) hM hZ w4 w3 hf hl) (g := g) hg hsize (argsL := argsL) (rest := rest) hlen hstack hW hdg (fun _ _ => ⟨ha, eT, hc, hs⟩)
  dsimp only [Pt.U, Pt.locs, Pt.cells, Pt.slots] at X' l1 l2 l3 st hQ
  subst l1 l2 l3
  exact ⟨v, T', L, X', hQ, st⟩
theorem callInit (X : Stand p l e R s m args below meth c T locs cells slots) (hx : p.tables.exec = Jvm.exec) (hZ : Z.Warmed39 s.vm) (hown : s.vm.findClass own = some m.cls) (hy1 : y.name = "<init>")
    (w1 : (Cond.methodLink own index y).before a0 Z = true) (w2 : (Cond.instanceMethod y).before a0 Z = true) (w3 : (Cond.initialized y.cls).before a0 Z = true) (w4 : (Cond.code y bytes maxL none).before a0 Z = true)
    (hy : y.cls ≠ "java/lang/invoke/MethodHandle" ∧ y.cls ≠ "java/lang/invoke/VarHandle")
    (hM : MetFree l y (head1 [Cond.code y bytes maxL none] rm) (fun a U => a = as' ∧ Z.Warmed39 U.vm ∧ U.heap = h) (fun _ _ _ _ _ => True) (fun _ U o U' => ∃ v L, o = .returned v ∧ Qc v U'.heap L ∧ FrameEnd U o U' L rm.cells rm.slots))
    (hf : rm.frames + 1 ≤ R.frames) (hl : W + (maxL + 11) + rm.locals ≤ R.locals) (eT : T.heap = h) (hg : g.method = m) (hsize : g.locals.size = c.maxLocals) {a : Addr} (ha : (Value.ref a :: argsL).toArray = as')
    (hlen : ∀ sig, parseMethodDescriptor y.desc = some sig → argsL.length = sig.parameters.length) (hstack : g.stack = argsL.reverse ++ .ref a :: rest) (hW : 2 * g.monitorRoom + (rest.map fun v => v.category).sum ≤ W) (hdg : decode c.code g.pc = .ok (.invokespecial index, 3))
    (hc : cells + rm.cells ≤ R.cells) (hs : slots + rm.slots ≤ R.slots) :
    ∃ (v : Option Value) (T' : State) (L : List Loc), Stand p l e R s m args below meth c T' (locs ++ L) (cells + rm.cells) (slots + rm.slots) ∧ Qc v T'.heap L ∧ ∀ target, Steps p.tables e below (T'.setTop { g with pc := g.pc + 3, stack := v.toList ++ rest }) target → Steps p.tables e below (T.setTop g) target := by
  obtain ⟨v, _, ⟨T', L', k', n'⟩, -, X', ⟨L, hQ, l1, l2, l3⟩, st⟩ := X.specialBack hx hy1 hown (mvT hZ w1) (mvT hZ w2) (mvT hZ w4) hy (backOf (W := W) hM hZ w4 w3 hf hl) (g := g) hg hsize (Steps.refl _) (a := a) (argsL := argsL) (rest := rest) hlen hstack hW hdg (fun _ _ => ⟨ha, eT, hc, hs⟩)
  dsimp only [Pt.U, Pt.locs, Pt.cells, Pt.slots] at X' l1 l2 l3 st hQ
  subst l1 l2 l3
  exact ⟨v, T', L, X', hQ, fun _ k => st.trans k⟩
theorem callVirt (X : Stand p l e R s m args below meth c T locs cells slots) (hx : p.tables.exec = Jvm.exec) (hZ : Z.Warmed39 s.vm) (hown : s.vm.findClass own = some m.cls) {C : String}
    (w1 : (Cond.methodLink own index y).before a0 Z = true) (w2 : (Cond.declares y).before a0 Z = true) (hnf : NotFace s y) (w3 : (Cond.selects C y z).before a0 Z = true) (w5 : (Cond.instanceMethod z).before a0 Z = true) (w6 : (Cond.initialized z.cls).before a0 Z = true) (w4 : (Cond.code z bytes maxL ret).before a0 Z = true)
    (hy : y.cls ≠ "java/lang/invoke/MethodHandle" ∧ y.cls ≠ "java/lang/invoke/VarHandle")
    (hM : MetFree l z (head1 [Cond.code z bytes maxL ret] rm) (fun a U => a = as' ∧ Z.Warmed39 U.vm ∧ U.heap = h) (fun _ _ _ _ _ => True) (fun _ U o U' => ∃ v L, o = .returned v ∧ Qc v U'.heap L ∧ FrameEnd U o U' L rm.cells rm.slots))
    (hf : rm.frames + 1 ≤ R.frames) (hl : W + (maxL + 11) + rm.locals ≤ R.locals) (eT : T.heap = h) {a : Addr} (E : Exa Z h a C) (hg : g.method = m) (hsize : g.locals.size = c.maxLocals) (ha : (Value.ref a :: argsL).toArray = as')
    (hlen : ∀ sig, parseMethodDescriptor y.desc = some sig → argsL.length = sig.parameters.length) (hstack : g.stack = argsL.reverse ++ .ref a :: rest) (hW : 2 * g.monitorRoom + (rest.map fun v => v.category).sum ≤ W) (hdg : decode c.code g.pc = .ok (.invokevirtual index, 3))
    (hc : cells + rm.cells ≤ R.cells) (hs : slots + rm.slots ≤ R.slots) :
    ∃ (v : Option Value) (T' : State) (L : List Loc), Stand p l e R s m args below meth c T' (locs ++ L) (cells + rm.cells) (slots + rm.slots) ∧ Qc v T'.heap L ∧ ∀ target, Steps p.tables e below (T'.setTop { g with pc := g.pc + 3, stack := v.toList ++ rest }) target → Steps p.tables e below (T.setTop g) target := by
  obtain ⟨cq, kq, q1, q2, q3⟩ := isOf hZ eT E
  obtain ⟨v, _, ⟨T', L', k', n'⟩, -, X', ⟨L, hQ, l1, l2, l3⟩, st⟩ := X.virtualBack hx hown (mvT hZ w1) (mvT hZ w2) hnf (mvT hZ w3) (mvT hZ w5) hy (backOf (W := W) hM hZ w4 w6 hf hl) q1 q3 (g := g) hg hsize (Steps.refl _) (argsL := argsL) (rest := rest) hlen hstack hW hdg (fun _ _ => ⟨ha, eT, hc, hs⟩)
  dsimp only [Pt.U, Pt.locs, Pt.cells, Pt.slots] at X' l1 l2 l3 st hQ
  subst l1 l2 l3
  exact ⟨v, T', L, X', hQ, fun _ k => st.trans k⟩
theorem callUp (X : Stand p l e R s m args below meth c T locs cells slots) (hx : p.tables.exec = Jvm.exec) (hZ : Z.Warmed39 s.vm) (hown : s.vm.findClass own = some m.cls) {C owner : String}
    (w1 : (Cond.methodLink own index y).before a0 Z = true) (w0 : (Cond.sameMethod y.cls owner y.name y.desc).before a0 Z = true) (w2 : (Cond.declares ⟨owner, y.name, y.desc⟩).before a0 Z = true) (ho : owner ≠ "java/lang/invoke/MethodHandle" ∧ owner ≠ "java/lang/invoke/VarHandle")
    (w3 : (Cond.selects C y z).before a0 Z = true) (w5 : (Cond.instanceMethod z).before a0 Z = true) (w6 : (Cond.initialized z.cls).before a0 Z = true) (w4 : (Cond.code z bytes maxL ret).before a0 Z = true)
    (hM : MetFree l z (head1 [Cond.code z bytes maxL ret] rm) (fun a U => a = as' ∧ Z.Warmed39 U.vm ∧ U.heap = h) (fun _ _ _ _ _ => True) (fun _ U o U' => ∃ v L, o = .returned v ∧ Qc v U'.heap L ∧ FrameEnd U o U' L rm.cells rm.slots))
    (hf : rm.frames + 1 ≤ R.frames) (hl : W + (maxL + 11) + rm.locals ≤ R.locals) (eT : T.heap = h) {a : Addr} (E : Exa Z h a C) (hg : g.method = m) (hsize : g.locals.size = c.maxLocals) (ha : (Value.ref a :: argsL).toArray = as')
    (hlen : ∀ sig, parseMethodDescriptor y.desc = some sig → argsL.length = sig.parameters.length) (hstack : g.stack = argsL.reverse ++ .ref a :: rest) (hW : 2 * g.monitorRoom + (rest.map fun v => v.category).sum ≤ W) (hdg : decode c.code g.pc = .ok (.invokevirtual index, 3))
    (hc : cells + rm.cells ≤ R.cells) (hs : slots + rm.slots ≤ R.slots) :
    ∃ (v : Option Value) (T' : State) (L : List Loc), Stand p l e R s m args below meth c T' (locs ++ L) (cells + rm.cells) (slots + rm.slots) ∧ Qc v T'.heap L ∧ ∀ target, Steps p.tables e below (T'.setTop { g with pc := g.pc + 3, stack := v.toList ++ rest }) target → Steps p.tables e below (T.setTop g) target := by
  obtain ⟨cq, kq, q1, q2, q3⟩ := isOf hZ eT E
  obtain ⟨v, _, ⟨T', L', k', n'⟩, -, X', ⟨L, hQ, l1, l2, l3⟩, st⟩ := X.virtualBackUp hx hown (mvT hZ w1) (mvT hZ w0) (mvT hZ w2) ho (mvT hZ w3) (mvT hZ w5) (backOf (W := W) hM hZ w4 w6 hf hl) q1 q3 (g := g) hg hsize (Steps.refl _) (argsL := argsL) (rest := rest) hlen hstack hW hdg (fun _ _ => ⟨ha, eT, hc, hs⟩)
  dsimp only [Pt.U, Pt.locs, Pt.cells, Pt.slots] at X' l1 l2 l3 st hQ
  subst l1 l2 l3
  exact ⟨v, T', L, X', hQ, fun _ k => st.trans k⟩
theorem callPriv (X : Stand p l e R s m args below meth c T locs cells slots) (hx : p.tables.exec = Jvm.exec) (hZ : Z.Warmed39 s.vm) (hown : s.vm.findClass own = some m.cls) {C : String} {kk : Nat}
    (w1 : (Cond.methodLink own index y).before a0 Z = true) (w2 : (Cond.instanceMethod y).before a0 Z = true) (wp : (Cond.privateMethod y).before a0 Z = true) (wi : (Cond.instantiable y.cls kk).before a0 Z = true) (w6 : (Cond.initialized y.cls).before a0 Z = true) (w4 : (Cond.code y bytes maxL ret).before a0 Z = true)
    (hy : y.cls ≠ "java/lang/invoke/MethodHandle" ∧ y.cls ≠ "java/lang/invoke/VarHandle")
    (hM : MetFree l y (head1 [Cond.code y bytes maxL ret] rm) (fun a U => a = as' ∧ Z.Warmed39 U.vm ∧ U.heap = h) (fun _ _ _ _ _ => True) (fun _ U o U' => ∃ v L, o = .returned v ∧ Qc v U'.heap L ∧ FrameEnd U o U' L rm.cells rm.slots))
    (hf : rm.frames + 1 ≤ R.frames) (hl : W + (maxL + 11) + rm.locals ≤ R.locals) (eT : T.heap = h) {a : Addr} (E : Exa Z h a C) (hg : g.method = m) (hsize : g.locals.size = c.maxLocals) (ha : (Value.ref a :: argsL).toArray = as')
    (hlen : ∀ sig, parseMethodDescriptor y.desc = some sig → argsL.length = sig.parameters.length) (hstack : g.stack = argsL.reverse ++ .ref a :: rest) (hW : 2 * g.monitorRoom + (rest.map fun v => v.category).sum ≤ W) (hdg : decode c.code g.pc = .ok (.invokevirtual index, 3))
    (hc : cells + rm.cells ≤ R.cells) (hs : slots + rm.slots ≤ R.slots) :
    ∃ (v : Option Value) (T' : State) (L : List Loc), Stand p l e R s m args below meth c T' (locs ++ L) (cells + rm.cells) (slots + rm.slots) ∧ Qc v T'.heap L ∧ ∀ target, Steps p.tables e below (T'.setTop { g with pc := g.pc + 3, stack := v.toList ++ rest }) target → Steps p.tables e below (T.setTop g) target := by
  obtain ⟨c2, k2, i1, i2, -, i4, -⟩ := Cond.instantiable_spec (mvT hZ wi (args := args))
  simp only [Bool.or_eq_false_iff] at i4
  have hpriv := Cond.privateMethod_at (mvP hZ wp (args := args))
  have hsel := selects_self_of_private (args := args) i1 i2 i4.1 hpriv (mvT hZ w2) hy
  obtain ⟨cl, q1, q2⟩ := E.cell
  obtain ⟨v, _, ⟨T', L', k', n'⟩, -, X', ⟨L, hQ, l1, l2, l3⟩, st⟩ := X.privateBack hx hown (mvT hZ w1) (mvT hZ w2) hsel hpriv (mvT hZ w4) hy (backOf (W := W) hM hZ w4 w6 hf hl) (g := g) hg hsize (Steps.refl _) (a := a) (cell := cl) (by rw [eT]; exact q1) q2 (argsL := argsL) (rest := rest) hlen hstack hW hdg (fun _ _ => ⟨ha, eT, hc, hs⟩)
  dsimp only [Pt.U, Pt.locs, Pt.cells, Pt.slots] at X' l1 l2 l3 st hQ
  subst l1 l2 l3
  exact ⟨v, T', L, X', hQ, fun _ k => st.trans k⟩
theorem callFace (X : Stand p l e R s m args below meth c T locs cells slots) (hx : p.tables.exec = Jvm.exec) (hZ : Z.Warmed39 s.vm) (hown : s.vm.findClass own = some m.cls) {C : String} {count : Nat}
    (w1 : (Cond.methodLink own index y).before a0 Z = true) (w2 : (Cond.declares y).before a0 Z = true) (wf : (Cond.interfaceMethod y.cls y.cls y.name y.desc).before args s = true) (w3 : (Cond.selects C y z).before a0 Z = true) (w5 : (Cond.instanceMethod z).before a0 Z = true) (wu : (Cond.publicMethod z).before a0 Z = true) (wh : (Cond.unhidden C y.name y.desc).before a0 Z = true) (wk : (Cond.castable C y.cls).before a0 Z = true) (w6 : (Cond.initialized z.cls).before a0 Z = true) (w4 : (Cond.code z bytes maxL ret).before a0 Z = true)
    (hy : y.cls ≠ "java/lang/invoke/MethodHandle" ∧ y.cls ≠ "java/lang/invoke/VarHandle")
    (hM : MetFree l z (head1 [Cond.code z bytes maxL ret] rm) (fun a U => a = as' ∧ Z.Warmed39 U.vm ∧ U.heap = h) (fun _ _ _ _ _ => True) (fun _ U o U' => ∃ v L, o = .returned v ∧ Qc v U'.heap L ∧ FrameEnd U o U' L rm.cells rm.slots))
    (hf : rm.frames + 1 ≤ R.frames) (hl : W + (maxL + 11) + rm.locals ≤ R.locals) (eT : T.heap = h) {a : Addr} (E : Exa Z h a C) (hg : g.method = m) (hsize : g.locals.size = c.maxLocals) (ha : (Value.ref a :: argsL).toArray = as')
    (hlen : ∀ sig, parseMethodDescriptor y.desc = some sig → argsL.length = sig.parameters.length) (hstack : g.stack = argsL.reverse ++ .ref a :: rest) (hW : 2 * g.monitorRoom + (rest.map fun v => v.category).sum ≤ W) (hdg : decode c.code g.pc = .ok (.invokeinterface index count, 5))
    (hc : cells + rm.cells ≤ R.cells) (hs : slots + rm.slots ≤ R.slots) :
    ∃ (v : Option Value) (T' : State) (L : List Loc), Stand p l e R s m args below meth c T' (locs ++ L) (cells + rm.cells) (slots + rm.slots) ∧ Qc v T'.heap L ∧ ∀ target, Steps p.tables e below (T'.setTop { g with pc := g.pc + 5, stack := v.toList ++ rest }) target → Steps p.tables e below (T.setTop g) target := by
  obtain ⟨cq, kq, q1, q2, q3⟩ := isOf hZ eT E
  obtain ⟨v, _, ⟨T', L', k', n'⟩, -, X', ⟨L, hQ, l1, l2, l3⟩, st⟩ := X.interfaceBack hx hown (mvT hZ w1) (mvT hZ w2) wf (mvT hZ w3) (mvT hZ w5) (mvT hZ wu) (mvT hZ wh) (mvT hZ wk) hy (backOf (W := W) hM hZ w4 w6 hf hl) q1 q2 q3 (g := g) hg hsize (Steps.refl _) (argsL := argsL) (rest := rest) hlen hstack hW hdg (fun _ _ => ⟨ha, eT, hc, hs⟩)
  dsimp only [Pt.U, Pt.locs, Pt.cells, Pt.slots] at X' l1 l2 l3 st hQ
  subst l1 l2 l3
  exact ⟨v, T', L, X', hQ, fun _ k => st.trans k⟩
end Call
/-- an object of C is none of K (K a class that can be made) -/
theorem NSroot {O K : String} {kk : Nat} (w : (Cond.noSuperclass O).before a0 Z = true) (wk : (Cond.instantiable K kk).before a0 Z = true) (hn : O ≠ K) : NS Z O K := by
  obtain ⟨c, k, h1, h2, h3, -, -⟩ := Cond.noSuperclass_spec w
  obtain ⟨t, kt, g1, -⟩ := Cond.instantiable_spec wk
  have ne := ids_ne h1 g1 hn
  refine ⟨c, t, h1, g1, fun fuel => ?_⟩
  cases fuel with
  | zero => rfl
  | succ f => simp [Vm.isSubclassAux, ne, h2, h3]
theorem NSno {C S K : String} {kk : Nat} (w : (Cond.superclass C S).before a0 Z = true) (wk : (Cond.instantiable K kk).before a0 Z = true) (n : NS Z C K) (hn : C ≠ K) : ∃ c t, Z.vm.findClass C = some c ∧ Z.vm.findClass K = some t ∧ Z.vm.assignable c t = false := by
  obtain ⟨c, t, h0, g0, n3⟩ := n
  obtain ⟨p, k, kp, h1, h2, h3, h4, h5, -, h7⟩ := Cond.superclass_spec h0 w
  obtain ⟨t', k', g1, g2, g5, g7, -⟩ := Cond.instantiable_spec wk
  cases g0.symm.trans g1
  simp only [Bool.or_eq_false_iff] at g7
  have ne := ids_ne h0 g0 hn
  refine ⟨c, t, h0, g0, ?_⟩
  show Z.vm.assignableAux (255 + 1) c t = false
  simp [Vm.assignableAux, ne, h2, g2, h5, g5, g7.1, Vm.isSubclass, n3]
end Own
end Jvm.OwnKit
namespace Jvm.Pilot.@@N@@
open Jvm Jvm.ClassFile Sem Op Lib Jvm.Free Jvm.Stand Jvm.LawKit Jvm.RoadKit Bundle Jvm.OwnKit Jvm.Pilot.@@N@@.Jvm.D

abbrev own_in (x : Int64) : Prop := -2147483647 ≤ x.toInt ∧ x.toInt ≤ 2147483647
theorem own_ck (x : Int64) (f r : Int32) (qf : f = (if ((x.toInt32).toInt64) = x then (1 : Int32) else (0 : Int32))) (qr : r = (if f = (0 : Int32) then (0 : Int32) else (if (x.toInt32) = (-2147483648 : Int32) then (0 : Int32) else (1 : Int32)))) :
    (if own_in x then (1 : Int32) else 0) = r ∧ (¬ x = (-9223372036854775808 : Int64) → (if own_in (-x) then (1 : Int32) else 0) = r) := by
  have a1 := c_l2i x
  have a2 := c_i2l x.toInt32
  have a3 := rng32 x.toInt32
  have a4 := rng64 x
  have a5 := c_lneg x
  have a6 := rng64 (-x)
  have n1 : ∀ h : ¬ x = (-9223372036854775808 : Int64), ¬ x.toInt = -9223372036854775808 := fun h q => h (Int64.toInt_inj.mp q)
  by_cases b : x.toInt32.toInt64 = x
  · rw [if_pos b] at qf
    have b' : x.toInt32.toInt64.toInt = x.toInt := by rw [b]
    subst qf
    rw [if_neg (by decide)] at qr
    by_cases d : x.toInt32 = -2147483648
    · rw [if_pos d] at qr; subst qr
      have d' : x.toInt32.toInt = -2147483648 := by rw [d]; rfl
      refine ⟨?_, fun h => ?_⟩
      · rw [if_neg (by omega)]
      · have := n1 h; rw [if_neg (by omega)]
    · rw [if_neg d] at qr; subst qr
      have d' : ¬ x.toInt32.toInt = -2147483648 := fun q => d (Int32.toInt_inj.mp q)
      refine ⟨?_, fun h => ?_⟩
      · rw [if_pos (by omega)]
      · have := n1 h; rw [if_pos (by omega)]
  · rw [if_neg b] at qf
    have b' : ¬ x.toInt32.toInt64.toInt = x.toInt := fun q => b (Int64.toInt_inj.mp q)
    subst qf
    rw [if_pos (by decide)] at qr
    subst qr
    refine ⟨?_, fun h => ?_⟩
    · rw [if_neg (by omega)]
    · have := n1 h; rw [if_neg (by omega)]
abbrev fL0 (y0 : Int64) (y1 : Int32) (y2 : Int32) : Array Slot := #[.val (.long y0), .second, .val (.int y1), .val (.int y2), .unset, .unset, .unset, .unset, .unset]
abbrev fL1 (y0 : Int64) (y1 : Int32) (y2 : Int32) (y3 : Int32) : Array Slot := #[.val (.long y0), .second, .val (.int y1), .val (.int y2), .val (.int y3), .unset, .unset, .unset, .unset]
abbrev fL2 (y0 : Int64) (y1 : Int32) (y2 : Int32) (y3 : Int32) (y4 : Int64) : Array Slot := #[.val (.long y0), .second, .val (.int y1), .val (.int y2), .val (.int y3), .val (.long y4), .second, .unset, .unset]
abbrev fL3 (y0 : Int64) (y1 : Int32) (y2 : Int32) (y3 : Int32) (y4 : Int64) (y5 : Int64) : Array Slot := #[.val (.long y0), .second, .val (.int y1), .val (.int y2), .val (.int y3), .val (.long y4), .second, .val (.long y5), .second]
theorem d_prog_31_method_2_code_0 : decode prog_31_method_2_code 0 = .ok (.lload_n 0, 1) := by decide +kernel
theorem d_prog_31_method_2_code_1 : decode prog_31_method_2_code 1 = .ok (.ldc2_w 11, 3) := by decide +kernel
theorem d_prog_31_method_2_code_4 : decode prog_31_method_2_code 4 = .ok (.lcmp, 1) := by decide +kernel
theorem d_prog_31_method_2_code_5 : decode prog_31_method_2_code 5 = .ok (.ifCond .lt 15, 3) := by decide +kernel
theorem d_prog_31_method_2_code_20 : decode prog_31_method_2_code 20 = .ok (.iconst 0, 1) := by decide +kernel
theorem d_prog_31_method_2_code_21 : decode prog_31_method_2_code 21 = .ok (.ireturn, 1) := by decide +kernel
theorem d_prog_31_method_2_code_8 : decode prog_31_method_2_code 8 = .ok (.lload_n 0, 1) := by decide +kernel
theorem d_prog_31_method_2_code_9 : decode prog_31_method_2_code 9 = .ok (.ldc2_w 13, 3) := by decide +kernel
theorem d_prog_31_method_2_code_12 : decode prog_31_method_2_code 12 = .ok (.lcmp, 1) := by decide +kernel
theorem d_prog_31_method_2_code_13 : decode prog_31_method_2_code 13 = .ok (.ifCond .gt 7, 3) := by decide +kernel
theorem d_prog_31_method_2_code_16 : decode prog_31_method_2_code 16 = .ok (.iconst 1, 1) := by decide +kernel
theorem d_prog_31_method_2_code_17 : decode prog_31_method_2_code 17 = .ok (.goto 4, 3) := by decide +kernel
theorem pn_com_example_trailback_trailback_core_IntLimits : plainName "com/example/trailback/trailback/core/IntLimits" = true := by first | (simp [plainName, overriddenIn]; done) | decide +kernel
theorem ef_rm_con (m : MethodId) (y0 : Int64) : entryFrame m #[(.long y0)] 2 = mkF m 0 #[.val (.long y0), .second] [] := by first | (simp [entryFrame, mkF, argsToLocals, Value.category]; done) | rfl
def Q_rm_con (Z : State) (q0 : Int64) (h0 : Heap) (n0 : Nat) (v : Option Value) (h : Heap) (L : List Loc) : Prop := v = some (.int (if own_in q0 then (1 : Int32) else 0)) ∧ Fr n0 L ∧ h = h0
set_option maxRecDepth 65536 in
set_option maxHeartbeats 40000000 in
theorem rm_con (l : Launch) (Z : State) (a0 : Array Value) (hw : ∀ d ∈ tables_1, d.before a0 Z = true) (ws : List Jvm.Cond) (q0 : Int64) (h0 : Heap) (n0 : Nat) :
    MetFree l (⟨"com/example/trailback/trailback/core/IntLimits", "contains", "(J)Z"⟩ : MethodName) (head1 (Jvm.Cond.code (⟨"com/example/trailback/trailback/core/IntLimits", "contains", "(J)Z"⟩ : MethodName) prog_31_method_2_code 2 (some .boolean) :: ws) ({ frames := 0, cells := 0, slots := 0, locals := 0 } : Room)) (fun a U => a = #[(.long q0)] ∧ Z.Warmed39 U.vm ∧ U.heap = h0) (fun _ _ _ _ _ => True) (fun _ U o U' => ∃ v L, o = .returned v ∧ Q_rm_con Z q0 h0 n0 v U'.heap L ∧ FrameEnd U o U' L 0 0) := by
  refine MetFree.of_bodySF (plainFor_of_name pn_com_example_trailback_trailback_core_IntLimits) hisR ?_
  intro p e s m args below meth c s₁ Bd hml0 hP hK
  obtain ⟨rfl, hZ, hh⟩ := hP
  have hx := Bd.exec
  have hby := Bd.bytes
  have hlk := Bd.notSynchronized
  have hml : c.maxLocals = 2 := hml0
  have hown : s.vm.findClass "com/example/trailback/trailback/core/IntLimits" = some m.cls := findClass_of_methodNamed Bd.named
  have hnm := (name_of_methodNamed Bd.named Bd.method).1
  have X0 : Stand p l e ({ frames := 0, cells := 0, slots := 0, locals := 0 } : Room) s m #[(.long q0)] below meth c s₁ [] 0 0 := Stand.of_body Bd
  have e0 : s₁.heap = h0 := by rw [← hh, Bd.state]; rfl
  have N0 := Fr.nil n0
  show OwnEnd p e below s (Q_rm_con Z q0 h0 n0) 0 0 (s₁.setTop (entryFrame m #[(.long q0)] 2))
  refine go (fun t k => castTop (ef_rm_con m q0) k) ?_
  show OwnEnd _ _ _ _ _ _ _ (s₁.setTop (mkF m 0 #[.val (.long q0), .second] []))
  refine go (fun _ k => by refine XS.lloadN X0.here hx rfl (hb hby d_prog_31_method_2_code_0) rfl ?_; exact k) ?_
  show OwnEnd _ _ _ _ _ _ _ (s₁.setTop (mkF m 1 #[.val (.long q0), .second] [(.long q0)]))
  refine go (X0.ldc2Long hx hown (mvT hZ (hw _ (List.mem_of_getElem? (i := 9) rfl))) (g := (mkF m 1 #[.val (.long q0), .second] [(.long q0)])) rfl (hb hby d_prog_31_method_2_code_1)) ?_
  refine go (fun _ k => by refine XS.lcmp X0.here hx rfl (hb hby d_prog_31_method_2_code_4) rfl ?_; exact k) ?_
  show OwnEnd _ _ _ _ _ _ _ (s₁.setTop (mkF m 5 #[.val (.long q0), .second] [(.int (lcmpW q0 (-2147483647 : Int64)))]))
  by_cases hc5_1 : q0 < (-2147483647 : Int64)
  · refine go (fun _ k => by refine XS.ifYes X0.here hx rfl (pc0 := 5) (pc' := 20) rfl (hb hby d_prog_31_method_2_code_5) rfl ((if0 _ _).trans (tlt ((lw_lt _ _).mpr hc5_1)).1) (by decide) (by decide) ?_; exact k) ?_
    show OwnEnd _ _ _ _ _ _ _ (s₁.setTop (mkF m 20 #[.val (.long q0), .second] []))
    refine go (fun _ k => by refine XS.iconst X0.here hx rfl (hb hby d_prog_31_method_2_code_20) ?_; exact k) ?_
    show OwnEnd _ _ _ _ _ _ _ (s₁.setTop (mkF m 21 #[.val (.long q0), .second] [(.int (0 : Int32))]))
    refine endN X0 hx hlk (t := .boolean) (by simp) Bd.returns (hb hby d_prog_31_method_2_code_21) e0 (by decide) (by decide) ?_
    exact ⟨by rw [if_neg (by simp only [Int64.lt_iff_toInt_lt, ← Int64.toInt_inj, Int32.lt_iff_toInt_lt, ← Int32.toInt_inj, Int32.reduceToInt, Int64.reduceToInt] at *; omega)]; rfl, N0, rfl⟩
  · refine go (fun _ k => by refine XS.ifNo X0.here hx rfl (hb hby d_prog_31_method_2_code_5) rfl ((if0 _ _).trans (flt (fun q => hc5_1 ((lw_lt _ _).mp q))).1) ?_; exact k) ?_
    show OwnEnd _ _ _ _ _ _ _ (s₁.setTop (mkF m 8 #[.val (.long q0), .second] []))
    refine go (fun _ k => by refine XS.lloadN X0.here hx rfl (hb hby d_prog_31_method_2_code_8) rfl ?_; exact k) ?_
    show OwnEnd _ _ _ _ _ _ _ (s₁.setTop (mkF m 9 #[.val (.long q0), .second] [(.long q0)]))
    refine go (X0.ldc2Long hx hown (mvT hZ (hw _ (List.mem_of_getElem? (i := 10) rfl))) (g := (mkF m 9 #[.val (.long q0), .second] [(.long q0)])) rfl (hb hby d_prog_31_method_2_code_9)) ?_
    refine go (fun _ k => by refine XS.lcmp X0.here hx rfl (hb hby d_prog_31_method_2_code_12) rfl ?_; exact k) ?_
    show OwnEnd _ _ _ _ _ _ _ (s₁.setTop (mkF m 13 #[.val (.long q0), .second] [(.int (lcmpW q0 (2147483647 : Int64)))]))
    by_cases hc13_2 : (2147483647 : Int64) < q0
    · refine go (fun _ k => by refine XS.ifYes X0.here hx rfl (pc0 := 13) (pc' := 20) rfl (hb hby d_prog_31_method_2_code_13) rfl ((if0 _ _).trans (tlt ((lw_gt _ _).mpr hc13_2)).2.2.1) (by decide) (by decide) ?_; exact k) ?_
      show OwnEnd _ _ _ _ _ _ _ (s₁.setTop (mkF m 20 #[.val (.long q0), .second] []))
      refine go (fun _ k => by refine XS.iconst X0.here hx rfl (hb hby d_prog_31_method_2_code_20) ?_; exact k) ?_
      show OwnEnd _ _ _ _ _ _ _ (s₁.setTop (mkF m 21 #[.val (.long q0), .second] [(.int (0 : Int32))]))
      refine endN X0 hx hlk (t := .boolean) (by simp) Bd.returns (hb hby d_prog_31_method_2_code_21) e0 (by decide) (by decide) ?_
      exact ⟨by rw [if_neg (by simp only [Int64.lt_iff_toInt_lt, ← Int64.toInt_inj, Int32.lt_iff_toInt_lt, ← Int32.toInt_inj, Int32.reduceToInt, Int64.reduceToInt] at *; omega)]; rfl, N0, rfl⟩
    · refine go (fun _ k => by refine XS.ifNo X0.here hx rfl (hb hby d_prog_31_method_2_code_13) rfl ((if0 _ _).trans (flt (fun q => hc13_2 ((lw_gt _ _).mp q))).2.2.1) ?_; exact k) ?_
      show OwnEnd _ _ _ _ _ _ _ (s₁.setTop (mkF m 16 #[.val (.long q0), .second] []))
      refine go (fun _ k => by refine XS.iconst X0.here hx rfl (hb hby d_prog_31_method_2_code_16) ?_; exact k) ?_
      refine go (fun _ k => by refine XS.goto X0.here hx rfl (pc0 := 17) (pc' := 21) rfl (hb hby d_prog_31_method_2_code_17) (by decide) (by decide) ?_; exact k) ?_
      show OwnEnd _ _ _ _ _ _ _ (s₁.setTop (mkF m 21 #[.val (.long q0), .second] [(.int (1 : Int32))]))
      refine endN X0 hx hlk (t := .boolean) (by simp) Bd.returns (hb hby d_prog_31_method_2_code_21) e0 (by decide) (by decide) ?_
      exact ⟨by rw [if_pos (by simp only [Int64.lt_iff_toInt_lt, ← Int64.toInt_inj, Int32.lt_iff_toInt_lt, ← Int32.toInt_inj, Int32.reduceToInt, Int64.reduceToInt] at *; omega)]; rfl, N0, rfl⟩
theorem d_method_3_code_0 : decode method_3_code 0 = .ok (.lload_n 0, 1) := by decide +kernel
theorem d_method_3_code_1 : decode method_3_code 1 = .ok (.l2i, 1) := by decide +kernel
theorem d_method_3_code_2 : decode method_3_code 2 = .ok (.i2l, 1) := by decide +kernel
theorem d_method_3_code_3 : decode method_3_code 3 = .ok (.lload_n 0, 1) := by decide +kernel
theorem d_method_3_code_4 : decode method_3_code 4 = .ok (.lcmp, 1) := by decide +kernel
theorem d_method_3_code_5 : decode method_3_code 5 = .ok (.ifCond .ne 7, 3) := by decide +kernel
theorem d_method_3_code_8 : decode method_3_code 8 = .ok (.iconst 1, 1) := by decide +kernel
theorem d_method_3_code_9 : decode method_3_code 9 = .ok (.goto 4, 3) := by decide +kernel
theorem d_method_3_code_12 : decode method_3_code 12 = .ok (.iconst 0, 1) := by decide +kernel
theorem d_method_3_code_13 : decode method_3_code 13 = .ok (.istore_n 2, 1) := by decide +kernel
theorem d_method_3_code_14 : decode method_3_code 14 = .ok (.iload_n 2, 1) := by decide +kernel
theorem d_method_3_code_15 : decode method_3_code 15 = .ok (.ifCond .eq 14, 3) := by decide +kernel
theorem d_method_3_code_29 : decode method_3_code 29 = .ok (.iconst 0, 1) := by decide +kernel
theorem d_method_3_code_18 : decode method_3_code 18 = .ok (.lload_n 0, 1) := by decide +kernel
theorem d_method_3_code_19 : decode method_3_code 19 = .ok (.l2i, 1) := by decide +kernel
theorem d_method_3_code_20 : decode method_3_code 20 = .ok (.ldc 19, 2) := by decide +kernel
theorem d_method_3_code_22 : decode method_3_code 22 = .ok (.if_icmp .eq 7, 3) := by decide +kernel
theorem d_method_3_code_25 : decode method_3_code 25 = .ok (.iconst 1, 1) := by decide +kernel
theorem d_method_3_code_26 : decode method_3_code 26 = .ok (.goto 4, 3) := by decide +kernel
theorem d_method_3_code_30 : decode method_3_code 30 = .ok (.istore_n 3, 1) := by decide +kernel
theorem d_method_3_code_31 : decode method_3_code 31 = .ok (.lload_n 0, 1) := by decide +kernel
theorem d_method_3_code_32 : decode method_3_code 32 = .ok (.invokestatic 20, 3) := by decide +kernel
theorem pd__J_Z : parseMethodDescriptor "(J)Z" = some ⟨[.long], some .boolean⟩ := by decide +kernel
theorem d_method_3_code_35 : decode method_3_code 35 = .ok (.iload_n 3, 1) := by decide +kernel
theorem d_method_3_code_36 : decode method_3_code 36 = .ok (.if_icmp .eq 5, 3) := by decide +kernel
theorem d_method_3_code_41 : decode method_3_code 41 = .ok (.lload_n 0, 1) := by decide +kernel
theorem d_method_3_code_42 : decode method_3_code 42 = .ok (.ldc2_w 27, 3) := by decide +kernel
theorem d_method_3_code_45 : decode method_3_code 45 = .ok (.lcmp, 1) := by decide +kernel
theorem d_method_3_code_46 : decode method_3_code 46 = .ok (.ifCond .eq 14, 3) := by decide +kernel
theorem d_method_3_code_60 : decode method_3_code 60 = .ok (.iconst 1, 1) := by decide +kernel
theorem d_method_3_code_61 : decode method_3_code 61 = .ok (.ireturn, 1) := by decide +kernel
theorem d_method_3_code_49 : decode method_3_code 49 = .ok (.lload_n 0, 1) := by decide +kernel
theorem d_method_3_code_50 : decode method_3_code 50 = .ok (.lneg, 1) := by decide +kernel
theorem d_method_3_code_51 : decode method_3_code 51 = .ok (.invokestatic 20, 3) := by decide +kernel
theorem d_method_3_code_54 : decode method_3_code 54 = .ok (.iload_n 3, 1) := by decide +kernel
theorem d_method_3_code_55 : decode method_3_code 55 = .ok (.if_icmp .eq 5, 3) := by decide +kernel
theorem d_method_3_code_58 : decode method_3_code 58 = .ok (.iconst 0, 1) := by decide +kernel
theorem d_method_3_code_59 : decode method_3_code 59 = .ok (.ireturn, 1) := by decide +kernel
theorem d_method_3_code_39 : decode method_3_code 39 = .ok (.iconst 0, 1) := by decide +kernel
theorem d_method_3_code_40 : decode method_3_code 40 = .ok (.ireturn, 1) := by decide +kernel
theorem pn_com_example_trailback_trailback_core_IntLimitsContainsPinLaw : plainName "com/example/trailback/trailback/core/IntLimitsContainsPinLaw" = true := by first | (simp [plainName, overriddenIn]; done) | decide +kernel
theorem ef_rm_chk (m : MethodId) (y0 : Int64) : entryFrame m #[(.long y0)] 4 = mkF m 0 #[.val (.long y0), .second, .unset, .unset] [] := by first | (simp [entryFrame, mkF, argsToLocals, Value.category]; done) | rfl
def Q_rm_chk (Z : State) (q0 : Int64) (h0 : Heap) (n0 : Nat) (v : Option Value) (h : Heap) (L : List Loc) : Prop := v = some (.int 1) ∧ Fr n0 L ∧ h = h0
set_option maxRecDepth 65536 in
set_option maxHeartbeats 40000000 in
theorem rm_chk (l : Launch) (Z : State) (a0 : Array Value) (hw : ∀ d ∈ tables_1, d.before a0 Z = true) (ws : List Jvm.Cond) (q0 : Int64) (h0 : Heap) (n0 : Nat) :
    MetFree l (⟨"com/example/trailback/trailback/core/IntLimitsContainsPinLaw", "check", "(J)Z"⟩ : MethodName) (head1 (Jvm.Cond.code (⟨"com/example/trailback/trailback/core/IntLimitsContainsPinLaw", "check", "(J)Z"⟩ : MethodName) method_3_code 4 (some .boolean) :: ws) ({ frames := 1, cells := 0, slots := 0, locals := 13 } : Room)) (fun a U => a = #[(.long q0)] ∧ Z.Warmed39 U.vm ∧ U.heap = h0) (fun _ _ _ _ _ => True) (fun _ U o U' => ∃ v L, o = .returned v ∧ Q_rm_chk Z q0 h0 n0 v U'.heap L ∧ FrameEnd U o U' L 0 0) := by
  refine MetFree.of_bodySF (plainFor_of_name pn_com_example_trailback_trailback_core_IntLimitsContainsPinLaw) hisR ?_
  intro p e s m args below meth c s₁ Bd hml0 hP hK
  obtain ⟨rfl, hZ, hh⟩ := hP
  have hx := Bd.exec
  have hby := Bd.bytes
  have hlk := Bd.notSynchronized
  have hml : c.maxLocals = 4 := hml0
  have hown : s.vm.findClass "com/example/trailback/trailback/core/IntLimitsContainsPinLaw" = some m.cls := findClass_of_methodNamed Bd.named
  have hnm := (name_of_methodNamed Bd.named Bd.method).1
  have X0 : Stand p l e ({ frames := 1, cells := 0, slots := 0, locals := 13 } : Room) s m #[(.long q0)] below meth c s₁ [] 0 0 := Stand.of_body Bd
  have e0 : s₁.heap = h0 := by rw [← hh, Bd.state]; rfl
  have N0 := Fr.nil n0
  show OwnEnd p e below s (Q_rm_chk Z q0 h0 n0) 0 0 (s₁.setTop (entryFrame m #[(.long q0)] 4))
  refine go (fun t k => castTop (ef_rm_chk m q0) k) ?_
  show OwnEnd _ _ _ _ _ _ _ (s₁.setTop (mkF m 0 #[.val (.long q0), .second, .unset, .unset] []))
  refine go (fun _ k => by refine XS.lloadN X0.here hx rfl (hb hby d_method_3_code_0) rfl ?_; exact k) ?_
  refine go (fun _ k => by refine XS.l2i X0.here hx rfl (hb hby d_method_3_code_1) rfl ?_; exact k) ?_
  refine go (fun _ k => by refine XS.i2l X0.here hx rfl (hb hby d_method_3_code_2) rfl ?_; exact k) ?_
  refine go (fun _ k => by refine XS.lloadN X0.here hx rfl (hb hby d_method_3_code_3) rfl ?_; exact k) ?_
  show OwnEnd _ _ _ _ _ _ _ (s₁.setTop (mkF m 4 #[.val (.long q0), .second, .unset, .unset] [(.long q0), (.long ((q0.toInt32).toInt64))]))
  refine go (fun _ k => by refine XS.lcmp X0.here hx rfl (hb hby d_method_3_code_4) rfl ?_; exact k) ?_
  show OwnEnd _ _ _ _ _ _ _ (s₁.setTop (mkF m 5 #[.val (.long q0), .second, .unset, .unset] [(.int (lcmpW ((q0.toInt32).toInt64) q0))]))
  have J2 : ∀ (x2_s0 : Int32) (qx2_s0 : x2_s0 = (if ((q0.toInt32).toInt64) = q0 then (1 : Int32) else (0 : Int32))), OwnEnd p e below s (Q_rm_chk Z q0 h0 n0) 0 0 (s₁.setTop (mkF m 13 #[.val (.long q0), .second, .unset, .unset] [(.int x2_s0)])) := by
    intro x2_s0 qx2_s0
    show OwnEnd _ _ _ _ _ _ _ (s₁.setTop (mkF m 13 #[.val (.long q0), .second, .unset, .unset] [(.int x2_s0)]))
    refine go (fun _ k => by refine XS.istoreN X0.here hx rfl (hb hby d_method_3_code_13) rfl (l' := #[.val (.long q0), .second, .val (.int x2_s0), .unset]) rfl ?_; exact k) ?_
    refine go (fun _ k => by refine XS.iloadN X0.here hx rfl (hb hby d_method_3_code_14) rfl ?_; exact k) ?_
    show OwnEnd _ _ _ _ _ _ _ (s₁.setTop (mkF m 15 #[.val (.long q0), .second, .val (.int x2_s0), .unset] [(.int x2_s0)]))
    have J5 : ∀ (x5_s0 : Int32) (qx5_s0 : x5_s0 = (if x2_s0 = (0 : Int32) then (0 : Int32) else (if (q0.toInt32) = (-2147483648 : Int32) then (0 : Int32) else (1 : Int32)))), OwnEnd p e below s (Q_rm_chk Z q0 h0 n0) 0 0 (s₁.setTop (mkF m 30 #[.val (.long q0), .second, .val (.int x2_s0), .unset] [(.int x5_s0)])) := by
      intro x5_s0 qx5_s0
      show OwnEnd _ _ _ _ _ _ _ (s₁.setTop (mkF m 30 #[.val (.long q0), .second, .val (.int x2_s0), .unset] [(.int x5_s0)]))
      refine go (fun _ k => by refine XS.istoreN X0.here hx rfl (hb hby d_method_3_code_30) rfl (l' := #[.val (.long q0), .second, .val (.int x2_s0), .val (.int x5_s0)]) rfl ?_; exact k) ?_
      refine go (fun _ k => by refine XS.lloadN X0.here hx rfl (hb hby d_method_3_code_31) rfl ?_; exact k) ?_
      show OwnEnd _ _ _ _ _ _ _ (s₁.setTop (mkF m 32 #[.val (.long q0), .second, .val (.int x2_s0), .val (.int x5_s0)] [(.long q0)]))
      obtain ⟨_, T6, L6, X6, hQ6, st6⟩ := callStat X0 hx hZ hown (hw _ (List.mem_of_getElem? (i := 5) rfl)) (hw _ (List.mem_of_getElem? (i := 6) rfl)) (hw _ (List.mem_of_getElem? (i := 7) rfl)) (hw _ (List.mem_of_getElem? (i := 8) rfl)) (by decide) (rm_con l Z a0 hw [] q0 h0 n0 ) (W := 0) (by decide) (by decide) e0 (g := (mkF m 32 #[.val (.long q0), .second, .val (.int x2_s0), .val (.int x5_s0)] [(.long q0)])) rfl (by rw [hml]; rfl) (argsL := [(.long q0)]) (rest := []) rfl (lenOf pd__J_Z rfl) rfl (by show 2 * 0 + _ ≤ _; exact Nat.le_of_eq rfl) (hb hby d_method_3_code_32) (by decide) (by decide)
      obtain ⟨rfl, Nq6, eq6⟩ := hQ6
      have N6 := Fr.app N0 Nq6
      refine go st6 ?_
      refine go (fun _ k => by refine XS.iloadN X6.here hx rfl (hb hby d_method_3_code_35) rfl ?_; exact k) ?_
      show OwnEnd _ _ _ _ _ _ _ (T6.setTop (mkF m 36 #[.val (.long q0), .second, .val (.int x2_s0), .val (.int x5_s0)] [(.int x5_s0), (.int (if own_in q0 then (1 : Int32) else 0))]))
      by_cases hc36_7 : (if own_in q0 then (1 : Int32) else 0) = x5_s0
      · refine go (fun _ k => by refine XS.icmpYes X6.here hx rfl (pc0 := 36) (pc' := 41) rfl (hb hby d_method_3_code_36) rfl (teq hc36_7).1 (by decide) (by decide) ?_; exact k) ?_
        show OwnEnd _ _ _ _ _ _ _ (T6.setTop (mkF m 41 #[.val (.long q0), .second, .val (.int x2_s0), .val (.int x5_s0)] []))
        refine go (fun _ k => by refine XS.lloadN X6.here hx rfl (hb hby d_method_3_code_41) rfl ?_; exact k) ?_
        show OwnEnd _ _ _ _ _ _ _ (T6.setTop (mkF m 42 #[.val (.long q0), .second, .val (.int x2_s0), .val (.int x5_s0)] [(.long q0)]))
        refine go (X6.ldc2Long hx hown (mvT hZ (hw _ (List.mem_of_getElem? (i := 11) rfl))) (g := (mkF m 42 #[.val (.long q0), .second, .val (.int x2_s0), .val (.int x5_s0)] [(.long q0)])) rfl (hb hby d_method_3_code_42)) ?_
        refine go (fun _ k => by refine XS.lcmp X6.here hx rfl (hb hby d_method_3_code_45) rfl ?_; exact k) ?_
        show OwnEnd _ _ _ _ _ _ _ (T6.setTop (mkF m 46 #[.val (.long q0), .second, .val (.int x2_s0), .val (.int x5_s0)] [(.int (lcmpW q0 (-9223372036854775808 : Int64)))]))
        by_cases hc46_8 : q0 = (-9223372036854775808 : Int64)
        · refine go (fun _ k => by refine XS.ifYes X6.here hx rfl (pc0 := 46) (pc' := 60) rfl (hb hby d_method_3_code_46) rfl ((if0 _ _).trans (teq ((lw_eq _ _).mpr hc46_8)).1) (by decide) (by decide) ?_; exact k) ?_
          show OwnEnd _ _ _ _ _ _ _ (T6.setTop (mkF m 60 #[.val (.long q0), .second, .val (.int x2_s0), .val (.int x5_s0)] []))
          refine go (fun _ k => by refine XS.iconst X6.here hx rfl (hb hby d_method_3_code_60) ?_; exact k) ?_
          show OwnEnd _ _ _ _ _ _ _ (T6.setTop (mkF m 61 #[.val (.long q0), .second, .val (.int x2_s0), .val (.int x5_s0)] [(.int (1 : Int32))]))
          refine endN X6 hx hlk (t := .boolean) (by simp) Bd.returns (hb hby d_method_3_code_61) eq6 (by decide) (by decide) ?_
          exact ⟨rfl, N6, rfl⟩
        · refine go (fun _ k => by refine XS.ifNo X6.here hx rfl (hb hby d_method_3_code_46) rfl ((if0 _ _).trans (feq (fun q => hc46_8 ((lw_eq _ _).mp q))).1) ?_; exact k) ?_
          show OwnEnd _ _ _ _ _ _ _ (T6.setTop (mkF m 49 #[.val (.long q0), .second, .val (.int x2_s0), .val (.int x5_s0)] []))
          refine go (fun _ k => by refine XS.lloadN X6.here hx rfl (hb hby d_method_3_code_49) rfl ?_; exact k) ?_
          refine go (fun _ k => by refine XS.lneg X6.here hx rfl (hb hby d_method_3_code_50) rfl ?_; exact k) ?_
          show OwnEnd _ _ _ _ _ _ _ (T6.setTop (mkF m 51 #[.val (.long q0), .second, .val (.int x2_s0), .val (.int x5_s0)] [(.long (-q0))]))
          obtain ⟨_, T9, L9, X9, hQ9, st9⟩ := callStat X6 hx hZ hown (hw _ (List.mem_of_getElem? (i := 5) rfl)) (hw _ (List.mem_of_getElem? (i := 6) rfl)) (hw _ (List.mem_of_getElem? (i := 7) rfl)) (hw _ (List.mem_of_getElem? (i := 8) rfl)) (by decide) (rm_con l Z a0 hw [] (-q0) h0 n0 ) (W := 0) (by decide) (by decide) eq6 (g := (mkF m 51 #[.val (.long q0), .second, .val (.int x2_s0), .val (.int x5_s0)] [(.long (-q0))])) rfl (by rw [hml]; rfl) (argsL := [(.long (-q0))]) (rest := []) rfl (lenOf pd__J_Z rfl) rfl (by show 2 * 0 + _ ≤ _; exact Nat.le_of_eq rfl) (hb hby d_method_3_code_51) (by decide) (by decide)
          obtain ⟨rfl, Nq9, eq9⟩ := hQ9
          have N9 := Fr.app N6 Nq9
          refine go st9 ?_
          refine go (fun _ k => by refine XS.iloadN X9.here hx rfl (hb hby d_method_3_code_54) rfl ?_; exact k) ?_
          show OwnEnd _ _ _ _ _ _ _ (T9.setTop (mkF m 55 #[.val (.long q0), .second, .val (.int x2_s0), .val (.int x5_s0)] [(.int x5_s0), (.int (if own_in (-q0) then (1 : Int32) else 0))]))
          by_cases hc55_10 : (if own_in (-q0) then (1 : Int32) else 0) = x5_s0
          · refine go (fun _ k => by refine XS.icmpYes X9.here hx rfl (pc0 := 55) (pc' := 60) rfl (hb hby d_method_3_code_55) rfl (teq hc55_10).1 (by decide) (by decide) ?_; exact k) ?_
            show OwnEnd _ _ _ _ _ _ _ (T9.setTop (mkF m 60 #[.val (.long q0), .second, .val (.int x2_s0), .val (.int x5_s0)] []))
            refine go (fun _ k => by refine XS.iconst X9.here hx rfl (hb hby d_method_3_code_60) ?_; exact k) ?_
            show OwnEnd _ _ _ _ _ _ _ (T9.setTop (mkF m 61 #[.val (.long q0), .second, .val (.int x2_s0), .val (.int x5_s0)] [(.int (1 : Int32))]))
            refine endN X9 hx hlk (t := .boolean) (by simp) Bd.returns (hb hby d_method_3_code_61) eq9 (by decide) (by decide) ?_
            exact ⟨rfl, N9, rfl⟩
          · refine go (fun _ k => by refine XS.icmpNo X9.here hx rfl (hb hby d_method_3_code_55) rfl (feq hc55_10).1 ?_; exact k) ?_
            show OwnEnd _ _ _ _ _ _ _ (T9.setTop (mkF m 58 #[.val (.long q0), .second, .val (.int x2_s0), .val (.int x5_s0)] []))
            refine go (fun _ k => by refine XS.iconst X9.here hx rfl (hb hby d_method_3_code_58) ?_; exact k) ?_
            show OwnEnd _ _ _ _ _ _ _ (T9.setTop (mkF m 59 #[.val (.long q0), .second, .val (.int x2_s0), .val (.int x5_s0)] [(.int (0 : Int32))]))
            refine endN X9 hx hlk (t := .boolean) (by simp) Bd.returns (hb hby d_method_3_code_59) eq9 (by decide) (by decide) ?_
            exact absurd ((own_ck _ _ _ qx2_s0 qx5_s0).2 hc46_8) hc55_10
      · refine go (fun _ k => by refine XS.icmpNo X6.here hx rfl (hb hby d_method_3_code_36) rfl (feq hc36_7).1 ?_; exact k) ?_
        show OwnEnd _ _ _ _ _ _ _ (T6.setTop (mkF m 39 #[.val (.long q0), .second, .val (.int x2_s0), .val (.int x5_s0)] []))
        refine go (fun _ k => by refine XS.iconst X6.here hx rfl (hb hby d_method_3_code_39) ?_; exact k) ?_
        show OwnEnd _ _ _ _ _ _ _ (T6.setTop (mkF m 40 #[.val (.long q0), .second, .val (.int x2_s0), .val (.int x5_s0)] [(.int (0 : Int32))]))
        refine endN X6 hx hlk (t := .boolean) (by simp) Bd.returns (hb hby d_method_3_code_40) eq6 (by decide) (by decide) ?_
        exact absurd (own_ck _ _ _ qx2_s0 qx5_s0).1 hc36_7
    by_cases hc15_3 : x2_s0 = (0 : Int32)
    · refine go (fun _ k => by refine XS.ifYes X0.here hx rfl (pc0 := 15) (pc' := 29) rfl (hb hby d_method_3_code_15) rfl ((if0 _ _).trans (teq hc15_3).1) (by decide) (by decide) ?_; exact k) ?_
      show OwnEnd _ _ _ _ _ _ _ (s₁.setTop (mkF m 29 #[.val (.long q0), .second, .val (.int x2_s0), .unset] []))
      refine go (fun _ k => by refine XS.iconst X0.here hx rfl (hb hby d_method_3_code_29) ?_; exact k) ?_
      exact J5 (0 : Int32) (by rw [if_pos hc15_3])
    · refine go (fun _ k => by refine XS.ifNo X0.here hx rfl (hb hby d_method_3_code_15) rfl ((if0 _ _).trans (feq hc15_3).1) ?_; exact k) ?_
      show OwnEnd _ _ _ _ _ _ _ (s₁.setTop (mkF m 18 #[.val (.long q0), .second, .val (.int x2_s0), .unset] []))
      refine go (fun _ k => by refine XS.lloadN X0.here hx rfl (hb hby d_method_3_code_18) rfl ?_; exact k) ?_
      refine go (fun _ k => by refine XS.l2i X0.here hx rfl (hb hby d_method_3_code_19) rfl ?_; exact k) ?_
      show OwnEnd _ _ _ _ _ _ _ (s₁.setTop (mkF m 20 #[.val (.long q0), .second, .val (.int x2_s0), .unset] [(.int (q0.toInt32))]))
      refine go (X0.ldcInt hx hown (mvT hZ (hw _ (List.mem_of_getElem? (i := 4) rfl))) (g := (mkF m 20 #[.val (.long q0), .second, .val (.int x2_s0), .unset] [(.int (q0.toInt32))])) rfl (hb hby d_method_3_code_20)) ?_
      show OwnEnd _ _ _ _ _ _ _ (s₁.setTop (mkF m 22 #[.val (.long q0), .second, .val (.int x2_s0), .unset] [(.int (-2147483648 : Int32)), (.int (q0.toInt32))]))
      by_cases hc22_4 : (q0.toInt32) = (-2147483648 : Int32)
      · refine go (fun _ k => by refine XS.icmpYes X0.here hx rfl (pc0 := 22) (pc' := 29) rfl (hb hby d_method_3_code_22) rfl (teq hc22_4).1 (by decide) (by decide) ?_; exact k) ?_
        show OwnEnd _ _ _ _ _ _ _ (s₁.setTop (mkF m 29 #[.val (.long q0), .second, .val (.int x2_s0), .unset] []))
        refine go (fun _ k => by refine XS.iconst X0.here hx rfl (hb hby d_method_3_code_29) ?_; exact k) ?_
        exact J5 (0 : Int32) (by rw [if_neg hc15_3, if_pos hc22_4])
      · refine go (fun _ k => by refine XS.icmpNo X0.here hx rfl (hb hby d_method_3_code_22) rfl (feq hc22_4).1 ?_; exact k) ?_
        show OwnEnd _ _ _ _ _ _ _ (s₁.setTop (mkF m 25 #[.val (.long q0), .second, .val (.int x2_s0), .unset] []))
        refine go (fun _ k => by refine XS.iconst X0.here hx rfl (hb hby d_method_3_code_25) ?_; exact k) ?_
        refine go (fun _ k => by refine XS.goto X0.here hx rfl (pc0 := 26) (pc' := 30) rfl (hb hby d_method_3_code_26) (by decide) (by decide) ?_; exact k) ?_
        exact J5 (1 : Int32) (by rw [if_neg hc15_3, if_neg hc22_4])
  by_cases hc5_1 : ((q0.toInt32).toInt64) = q0
  · refine go (fun _ k => by refine XS.ifNo X0.here hx rfl (hb hby d_method_3_code_5) rfl ((if0 _ _).trans (teq ((lw_eq _ _).mpr hc5_1)).2) ?_; exact k) ?_
    show OwnEnd _ _ _ _ _ _ _ (s₁.setTop (mkF m 8 #[.val (.long q0), .second, .unset, .unset] []))
    refine go (fun _ k => by refine XS.iconst X0.here hx rfl (hb hby d_method_3_code_8) ?_; exact k) ?_
    refine go (fun _ k => by refine XS.goto X0.here hx rfl (pc0 := 9) (pc' := 13) rfl (hb hby d_method_3_code_9) (by decide) (by decide) ?_; exact k) ?_
    exact J2 (1 : Int32) (by rw [if_pos hc5_1])
  · refine go (fun _ k => by refine XS.ifYes X0.here hx rfl (pc0 := 5) (pc' := 12) rfl (hb hby d_method_3_code_5) rfl ((if0 _ _).trans (feq (fun q => hc5_1 ((lw_eq _ _).mp q))).2) (by decide) (by decide) ?_; exact k) ?_
    show OwnEnd _ _ _ _ _ _ _ (s₁.setTop (mkF m 12 #[.val (.long q0), .second, .unset, .unset] []))
    refine go (fun _ k => by refine XS.iconst X0.here hx rfl (hb hby d_method_3_code_12) ?_; exact k) ?_
    exact J2 (0 : Int32) (by rw [if_neg hc5_1])
theorem ef_rm_law (m : MethodId) (y0 : Int64) (y1 : Int32) (y2 : Int32) : entryFrame m #[(.long y0), (.int y1), (.int y2)] maxLocals = mkF m 0 #[.val (.long y0), .second, .val (.int y1), .val (.int y2), .unset, .unset, .unset, .unset, .unset] [] := by first | (simp [entryFrame, mkF, argsToLocals, Value.category, maxLocals]; done) | rfl
def Q_rm_law (Z : State) (q0 : Int64) (p1 : Int32) (p2 : Int32) (h0 : Heap) (n0 : Nat) (v : Option Value) (h : Heap) (L : List Loc) : Prop := v = some (.int 1) ∧ Fr n0 L
set_option maxRecDepth 65536 in
set_option maxHeartbeats 40000000 in
theorem rm_law (l : Launch) (Z : State) (a0 : Array Value) (hw : ∀ d ∈ tables_1, d.before a0 Z = true) (ws : List Jvm.Cond) (q0 : Int64) (p1 : Int32) (p2 : Int32) (h0 : Heap) (n0 : Nat) :
    MetFree l x (head1 (Jvm.Cond.code x code maxLocals ret :: ws) room_1) (fun a U => a = #[(.long q0), (.int p1), (.int p2)] ∧ Z.Warmed39 U.vm ∧ U.heap = h0) (fun _ _ _ _ _ => True) (fun _ U o U' => ∃ v L, o = .returned v ∧ Q_rm_law Z q0 p1 p2 h0 n0 v U'.heap L ∧ FrameEnd U o U' L 0 0) := by
  refine MetFree.of_bodySF (plainFor_of_name pn_com_example_trailback_trailback_core_IntLimitsContainsPinLaw) hisR ?_
  intro p e s m args below meth c s₁ Bd hml0 hP hK
  obtain ⟨rfl, hZ, hh⟩ := hP
  have hx := Bd.exec
  have hby := Bd.bytes
  have hlk := Bd.notSynchronized
  have hml : c.maxLocals = 9 := hml0
  have hown : s.vm.findClass "com/example/trailback/trailback/core/IntLimitsContainsPinLaw" = some m.cls := findClass_of_methodNamed Bd.named
  have hnm := (name_of_methodNamed Bd.named Bd.method).1
  have X0 : Stand p l e room_1 s m #[(.long q0), (.int p1), (.int p2)] below meth c s₁ [] 0 0 := Stand.of_body Bd
  have e0 : s₁.heap = h0 := by rw [← hh, Bd.state]; rfl
  have N0 := Fr.nil n0
  show OwnEnd p e below s (Q_rm_law Z q0 p1 p2 h0 n0) 0 0 (s₁.setTop (entryFrame m #[(.long q0), (.int p1), (.int p2)] maxLocals))
  refine go (fun t k => castTop (ef_rm_law m q0 p1 p2) k) ?_
  show OwnEnd _ _ _ _ _ _ _ (s₁.setTop (mkF m 0 (fL0 q0 p1 p2) []))
  refine go (fun _ k => by refine XS.iloadN X0.here hx rfl (hb hby at_0) rfl ?_; exact k) ?_
  refine go (fun _ k => by refine XS.iconst X0.here hx rfl (hb hby at_1) ?_; exact k) ?_
  refine go (fun _ k => by refine XS.iand X0.here hx rfl (hb hby at_2) rfl ?_; exact k) ?_
  refine go (fun _ k => by refine XS.istore X0.here hx rfl (hb hby at_3) rfl (l' := (fL1 q0 p1 p2 (p1 &&& (3 : Int32)))) rfl ?_; exact k) ?_
  show OwnEnd _ _ _ _ _ _ _ (s₁.setTop (mkF m 5 (fL1 q0 p1 p2 (p1 &&& (3 : Int32))) []))
  generalize qx1 : (p1 &&& (3 : Int32)) = x1
  show OwnEnd _ _ _ _ _ _ _ (s₁.setTop (mkF m 5 (fL1 q0 p1 p2 x1) []))
  refine go (fun _ k => by refine XS.iload X0.here hx rfl (hb hby at_5) rfl ?_; exact k) ?_
  show OwnEnd _ _ _ _ _ _ _ (s₁.setTop (mkF m 7 (fL1 q0 p1 p2 x1) [(.int x1)]))
  have J5 : ∀ (x5_5 : Int64) (qx5_5 : x5_5 = (if x1 = (0 : Int32) then (2147483647 : Int64) else (if x1 = (1 : Int32) then (-2147483647 : Int64) else (if x1 = (2 : Int32) then (0 : Int64) else q0)))), OwnEnd p e below s (Q_rm_law Z q0 p1 p2 h0 n0) 0 0 (s₁.setTop (mkF m 47 (fL2 q0 p1 p2 x1 x5_5) [])) := by
    intro x5_5 qx5_5
    show OwnEnd _ _ _ _ _ _ _ (s₁.setTop (mkF m 47 (fL2 q0 p1 p2 x1 x5_5) []))
    refine go (fun _ k => by refine XS.lload X0.here hx rfl (hb hby at_47) rfl ?_; exact k) ?_
    refine go (fun _ k => by refine XS.iloadN X0.here hx rfl (hb hby at_49) rfl ?_; exact k) ?_
    refine go (fun _ k => by refine XS.bipush X0.here hx rfl (hb hby at_50) ?_; exact k) ?_
    refine go (fun _ k => by refine XS.iand X0.here hx rfl (hb hby at_52) rfl ?_; exact k) ?_
    show OwnEnd _ _ _ _ _ _ _ (s₁.setTop (mkF m 53 (fL2 q0 p1 p2 x1 x5_5) [(.int (p2 &&& (7 : Int32))), (.long x5_5)]))
    refine go (fun _ k => by refine XS.iconst X0.here hx rfl (hb hby at_53) ?_; exact k) ?_
    refine go (fun _ k => by refine XS.isub X0.here hx rfl (hb hby at_54) rfl ?_; exact k) ?_
    refine go (fun _ k => by refine XS.i2l X0.here hx rfl (hb hby at_55) rfl ?_; exact k) ?_
    refine go (fun _ k => by refine XS.ladd X0.here hx rfl (hb hby at_56) rfl ?_; exact k) ?_
    show OwnEnd _ _ _ _ _ _ _ (s₁.setTop (mkF m 57 (fL2 q0 p1 p2 x1 x5_5) [(.long (x5_5 + (((p2 &&& (7 : Int32)) - (4 : Int32)).toInt64)))]))
    refine go (fun _ k => by refine XS.lstore X0.here hx rfl (hb hby at_57) rfl (l' := (fL3 q0 p1 p2 x1 x5_5 (x5_5 + (((p2 &&& (7 : Int32)) - (4 : Int32)).toInt64)))) rfl ?_; exact k) ?_
    show OwnEnd _ _ _ _ _ _ _ (s₁.setTop (mkF m 59 (fL3 q0 p1 p2 x1 x5_5 (x5_5 + (((p2 &&& (7 : Int32)) - (4 : Int32)).toInt64))) []))
    generalize qx6 : (x5_5 + (((p2 &&& (7 : Int32)) - (4 : Int32)).toInt64)) = x6
    refine go (fun _ k => by refine XS.lloadN X0.here hx rfl (hb hby at_59) rfl ?_; exact k) ?_
    show OwnEnd _ _ _ _ _ _ _ (s₁.setTop (mkF m 60 (fL3 q0 p1 p2 x1 x5_5 x6) [(.long q0)]))
    obtain ⟨_, T7, L7, X7, hQ7, st7⟩ := callStat X0 hx hZ hown (hw _ (List.mem_of_getElem? (i := 0) rfl)) (hw _ (List.mem_of_getElem? (i := 1) rfl)) (hw _ (List.mem_of_getElem? (i := 2) rfl)) (hw _ (List.mem_of_getElem? (i := 3) rfl)) (by decide) (rm_chk l Z a0 hw [] q0 h0 n0 ) (W := 0) (by decide) (by decide) e0 (g := (mkF m 60 (fL3 q0 p1 p2 x1 x5_5 x6) [(.long q0)])) rfl (by rw [hml]; rfl) (argsL := [(.long q0)]) (rest := []) rfl (lenOf pd__J_Z rfl) rfl (by show 2 * 0 + _ ≤ _; exact Nat.le_of_eq rfl) (hb hby at_60) (by decide) (by decide)
    obtain ⟨rfl, Nq7, eq7⟩ := hQ7
    have N7 := Fr.app N0 Nq7
    refine go st7 ?_
    show OwnEnd _ _ _ _ _ _ _ (T7.setTop (mkF m 63 (fL3 q0 p1 p2 x1 x5_5 x6) [(.int (1 : Int32))]))
    refine go (fun _ k => by refine XS.ifNo X7.here hx rfl (hb hby at_63) rfl ((if0 _ _).trans (feq (by decide)).1) ?_; exact k) ?_
    refine go (fun _ k => by refine XS.lload X7.here hx rfl (hb hby at_66) rfl ?_; exact k) ?_
    show OwnEnd _ _ _ _ _ _ _ (T7.setTop (mkF m 68 (fL3 q0 p1 p2 x1 x5_5 x6) [(.long x6)]))
    obtain ⟨_, T8, L8, X8, hQ8, st8⟩ := callStat X7 hx hZ hown (hw _ (List.mem_of_getElem? (i := 0) rfl)) (hw _ (List.mem_of_getElem? (i := 1) rfl)) (hw _ (List.mem_of_getElem? (i := 2) rfl)) (hw _ (List.mem_of_getElem? (i := 3) rfl)) (by decide) (rm_chk l Z a0 hw [] x6 h0 n0 ) (W := 0) (by decide) (by decide) eq7 (g := (mkF m 68 (fL3 q0 p1 p2 x1 x5_5 x6) [(.long x6)])) rfl (by rw [hml]; rfl) (argsL := [(.long x6)]) (rest := []) rfl (lenOf pd__J_Z rfl) rfl (by show 2 * 0 + _ ≤ _; exact Nat.le_of_eq rfl) (hb hby at_68) (by decide) (by decide)
    obtain ⟨rfl, Nq8, eq8⟩ := hQ8
    have N8 := Fr.app N7 Nq8
    refine go st8 ?_
    show OwnEnd _ _ _ _ _ _ _ (T8.setTop (mkF m 71 (fL3 q0 p1 p2 x1 x5_5 x6) [(.int (1 : Int32))]))
    refine go (fun _ k => by refine XS.ifNo X8.here hx rfl (hb hby at_71) rfl ((if0 _ _).trans (feq (by decide)).1) ?_; exact k) ?_
    refine go (fun _ k => by refine XS.iconst X8.here hx rfl (hb hby at_74) ?_; exact k) ?_
    refine go (fun _ k => by refine XS.goto X8.here hx rfl (pc0 := 75) (pc' := 79) rfl (hb hby at_75) (by decide) (by decide) ?_; exact k) ?_
    show OwnEnd _ _ _ _ _ _ _ (T8.setTop (mkF m 79 (fL3 q0 p1 p2 x1 x5_5 x6) [(.int (1 : Int32))]))
    refine endN X8 hx hlk (t := .boolean) (by simp) Bd.returns (hb hby at_79) eq8 (by decide) (by decide) ?_
    exact ⟨rfl, N8⟩
  by_cases hc7_2 : x1 = (0 : Int32)
  · refine go (fun _ k => by refine XS.ifNo X0.here hx rfl (hb hby at_7) rfl ((if0 _ _).trans (teq hc7_2).2) ?_; exact k) ?_
    show OwnEnd _ _ _ _ _ _ _ (s₁.setTop (mkF m 10 (fL1 q0 p1 p2 x1) []))
    refine go (X0.ldc2Long hx hown (mvT hZ (hw _ (List.mem_of_getElem? (i := 12) rfl))) (g := (mkF m 10 (fL1 q0 p1 p2 x1) [])) rfl (hb hby at_10)) ?_
    refine go (fun _ k => by refine XS.lstore X0.here hx rfl (hb hby at_13) rfl (l' := (fL2 q0 p1 p2 x1 (2147483647 : Int64))) rfl ?_; exact k) ?_
    refine go (fun _ k => by refine XS.goto X0.here hx rfl (pc0 := 15) (pc' := 47) rfl (hb hby at_15) (by decide) (by decide) ?_; exact k) ?_
    exact J5 (2147483647 : Int64) (by rw [if_pos hc7_2])
  · refine go (fun _ k => by refine XS.ifYes X0.here hx rfl (pc0 := 7) (pc' := 18) rfl (hb hby at_7) rfl ((if0 _ _).trans (feq hc7_2).2) (by decide) (by decide) ?_; exact k) ?_
    show OwnEnd _ _ _ _ _ _ _ (s₁.setTop (mkF m 18 (fL1 q0 p1 p2 x1) []))
    refine go (fun _ k => by refine XS.iload X0.here hx rfl (hb hby at_18) rfl ?_; exact k) ?_
    refine go (fun _ k => by refine XS.iconst X0.here hx rfl (hb hby at_20) ?_; exact k) ?_
    show OwnEnd _ _ _ _ _ _ _ (s₁.setTop (mkF m 21 (fL1 q0 p1 p2 x1) [(.int (1 : Int32)), (.int x1)]))
    by_cases hc21_3 : x1 = (1 : Int32)
    · refine go (fun _ k => by refine XS.icmpNo X0.here hx rfl (hb hby at_21) rfl (teq hc21_3).2 ?_; exact k) ?_
      show OwnEnd _ _ _ _ _ _ _ (s₁.setTop (mkF m 24 (fL1 q0 p1 p2 x1) []))
      refine go (X0.ldc2Long hx hown (mvT hZ (hw _ (List.mem_of_getElem? (i := 13) rfl))) (g := (mkF m 24 (fL1 q0 p1 p2 x1) [])) rfl (hb hby at_24)) ?_
      refine go (fun _ k => by refine XS.lstore X0.here hx rfl (hb hby at_27) rfl (l' := (fL2 q0 p1 p2 x1 (-2147483647 : Int64))) rfl ?_; exact k) ?_
      refine go (fun _ k => by refine XS.goto X0.here hx rfl (pc0 := 29) (pc' := 47) rfl (hb hby at_29) (by decide) (by decide) ?_; exact k) ?_
      exact J5 (-2147483647 : Int64) (by rw [if_neg hc7_2, if_pos hc21_3])
    · refine go (fun _ k => by refine XS.icmpYes X0.here hx rfl (pc0 := 21) (pc' := 32) rfl (hb hby at_21) rfl (feq hc21_3).2 (by decide) (by decide) ?_; exact k) ?_
      show OwnEnd _ _ _ _ _ _ _ (s₁.setTop (mkF m 32 (fL1 q0 p1 p2 x1) []))
      refine go (fun _ k => by refine XS.iload X0.here hx rfl (hb hby at_32) rfl ?_; exact k) ?_
      refine go (fun _ k => by refine XS.iconst X0.here hx rfl (hb hby at_34) ?_; exact k) ?_
      show OwnEnd _ _ _ _ _ _ _ (s₁.setTop (mkF m 35 (fL1 q0 p1 p2 x1) [(.int (2 : Int32)), (.int x1)]))
      by_cases hc35_4 : x1 = (2 : Int32)
      · refine go (fun _ k => by refine XS.icmpNo X0.here hx rfl (hb hby at_35) rfl (teq hc35_4).2 ?_; exact k) ?_
        show OwnEnd _ _ _ _ _ _ _ (s₁.setTop (mkF m 38 (fL1 q0 p1 p2 x1) []))
        refine go (fun _ k => by refine XS.lconst X0.here hx rfl (hb hby at_38) ?_; exact k) ?_
        refine go (fun _ k => by refine XS.lstore X0.here hx rfl (hb hby at_39) rfl (l' := (fL2 q0 p1 p2 x1 (0 : Int64))) rfl ?_; exact k) ?_
        refine go (fun _ k => by refine XS.goto X0.here hx rfl (pc0 := 41) (pc' := 47) rfl (hb hby at_41) (by decide) (by decide) ?_; exact k) ?_
        exact J5 (0 : Int64) (by rw [if_neg hc7_2, if_neg hc21_3, if_pos hc35_4])
      · refine go (fun _ k => by refine XS.icmpYes X0.here hx rfl (pc0 := 35) (pc' := 44) rfl (hb hby at_35) rfl (feq hc35_4).2 (by decide) (by decide) ?_; exact k) ?_
        show OwnEnd _ _ _ _ _ _ _ (s₁.setTop (mkF m 44 (fL1 q0 p1 p2 x1) []))
        refine go (fun _ k => by refine XS.lloadN X0.here hx rfl (hb hby at_44) rfl ?_; exact k) ?_
        refine go (fun _ k => by refine XS.lstore X0.here hx rfl (hb hby at_45) rfl (l' := (fL2 q0 p1 p2 x1 q0)) rfl ?_; exact k) ?_
        exact J5 q0 (by rw [if_neg hc7_2, if_neg hc21_3, if_neg hc35_4])
set_option maxRecDepth 65536 in
set_option maxHeartbeats 40000000 in
theorem comes_1 {Post : Tables → Env → Array Value → State → Outcome → State → Prop} (hpost : ∀ tb e args s v u, (limb_1_1.after args s (.returned v) u = true ∧ limb_1_2.after args s (.returned v) u = true ∧ True) → FrameEnd s (.returned v) u (Jvm.fieldLocs frame_1_writes args s ++ Jvm.arrayLocs frame_1_arrays args s ++ Jvm.staticLocs frame_1_statics s) 0 0 → Post tb e args s (.returned v) u) :
    ArmFor flags0 classFile x code maxLocals ret World_1 tables_1 room_1 Calls_1 rest_1 Pre_1 Post := by
  intro l hfl _ _ p e ha hc hk s m args below hf hA hF happ hP
  obtain ⟨hcalls, hrest, hpre⟩ := hP
  obtain ⟨-, -, -, hnamed, -, -, -, hat⟩ := (Spec.applies_iff hf).mp happ
  obtain ⟨hg, hn⟩ := and_e (Cond.before_iff.mp (show (Jvm.Cond.and given_1 narrow_1).before args s = true from hpre))
  obtain ⟨gv1, gv2⟩ := and_e hg
  obtain ⟨gv3, gv4⟩ := and_e gv2
  obtain ⟨gv5, gv6⟩ := and_e gv4
  obtain ⟨w0, w1, w2, rfl⟩ : ∃ w0 w1 w2 : Value, args = #[w0, w1, w2] := by
    have hs : args.size = 3 := by simpa [Cond.value, given_1] using gv1
    obtain ⟨L⟩ := args
    match L, hs with
    | [w0, w1, w2], _ => exact ⟨w0, w1, w2, rfl⟩
  have hw := fun d (hd : d ∈ tables_1) => atoms_spec (ws := Jvm.Cond.code x code maxLocals ret :: tables_1) hat d (List.mem_cons_of_mem _ hd)
  have hfit : Fit s := fun {y c} hc i hi => by
    obtain ⟨ha, rfl⟩ := Array.getElem?_eq_some_iff.mp hc
    have q := List.all_eq_true.mp ((Array.all_eq_true_iff_forall_mem.mp hF) _ (Array.getElem_mem ha)) i (List.mem_range.mpr hi)
    simpa [Array.getElem?_eq_getElem hi] using q
  obtain ⟨i0, ei0⟩ := isL_v gv3
  obtain rfl : w0 = (.long i0) := Option.some.inj ei0
  obtain ⟨i1, ei1⟩ := is_v gv5
  obtain rfl : w1 = (.int i1) := Option.some.inj ei1
  obtain ⟨i2, ei2⟩ := is_v gv6
  obtain rfl : w2 = (.int i2) := Option.some.inj ei2
  obtain ⟨n, o, h1, h2, h3, _, L, rfl, ⟨rfl, N⟩, hq⟩ := rm_law l s _ hw tables_1 i0 i1 i2  s.heap s.heap.size  p e ha hc hk s m _ below hf ((Spec.applies_iff_loose hf).mp happ).1 ⟨rfl, State.Warmed39.refl s, rfl⟩ trivial
  refine ⟨n, _, h1, h2, h3, hpost _ _ _ _ _ _ ⟨Cond.after_iff.mpr rfl, Cond.after_iff.mpr (eq_i res_at (Term.int_eval (1)) rfl), trivial⟩ ⟨hq.1, hq.2.1, (hq.2.2.sift fun y hy => Or.inr (N y hy)).mono (by decide) (by decide)⟩⟩
theorem main_1_1 : Claimed_1_1 := comes_1 fun _ _ _ _ _ _ h hF => ⟨h.1, hF⟩
theorem main_1_2 : Claimed_1_2 := comes_1 fun _ _ _ _ _ _ h hF => ⟨h.2.1, hF⟩
end Jvm.Pilot.@@N@@
namespace Jvm.Pilot.@@N@@
open Jvm Jvm.ClassFile Sem Op Lib Jvm.Free Jvm.Stand Jvm.Pilot.@@N@@.Jvm.D
/-! MADE BY PROGRAM (witnessworld.py) out of the Statement's table words and the real class files: 9 classes; the members and pool entries that the words name. The judged class is class 1, her method 1. -/
namespace start1
open Jvm.ClassFile
def u (s : String) : CpInfo := .utf8 (stringToUtf16 s)
/-- a pool by its gaps: so many unusable entries, then the entry; so many at the end -/
def gap : Nat → List CpInfo → List CpInfo
  | 0, r => r
  | n + 1, r => .unusable :: gap n r
def poolList (es : List (Nat × CpInfo)) (last : Nat) : List CpInfo := es.foldr (fun e r => gap e.1 (e.2 :: r)) (gap last [])
def pool (es : List (Nat × CpInfo)) (last : Nat) : Array CpInfo := ⟨poolList es last⟩
def fileOf (pool : Array CpInfo) (this : Nat) (attrs : Array Attribute := #[]) (ms : Array MethodInfo := #[]) (fl : Nat := 33) (sup : Nat := 0) (ifs : Array Nat := #[]) (fds : Array FieldInfo := #[]) : ClassFile where
  minorVersion := 0
  majorVersion := 65
  constantPool := pool
  accessFlags := fl
  thisClass := this
  superClass := sup
  interfaces := ifs
  fields := fds
  methods := ms
  attributes := attrs
def plain (name : String) (sup : Option ClassId) : Class where
  name := name
  kind := .ordinary
  loader := none
  accessFlags := 33
  super := sup
  interfaces := #[]
  cf := none
  fields := #[]
  methods := #[]
  instanceTypes := #[]
  staticTypes := #[]
  resolved := #[]
  callSites := []
  init := .initialized
  statics := none
  mirror := none

def pool0 : Array CpInfo := pool [(5, u "<init>"), (0, u "()V"), (1, .class_ 10), (1, u "java/lang/Object")] 113

def k0m0 : Method := { name := "<init>", desc := "()V", sig := { parameters := [], returnType := none }, accessFlags := 1, code := none }
/-- java/lang/Object -/
def k0 : Class := { plain "java/lang/Object" none with
  accessFlags := 33
  interfaces := #[]
  cf := some (fileOf pool0 8 #[] #[{ accessFlags := 1, nameIndex := 5, descriptorIndex := 6, attributes := #[] }] 33 0 #[] #[])
  fields := #[]
  methods := #[k0m0]
  instanceTypes := #[]
  staticTypes := #[]
  resolved := Array.replicate 124 none
  statics := none }

def pool1 : Array CpInfo := pool [(2, .class_ 4), (1, u "java/lang/Object"), (0, u "<init>"), (0, u "()V"), (0, .long 2147483647), (1, .long 18446744071562067969), (1, .methodref 12 13), (0, .class_ 14), (0, .nameAndType 15 16), (0, u "com/example/trailback/trailback/core/IntLimitsContainsPinLaw"), (0, u "check"), (0, u "(J)Z"), (2, .integer 2147483648), (0, .methodref 21 22), (0, .class_ 23), (0, .nameAndType 24 16), (0, u "com/example/trailback/trailback/core/IntLimits"), (0, u "contains"), (2, .long 9223372036854775808), (3, u "law"), (0, u "(JII)Z")] 3

def k1m0 : Method := { name := "<init>", desc := "()V", sig := { parameters := [], returnType := none }, accessFlags := 1, code := none }
def k1c1 : Code := { maxStack := 4, maxLocals := 9, code := code, exceptionTable := #[], attributes := #[] }
def k1m1 : Method := { name := "law", desc := "(JII)Z", sig := { parameters := [.long, .int, .int], returnType := some .boolean }, accessFlags := 9, code := some k1c1 }
def k1c2 : Code := { maxStack := 4, maxLocals := 4, code := method_3_code, exceptionTable := #[], attributes := #[] }
def k1m2 : Method := { name := "check", desc := "(J)Z", sig := { parameters := [.long], returnType := some .boolean }, accessFlags := 10, code := some k1c2 }
/-- com/example/trailback/trailback/core/IntLimitsContainsPinLaw -/
def k1 : Class := { plain "com/example/trailback/trailback/core/IntLimitsContainsPinLaw" (some 0) with
  accessFlags := 49
  interfaces := #[]
  cf := some (fileOf pool1 12 #[] #[{ accessFlags := 1, nameIndex := 5, descriptorIndex := 6, attributes := #[] }, { accessFlags := 9, nameIndex := 31, descriptorIndex := 32, attributes := #[] }, { accessFlags := 10, nameIndex := 15, descriptorIndex := 16, attributes := #[] }] 49 2 #[] #[])
  fields := #[]
  methods := #[k1m0, k1m1, k1m2]
  instanceTypes := #[]
  staticTypes := #[]
  resolved := Array.replicate 36 none
  statics := none }

def pool2 : Array CpInfo := pool [(4, .class_ 6), (1, u "java/lang/Object"), (0, u "<init>"), (0, u "()V"), (0, .class_ 10), (0, u "com/example/trailback/trailback/core/IntLimits"), (0, .long 18446744071562067969), (1, .long 2147483647), (3, u "MIN"), (0, u "I"), (2, u "MAX"), (3, u "contains"), (0, u "(J)Z")] 5

def k2m0 : Method := { name := "<init>", desc := "()V", sig := { parameters := [], returnType := none }, accessFlags := 2, code := none }
def k2c1 : Code := { maxStack := 4, maxLocals := 2, code := prog_31_method_2_code, exceptionTable := #[], attributes := #[] }
def k2m1 : Method := { name := "contains", desc := "(J)Z", sig := { parameters := [.long], returnType := some .boolean }, accessFlags := 9, code := some k2c1 }
/-- com/example/trailback/trailback/core/IntLimits -/
def k2 : Class := { plain "com/example/trailback/trailback/core/IntLimits" (some 0) with
  accessFlags := 49
  interfaces := #[]
  cf := some (fileOf pool2 9 #[] #[{ accessFlags := 2, nameIndex := 7, descriptorIndex := 8, attributes := #[] }, { accessFlags := 9, nameIndex := 25, descriptorIndex := 26, attributes := #[] }] 49 4 #[] #[{ accessFlags := 25, nameIndex := 17, descriptorIndex := 18, attributes := #[] }, { accessFlags := 25, nameIndex := 21, descriptorIndex := 18, attributes := #[] }])
  fields := #[{ name := "MIN", type := .int, accessFlags := 25, slot := 0, constantValue := 0 }, { name := "MAX", type := .int, accessFlags := 25, slot := 1, constantValue := 0 }]
  methods := #[k2m0, k2m1]
  instanceTypes := #[]
  staticTypes := #[.int, .int]
  resolved := Array.replicate 32 none
  statics := none }

def pool3 : Array CpInfo := pool [(1, u "java/lang/Cloneable"), (0, .class_ 1), (0, u "java/lang/Object"), (0, .class_ 3)] 3

/-- java/lang/Cloneable -/
def k3 : Class := { plain "java/lang/Cloneable" (some 0) with
  accessFlags := 1537
  interfaces := #[]
  cf := some (fileOf pool3 2 #[] #[] 1537 4 #[] #[])
  fields := #[]
  methods := #[]
  instanceTypes := #[]
  staticTypes := #[]
  resolved := Array.replicate 8 none
  statics := none }

def pool4 : Array CpInfo := pool [(1, u "java/io/Serializable"), (0, .class_ 1), (0, u "java/lang/Object"), (0, .class_ 3)] 3

/-- java/io/Serializable -/
def k4 : Class := { plain "java/io/Serializable" (some 0) with
  accessFlags := 1537
  interfaces := #[]
  cf := some (fileOf pool4 2 #[] #[] 1537 4 #[] #[])
  fields := #[]
  methods := #[]
  instanceTypes := #[]
  staticTypes := #[]
  resolved := Array.replicate 8 none
  statics := none }

/-- the primitive byte -/
def k5 : Class := { plain "byte" none with kind := .primitive 'B', accessFlags := 0x411 }
/-- [B -/
def k6 : Class := { plain "[B" (some 0) with kind := .array 5 .byte, interfaces := #[3, 4], accessFlags := 1041 }

/-- the primitive int -/
def k7 : Class := { plain "int" none with kind := .primitive 'I', accessFlags := 0x411 }
/-- [I -/
def k8 : Class := { plain "[I" (some 0) with kind := .array 7 .int, interfaces := #[3, 4], accessFlags := 1041 }

def heap : Heap := #[]
def classes : Array Class := #[k0, k1, k2, k3, k4, k5, k6, k7, k8]
def interned : List (Array UInt16 × Addr) := []
def slotsUsed : Nat := 0
def theMethod : MethodId := ⟨1, 1⟩
def args0 : Array Value := #[.long 5, .int 3, .int 2]
def aboutOver (below : List Frame) : State where
  vm := { classes := classes, interned := interned.toArray }
  heap := heap
  slotsUsed := slotsUsed
  threads := #[{ frames := .invoking theMethod args0 :: below }]
def below0 : List Frame := [.native { method := ⟨0, 0⟩, args := #[] }]
def about1 : State := aboutOver below0
def p0 : Program := .bare "" "" ""
def e0 : Env := launch0.env 0 0 0
theorem w_frames : about1.frames = Frame.invoking theMethod args0 :: below0 := rfl
set_option maxRecDepth 65536 in
theorem w_args : argsFit about1.vm theMethod args0 = true := by decide +kernel
set_option maxRecDepth 65536 in
theorem w_heap : heapFits about1 = true := by decide +kernel
set_option maxRecDepth 65536 in
theorem w_runnable : about1.curStatus? = some .runnable := by decide +kernel
set_option maxRecDepth 65536 in
theorem w_alone : about1.alone = true := by decide +kernel
set_option maxRecDepth 65536 in
theorem w_named : about1.methodNamed? x = some theMethod := by decide +kernel
set_option maxRecDepth 65536 in
theorem w_hears : about1.hears theMethod below0 = true := by decide +kernel
set_option maxRecDepth 65536 in
theorem w_ripe : about1.ripe theMethod args0 below0 = true := by decide +kernel
theorem w_running : about1.status = .running := rfl
set_option maxRecDepth 65536 in
theorem w_room : about1.hasRoom e0.platform room_1 = true :=
  launch0.hasRoom_least _ room_1 (by decide +kernel) (by decide +kernel) (by decide +kernel) (by decide +kernel) (by decide +kernel) (by decide +kernel)
theorem allAtoms_all (ts : List Jvm.Cond) (a : Array Jvm.Value) (st : Jvm.State) : (allAtoms ts).before a st = ts.all (fun c => c.before a st) := by
  induction ts with
  | nil => rfl
  | cons c t ih =>
    show (Jvm.Cond.and c (allAtoms t)).before a st = _
    rw [Jvm.Cond.before_and, ih, List.all_cons]
def words1 : List Jvm.Cond := Jvm.Cond.code x code maxLocals ret :: tables_1
/-- a 'code' word, met by the world's own term for the bytes: nothing is compared byte by byte -/
theorem code_word {y : MethodName} {bytes : ByteArray} {mx : Nat} {rt : Option FieldType} {a : Array Value} {s : State} {m : MethodId} {meth : Method} {c : Code} (h1 : s.methodNamed? y = some m) (h2 : s.vm.method? m = some meth) (h3 : meth.code = some c) (h4 : c.code = bytes)
    (h5 : (c.maxLocals == mx && c.exceptionTable.isEmpty && decide (c.maxStack ≤ mostOperands) && decide (meth.sig.returnType = rt) && !meth.locks && decide (parseMethodDescriptor y.desc = some meth.sig)) = true) : (Jvm.Cond.code y bytes mx rt).before a s = true := by
  simp only [Bool.and_eq_true, beq_iff_eq, Bool.not_eq_true', decide_eq_true_eq] at h5
  obtain ⟨⟨⟨⟨⟨g1, g2⟩, g3⟩, g4⟩, g5⟩, g6⟩ := h5
  simp [Cond.before, Cond.holds, Cond.value, h1, h2, h3, h4, g1, g2, g3, g4, g5, g6]
def isCode : Jvm.Cond → Bool
  | .code _ _ _ _ => true
  | _ => false
theorem all_split {L : List Jvm.Cond} {P : Jvm.Cond → Bool} (h1 : L.all (fun c => isCode c || P c) = true) (h2 : ∀ c ∈ L.filter isCode, P c = true) : L.all P = true := by
  refine List.all_eq_true.mpr fun c hc => ?_
  have h := List.all_eq_true.mp h1 c hc
  rcases Bool.eq_false_or_eq_true (isCode c) with hi | hi
  · exact h2 c (List.mem_filter.mpr ⟨hc, hi⟩)
  · simpa [hi] using h
set_option maxRecDepth 65536 in
theorem w_c0 : (Jvm.Cond.code x code maxLocals ret).before args0 about1 = true := code_word (m := ⟨1, 1⟩) (meth := k1m1) (c := k1c1) (by decide +kernel) rfl rfl rfl (by decide +kernel)
set_option maxRecDepth 65536 in
theorem w_c1 : (Jvm.Cond.code ({ cls := "com/example/trailback/trailback/core/IntLimitsContainsPinLaw", name := "check", desc := "(J)Z" } : Jvm.MethodName) method_3_code (4 : Nat) (Option.some Jvm.ClassFile.FieldType.boolean)).before args0 about1 = true := code_word (m := ⟨1, 2⟩) (meth := k1m2) (c := k1c2) (by decide +kernel) rfl rfl rfl (by decide +kernel)
set_option maxRecDepth 65536 in
theorem w_c2 : (Jvm.Cond.code ({ cls := "com/example/trailback/trailback/core/IntLimits", name := "contains", desc := "(J)Z" } : Jvm.MethodName) prog_31_method_2_code (2 : Nat) (Option.some Jvm.ClassFile.FieldType.boolean)).before args0 about1 = true := code_word (m := ⟨2, 1⟩) (meth := k2m1) (c := k2c1) (by decide +kernel) rfl rfl rfl (by decide +kernel)
def codes1 : List Jvm.Cond := [Jvm.Cond.code x code maxLocals ret, Jvm.Cond.code ({ cls := "com/example/trailback/trailback/core/IntLimitsContainsPinLaw", name := "check", desc := "(J)Z" } : Jvm.MethodName) method_3_code (4 : Nat) (Option.some Jvm.ClassFile.FieldType.boolean), Jvm.Cond.code ({ cls := "com/example/trailback/trailback/core/IntLimits", name := "contains", desc := "(J)Z" } : Jvm.MethodName) prog_31_method_2_code (2 : Nat) (Option.some Jvm.ClassFile.FieldType.boolean)]
set_option maxRecDepth 65536 in
theorem codes_eq : words1.filter isCode = codes1 := rfl
theorem w_codes : ∀ c ∈ words1.filter isCode, c.before args0 about1 = true := by
  rw [codes_eq]
  intro c hc
  simp only [codes1, List.mem_cons, List.not_mem_nil, or_false] at hc
  rcases hc with rfl | rfl | rfl
  · exact w_c0
  · exact w_c1
  · exact w_c2
set_option maxRecDepth 65536 in
theorem w_t1 : words1.all (fun c => isCode c || c.before args0 about1) = true := by decide +kernel
theorem w_tables : (allAtoms (Jvm.Cond.code x code maxLocals ret :: tables_1)).before args0 about1 = true := by
  rw [allAtoms_all]
  show words1.all (fun c => c.before args0 about1) = true
  refine all_split ?_ w_codes
  rw [w_t1]
set_option maxRecDepth 65536 in
theorem w_case : (Jvm.Cond.and given_1 narrow_1).before args0 about1 = true := by decide +kernel
theorem w_applies : (headSpec (Jvm.Cond.code x code maxLocals ret :: tables_1) room_1).applies x e0.platform about1 = true :=
  (Spec.applies_iff w_frames).mpr ⟨w_running, w_runnable, w_alone, w_named, w_hears, w_ripe, w_room, w_tables⟩
theorem atStart : AtStart classFile x code maxLocals ret World_1 tables_1 room_1 Calls_1 rest_1 Pre_1 launch0 p0 e0 about1 theMethod args0 below0 :=
  ⟨lists_1, trivial, launch0.admits_env _ _ _, launch0.least_env, fairChoices_fair.cas, fairChoices_fair.clock, w_frames, w_args, w_heap, w_applies, trivial, trivial, w_case⟩
end start1
theorem witness_1 : WitnessClaimed_1 := ⟨start1.p0, start1.e0, start1.about1, start1.theMethod, start1.args0, start1.below0, start1.atStart⟩
end Jvm.Pilot.@@N@@
