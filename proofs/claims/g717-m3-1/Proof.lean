import JvmDerived
import JvmDerived.Pilot.@@N@@Statement
import JvmDerived.Pilot.@@N@@Code
set_option linter.unusedVariables false
set_option linter.unusedSimpArgs false
namespace Jvm.OwnKit
open Sem ClassFile Op Lib Jvm.Stand Jvm.Free Jvm.LawKit Jvm.RoadKit
/-- from the state A the run comes to an end as the contract asks it -/
def OwnEnd (p : Program) (e : Env) (below : List Frame) (s : State) (Q : Option Value → Heap → List Loc → Prop) (kc ks : Nat) (A : State) : Prop :=
  ∃ (s₂ : State) (o : Outcome), Steps p.tables e below A s₂ ∧ s₂.status = .running ∧ Ended s₂ below o ∧ ∃ v L, o = .returned v ∧ Q v s₂.heap L ∧ FrameEnd s o s₂ L kc ks
section Own
variable {p : Program} {l : Launch} {e : Env} {R : Room} {s : State} {m : MethodId} {args : Array Value} {below : List Frame} {meth : Method} {c : Code} {T : State} {locs : List Loc} {cells slots : Nat} {Z : State} {a0 : Array Value} {h : Heap}
variable {Q : Option Value → Heap → List Loc → Prop} {kc ks : Nat}
theorem go {A B : State} (k : ∀ t, Steps p.tables e below B t → Steps p.tables e below A t) (F : OwnEnd p e below s Q kc ks B) : OwnEnd p e below s Q kc ks A := by
  obtain ⟨s₂, o, h1, r⟩ := F; exact ⟨s₂, o, k _ h1, r⟩
theorem up {cells' slots' : Nat} (X : Stand p l e R s m args below meth c T locs cells slots) (h1 : cells ≤ cells') (h2 : slots ≤ slots') : Stand p l e R s m args below meth c T locs cells' slots' :=
  ⟨X.admits, X.cas, X.clock, X.frames, X.room, X.hears, X.method, X.code, X.here, X.tail, X.warmed, X.limits, X.bytes, X.same.mono h1 h2⟩
theorem done (X : Stand p l e R s m args below meth c T locs cells slots) (hlk : meth.locks = false) {v : Option Value} (hv : meth.sig.returnType = none → v = none) {A : State}
    (st : ∀ fs, (∀ (f : JFrame) (acts : List Action), f.method = m → f.locked = none → f.entered = [] → (doReturn e (T.setTop f) acts v).1 = T.setFrames fs) → Steps p.tables e below A (T.setFrames fs))
    (eT : T.heap = h) (hk : cells ≤ kc) (hs : slots ≤ ks) (hQ : Q v h locs) : OwnEnd p e below s Q kc ks A := by
  obtain ⟨fs, hr, hrun, hended, hW, hsame⟩ := X.leave (v := v) hv hlk
  exact ⟨_, _, st fs hr, hrun, hended, _, _, rfl, (by show Q v T.heap locs; rw [eT]; exact hQ), ⟨_, rfl⟩, hW, hsame.mono hk hs⟩
theorem endI (X : Stand p l e R s m args below meth c T locs cells slots) (hx : p.tables.exec = Jvm.exec) (hlk : meth.locks = false) (hret : meth.sig.returnType = some .int) {pc : Nat} {Ls : Array Slot} {z : Int32} {rest : List Value} (hd : decode c.code pc = .ok (.ireturn, 1))
    (eT : T.heap = h) (hk : cells ≤ kc) (hs : slots ≤ ks) (hQ : Q (some (.int z)) h locs) : OwnEnd p e below s Q kc ks (T.setTop (mkF m pc Ls (.int z :: rest))) :=
  done X hlk (fun q => by rw [hret] at q; cases q) (fun fs hr => retOut X hx (w := .int z) hret rfl (Or.inl ⟨rfl, Or.inl rfl, z, rfl⟩) hd hr) eT hk hs hQ
theorem endN (X : Stand p l e R s m args below meth c T locs cells slots) (hx : p.tables.exec = Jvm.exec) (hlk : meth.locks = false) {t : FieldType} (ht : t = .boolean ∨ t = .byte ∨ t = .char ∨ t = .short) (hret : meth.sig.returnType = some t) {pc : Nat} {Ls : Array Slot} {z : Int32} {rest : List Value} (hd : decode c.code pc = .ok (.ireturn, 1))
    (eT : T.heap = h) (hk : cells ≤ kc) (hs : slots ≤ ks) (hQ : Q (some (.int (nar t z))) h locs) : OwnEnd p e below s Q kc ks (T.setTop (mkF m pc Ls (.int z :: rest))) :=
  done X hlk (fun q => by rw [hret] at q; cases q) (fun fs hr => retN X hx hret ht hd hr) eT hk hs hQ
theorem endJ (X : Stand p l e R s m args below meth c T locs cells slots) (hx : p.tables.exec = Jvm.exec) (hlk : meth.locks = false) (hret : meth.sig.returnType = some .long) {pc : Nat} {Ls : Array Slot} {z : Int64} {rest : List Value} (hd : decode c.code pc = .ok (.lreturn, 1))
    (eT : T.heap = h) (hk : cells ≤ kc) (hs : slots ≤ ks) (hQ : Q (some (.long z)) h locs) : OwnEnd p e below s Q kc ks (T.setTop (mkF m pc Ls (.long z :: rest))) :=
  done X hlk (fun q => by rw [hret] at q; cases q) (fun fs hr => retOut X hx (w := .long z) hret rfl (Or.inr (Or.inl ⟨rfl, rfl, z, rfl⟩)) hd hr) eT hk hs hQ
theorem endA (X : Stand p l e R s m args below meth c T locs cells slots) (hx : p.tables.exec = Jvm.exec) (hlk : meth.locks = false) {t : FieldType} (hret : meth.sig.returnType = some t) (ht : t.isReference = true) {pc : Nat} {Ls : Array Slot} {w : Value} (hw : w.isRef = true) {rest : List Value} (hd : decode c.code pc = .ok (.areturn, 1))
    (eT : T.heap = h) (hk : cells ≤ kc) (hs : slots ≤ ks) (hQ : Q (some w) h locs) : OwnEnd p e below s Q kc ks (T.setTop (mkF m pc Ls (w :: rest))) :=
  done X hlk (fun q => by rw [hret] at q; cases q) (fun fs hr => retOut X hx (w := w) hret (by cases t <;> first | rfl | cases ht) (Or.inr (Or.inr (Or.inr (Or.inr ⟨rfl, ht, hw⟩)))) hd hr) eT hk hs hQ
theorem endV (X : Stand p l e R s m args below meth c T locs cells slots) (hx : p.tables.exec = Jvm.exec) (hlk : meth.locks = false) (hret : meth.sig.returnType = none) {pc : Nat} {Ls : Array Slot} (hd : decode c.code pc = .ok (.return_, 1))
    (eT : T.heap = h) (hk : cells ≤ kc) (hs : slots ≤ ks) (hQ : Q none h locs) : OwnEnd p e below s Q kc ks (T.setTop (mkF m pc Ls [])) :=
  done X hlk (fun _ => rfl) (fun fs hr => X.returnOut hx hret hd hr) eT hk hs hQ
theorem nar01 {P : Prop} [Decidable P] : nar .boolean (if P then (1 : Int32) else 0) = if P then (1 : Int32) else 0 := by split <;> rfl
section Call
variable {own : String} {index : Nat} {y z : MethodName} {bytes : ByteArray} {maxL W : Nat} {ret : Option FieldType} {rm : Room} {as' : Array Value} {Qc : Option Value → Heap → List Loc → Prop} {g : JFrame} {argsL rest : List Value}
theorem callStat (X : Stand p l e R s m args below meth c T locs cells slots) (hx : p.tables.exec = Jvm.exec) (hZ : Z.Warmed39 s.vm) (hown : s.vm.findClass own = some m.cls)
    (w1 : (Cond.methodLink own index y).before a0 Z = true) (w2 : (Cond.static y).before a0 Z = true) (w3 : (Cond.initialized y.cls).before a0 Z = true) (w4 : (Cond.code y bytes maxL ret).before a0 Z = true)
    (hy : y.cls ≠ "java/lang/invoke/MethodHandle" ∧ y.cls ≠ "java/lang/invoke/VarHandle")
    (hM : MetFree l y (head1 [Cond.code y bytes maxL ret] rm) (fun a U => a = as' ∧ Z.Warmed39 U.vm ∧ U.heap = h) (fun _ _ _ _ _ => True) (fun _ U o U' => ∃ v L, o = .returned v ∧ Qc v U'.heap L ∧ FrameEnd U o U' L rm.cells rm.slots))
    (hf : rm.frames + 1 ≤ R.frames) (hl : W + (maxL + 11) + rm.locals ≤ R.locals) (eT : T.heap = h) (hg : g.method = m) (hsize : g.locals.size = c.maxLocals) (ha : argsL.toArray = as')
    (hlen : ∀ sig, parseMethodDescriptor y.desc = some sig → argsL.length = sig.parameters.length) (hstack : g.stack = argsL.reverse ++ rest) (hW : 2 * g.monitorRoom + (rest.map fun v => v.category).sum ≤ W) (hdg : decode c.code g.pc = .ok (.invokestatic index, 3))
    (hc : cells + rm.cells ≤ R.cells) (hs : slots + rm.slots ≤ R.slots) :
    ∃ (v : Option Value) (T' : State) (L : List Loc), Stand p l e R s m args below meth c T' (locs ++ L) (cells + rm.cells) (slots + rm.slots) ∧ Qc v T'.heap L ∧ ∀ target, Steps p.tables e below (T'.setTop { g with pc := g.pc + 3, stack := v.toList ++ rest }) target → Steps p.tables e below (T.setTop g) target := by
  obtain ⟨v, _, ⟨T', L', k', n'⟩, -, X', ⟨L, hQ, l1, l2, l3⟩, st⟩ := Jvm.LawKit.callS X hx hown (mvT hZ w1) (mvT hZ w2) (mvT hZ w3) (mvT hZ w4) hy (backOf (W := W) hM hZ w4 w3 hf hl) (g := g) hg hsize (argsL := argsL) (rest := rest) hlen hstack hW hdg (fun _ _ => ⟨ha, eT, hc, hs⟩)
  dsimp only [Pt.U, Pt.locs, Pt.cells, Pt.slots] at X' l1 l2 l3 st hQ
  subst l1 l2 l3
  exact ⟨v, T', L, X', hQ, st⟩
theorem callInit (X : Stand p l e R s m args below meth c T locs cells slots) (hx : p.tables.exec = Jvm.exec) (hZ : Z.Warmed39 s.vm) (hown : s.vm.findClass own = some m.cls) (hy1 : y.name = "<init>")
    (w1 : (Cond.methodLink own index y).before a0 Z = true) (w2 : (Cond.instanceMethod y).before a0 Z = true) (w3 : (Cond.initialized y.cls).before a0 Z = true) (w4 : (Cond.code y bytes maxL none).before a0 Z = true)
    (hy : y.cls ≠ "java/lang/invoke/MethodHandle" ∧ y.cls ≠ "java/lang/invoke/VarHandle")
    (hM : MetFree l y (head1 [Cond.code y bytes maxL none] rm) (fun a U => a = as' ∧ Z.Warmed39 U.vm ∧ U.heap = h) (fun _ _ _ _ _ => True) (fun _ U o U' => ∃ v L, o = .returned v ∧ Qc v U'.heap L ∧ FrameEnd U o U' L rm.cells rm.slots))
    (hf : rm.frames + 1 ≤ R.frames) (hl : W + (maxL + 11) + rm.locals ≤ R.locals) (eT : T.heap = h) (hg : g.method = m) (hsize : g.locals.size = c.maxLocals) {a : Addr} (ha : (Value.ref a :: argsL).toArray = as')
    (hlen : ∀ sig, parseMethodDescriptor y.desc = some sig → argsL.length = sig.parameters.length) (hstack : g.stack = argsL.reverse ++ .ref a :: rest) (hW : 2 * g.monitorRoom + (rest.map fun v => v.category).sum ≤ W) (hdg : decode c.code g.pc = .ok (.invokespecial index, 3))
    (hc : cells + rm.cells ≤ R.cells) (hs : slots + rm.slots ≤ R.slots) :
    ∃ (v : Option Value) (T' : State) (L : List Loc), Stand p l e R s m args below meth c T' (locs ++ L) (cells + rm.cells) (slots + rm.slots) ∧ Qc v T'.heap L ∧ ∀ target, Steps p.tables e below (T'.setTop { g with pc := g.pc + 3, stack := v.toList ++ rest }) target → Steps p.tables e below (T.setTop g) target := by
  obtain ⟨v, _, ⟨T', L', k', n'⟩, -, X', ⟨L, hQ, l1, l2, l3⟩, st⟩ := X.specialBack hx hy1 hown (mvT hZ w1) (mvT hZ w2) (mvT hZ w4) hy (backOf (W := W) hM hZ w4 w3 hf hl) (g := g) hg hsize (Steps.refl _) (a := a) (argsL := argsL) (rest := rest) hlen hstack hW hdg (fun _ _ => ⟨ha, eT, hc, hs⟩)
  dsimp only [Pt.U, Pt.locs, Pt.cells, Pt.slots] at X' l1 l2 l3 st hQ
  subst l1 l2 l3
  exact ⟨v, T', L, X', hQ, fun _ k => st.trans k⟩
theorem callVirt (X : Stand p l e R s m args below meth c T locs cells slots) (hx : p.tables.exec = Jvm.exec) (hZ : Z.Warmed39 s.vm) (hown : s.vm.findClass own = some m.cls) {C : String}
    (w1 : (Cond.methodLink own index y).before a0 Z = true) (w2 : (Cond.declares y).before a0 Z = true) (hnf : NotFace s y) (w3 : (Cond.selects C y z).before a0 Z = true) (w5 : (Cond.instanceMethod z).before a0 Z = true) (w6 : (Cond.initialized z.cls).before a0 Z = true) (w4 : (Cond.code z bytes maxL ret).before a0 Z = true)
    (hy : y.cls ≠ "java/lang/invoke/MethodHandle" ∧ y.cls ≠ "java/lang/invoke/VarHandle")
    (hM : MetFree l z (head1 [Cond.code z bytes maxL ret] rm) (fun a U => a = as' ∧ Z.Warmed39 U.vm ∧ U.heap = h) (fun _ _ _ _ _ => True) (fun _ U o U' => ∃ v L, o = .returned v ∧ Qc v U'.heap L ∧ FrameEnd U o U' L rm.cells rm.slots))
    (hf : rm.frames + 1 ≤ R.frames) (hl : W + (maxL + 11) + rm.locals ≤ R.locals) (eT : T.heap = h) {a : Addr} (E : Exa Z h a C) (hg : g.method = m) (hsize : g.locals.size = c.maxLocals) (ha : (Value.ref a :: argsL).toArray = as')
    (hlen : ∀ sig, parseMethodDescriptor y.desc = some sig → argsL.length = sig.parameters.length) (hstack : g.stack = argsL.reverse ++ .ref a :: rest) (hW : 2 * g.monitorRoom + (rest.map fun v => v.category).sum ≤ W) (hdg : decode c.code g.pc = .ok (.invokevirtual index, 3))
    (hc : cells + rm.cells ≤ R.cells) (hs : slots + rm.slots ≤ R.slots) :
    ∃ (v : Option Value) (T' : State) (L : List Loc), Stand p l e R s m args below meth c T' (locs ++ L) (cells + rm.cells) (slots + rm.slots) ∧ Qc v T'.heap L ∧ ∀ target, Steps p.tables e below (T'.setTop { g with pc := g.pc + 3, stack := v.toList ++ rest }) target → Steps p.tables e below (T.setTop g) target := by
  obtain ⟨cq, kq, q1, q2, q3⟩ := isOf hZ eT E
  obtain ⟨v, _, ⟨T', L', k', n'⟩, -, X', ⟨L, hQ, l1, l2, l3⟩, st⟩ := X.virtualBack hx hown (mvT hZ w1) (mvT hZ w2) hnf (mvT hZ w3) (mvT hZ w5) hy (backOf (W := W) hM hZ w4 w6 hf hl) q1 q3 (g := g) hg hsize (Steps.refl _) (argsL := argsL) (rest := rest) hlen hstack hW hdg (fun _ _ => ⟨ha, eT, hc, hs⟩)
  dsimp only [Pt.U, Pt.locs, Pt.cells, Pt.slots] at X' l1 l2 l3 st hQ
  subst l1 l2 l3
  exact ⟨v, T', L, X', hQ, fun _ k => st.trans k⟩
theorem callUp (X : Stand p l e R s m args below meth c T locs cells slots) (hx : p.tables.exec = Jvm.exec) (hZ : Z.Warmed39 s.vm) (hown : s.vm.findClass own = some m.cls) {C owner : String}
    (w1 : (Cond.methodLink own index y).before a0 Z = true) (w0 : (Cond.sameMethod y.cls owner y.name y.desc).before a0 Z = true) (w2 : (Cond.declares ⟨owner, y.name, y.desc⟩).before a0 Z = true) (ho : owner ≠ "java/lang/invoke/MethodHandle" ∧ owner ≠ "java/lang/invoke/VarHandle")
    (w3 : (Cond.selects C y z).before a0 Z = true) (w5 : (Cond.instanceMethod z).before a0 Z = true) (w6 : (Cond.initialized z.cls).before a0 Z = true) (w4 : (Cond.code z bytes maxL ret).before a0 Z = true)
    (hM : MetFree l z (head1 [Cond.code z bytes maxL ret] rm) (fun a U => a = as' ∧ Z.Warmed39 U.vm ∧ U.heap = h) (fun _ _ _ _ _ => True) (fun _ U o U' => ∃ v L, o = .returned v ∧ Qc v U'.heap L ∧ FrameEnd U o U' L rm.cells rm.slots))
    (hf : rm.frames + 1 ≤ R.frames) (hl : W + (maxL + 11) + rm.locals ≤ R.locals) (eT : T.heap = h) {a : Addr} (E : Exa Z h a C) (hg : g.method = m) (hsize : g.locals.size = c.maxLocals) (ha : (Value.ref a :: argsL).toArray = as')
    (hlen : ∀ sig, parseMethodDescriptor y.desc = some sig → argsL.length = sig.parameters.length) (hstack : g.stack = argsL.reverse ++ .ref a :: rest) (hW : 2 * g.monitorRoom + (rest.map fun v => v.category).sum ≤ W) (hdg : decode c.code g.pc = .ok (.invokevirtual index, 3))
    (hc : cells + rm.cells ≤ R.cells) (hs : slots + rm.slots ≤ R.slots) :
    ∃ (v : Option Value) (T' : State) (L : List Loc), Stand p l e R s m args below meth c T' (locs ++ L) (cells + rm.cells) (slots + rm.slots) ∧ Qc v T'.heap L ∧ ∀ target, Steps p.tables e below (T'.setTop { g with pc := g.pc + 3, stack := v.toList ++ rest }) target → Steps p.tables e below (T.setTop g) target := by
  obtain ⟨cq, kq, q1, q2, q3⟩ := isOf hZ eT E
  obtain ⟨v, _, ⟨T', L', k', n'⟩, -, X', ⟨L, hQ, l1, l2, l3⟩, st⟩ := X.virtualBackUp hx hown (mvT hZ w1) (mvT hZ w0) (mvT hZ w2) ho (mvT hZ w3) (mvT hZ w5) (backOf (W := W) hM hZ w4 w6 hf hl) q1 q3 (g := g) hg hsize (Steps.refl _) (argsL := argsL) (rest := rest) hlen hstack hW hdg (fun _ _ => ⟨ha, eT, hc, hs⟩)
  dsimp only [Pt.U, Pt.locs, Pt.cells, Pt.slots] at X' l1 l2 l3 st hQ
  subst l1 l2 l3
  exact ⟨v, T', L, X', hQ, fun _ k => st.trans k⟩
theorem callPriv (X : Stand p l e R s m args below meth c T locs cells slots) (hx : p.tables.exec = Jvm.exec) (hZ : Z.Warmed39 s.vm) (hown : s.vm.findClass own = some m.cls) {C : String} {kk : Nat}
    (w1 : (Cond.methodLink own index y).before a0 Z = true) (w2 : (Cond.instanceMethod y).before a0 Z = true) (wp : (Cond.privateMethod y).before a0 Z = true) (wi : (Cond.instantiable y.cls kk).before a0 Z = true) (w6 : (Cond.initialized y.cls).before a0 Z = true) (w4 : (Cond.code y bytes maxL ret).before a0 Z = true)
    (hy : y.cls ≠ "java/lang/invoke/MethodHandle" ∧ y.cls ≠ "java/lang/invoke/VarHandle")
    (hM : MetFree l y (head1 [Cond.code y bytes maxL ret] rm) (fun a U => a = as' ∧ Z.Warmed39 U.vm ∧ U.heap = h) (fun _ _ _ _ _ => True) (fun _ U o U' => ∃ v L, o = .returned v ∧ Qc v U'.heap L ∧ FrameEnd U o U' L rm.cells rm.slots))
    (hf : rm.frames + 1 ≤ R.frames) (hl : W + (maxL + 11) + rm.locals ≤ R.locals) (eT : T.heap = h) {a : Addr} (E : Exa Z h a C) (hg : g.method = m) (hsize : g.locals.size = c.maxLocals) (ha : (Value.ref a :: argsL).toArray = as')
    (hlen : ∀ sig, parseMethodDescriptor y.desc = some sig → argsL.length = sig.parameters.length) (hstack : g.stack = argsL.reverse ++ .ref a :: rest) (hW : 2 * g.monitorRoom + (rest.map fun v => v.category).sum ≤ W) (hdg : decode c.code g.pc = .ok (.invokevirtual index, 3))
    (hc : cells + rm.cells ≤ R.cells) (hs : slots + rm.slots ≤ R.slots) :
    ∃ (v : Option Value) (T' : State) (L : List Loc), Stand p l e R s m args below meth c T' (locs ++ L) (cells + rm.cells) (slots + rm.slots) ∧ Qc v T'.heap L ∧ ∀ target, Steps p.tables e below (T'.setTop { g with pc := g.pc + 3, stack := v.toList ++ rest }) target → Steps p.tables e below (T.setTop g) target := by
  obtain ⟨c2, k2, i1, i2, -, i4, -⟩ := Cond.instantiable_spec (mvT hZ wi (args := args))
  simp only [Bool.or_eq_false_iff] at i4
  have hpriv := Cond.privateMethod_at (mvP hZ wp (args := args))
  have hsel := selects_self_of_private (args := args) i1 i2 i4.1 hpriv (mvT hZ w2) hy
  obtain ⟨cl, q1, q2⟩ := E.cell
  obtain ⟨v, _, ⟨T', L', k', n'⟩, -, X', ⟨L, hQ, l1, l2, l3⟩, st⟩ := X.privateBack hx hown (mvT hZ w1) (mvT hZ w2) hsel hpriv (mvT hZ w4) hy (backOf (W := W) hM hZ w4 w6 hf hl) (g := g) hg hsize (Steps.refl _) (a := a) (cell := cl) (by rw [eT]; exact q1) q2 (argsL := argsL) (rest := rest) hlen hstack hW hdg (fun _ _ => ⟨ha, eT, hc, hs⟩)
  dsimp only [Pt.U, Pt.locs, Pt.cells, Pt.slots] at X' l1 l2 l3 st hQ
  subst l1 l2 l3
  exact ⟨v, T', L, X', hQ, fun _ k => st.trans k⟩
theorem callFace (X : Stand p l e R s m args below meth c T locs cells slots) (hx : p.tables.exec = Jvm.exec) (hZ : Z.Warmed39 s.vm) (hown : s.vm.findClass own = some m.cls) {C : String} {count : Nat}
    (w1 : (Cond.methodLink own index y).before a0 Z = true) (w2 : (Cond.declares y).before a0 Z = true) (wf : (Cond.interfaceMethod y.cls y.cls y.name y.desc).before args s = true) (w3 : (Cond.selects C y z).before a0 Z = true) (w5 : (Cond.instanceMethod z).before a0 Z = true) (wu : (Cond.publicMethod z).before a0 Z = true) (wh : (Cond.unhidden C y.name y.desc).before a0 Z = true) (wk : (Cond.castable C y.cls).before a0 Z = true) (w6 : (Cond.initialized z.cls).before a0 Z = true) (w4 : (Cond.code z bytes maxL ret).before a0 Z = true)
    (hy : y.cls ≠ "java/lang/invoke/MethodHandle" ∧ y.cls ≠ "java/lang/invoke/VarHandle")
    (hM : MetFree l z (head1 [Cond.code z bytes maxL ret] rm) (fun a U => a = as' ∧ Z.Warmed39 U.vm ∧ U.heap = h) (fun _ _ _ _ _ => True) (fun _ U o U' => ∃ v L, o = .returned v ∧ Qc v U'.heap L ∧ FrameEnd U o U' L rm.cells rm.slots))
    (hf : rm.frames + 1 ≤ R.frames) (hl : W + (maxL + 11) + rm.locals ≤ R.locals) (eT : T.heap = h) {a : Addr} (E : Exa Z h a C) (hg : g.method = m) (hsize : g.locals.size = c.maxLocals) (ha : (Value.ref a :: argsL).toArray = as')
    (hlen : ∀ sig, parseMethodDescriptor y.desc = some sig → argsL.length = sig.parameters.length) (hstack : g.stack = argsL.reverse ++ .ref a :: rest) (hW : 2 * g.monitorRoom + (rest.map fun v => v.category).sum ≤ W) (hdg : decode c.code g.pc = .ok (.invokeinterface index count, 5))
    (hc : cells + rm.cells ≤ R.cells) (hs : slots + rm.slots ≤ R.slots) :
    ∃ (v : Option Value) (T' : State) (L : List Loc), Stand p l e R s m args below meth c T' (locs ++ L) (cells + rm.cells) (slots + rm.slots) ∧ Qc v T'.heap L ∧ ∀ target, Steps p.tables e below (T'.setTop { g with pc := g.pc + 5, stack := v.toList ++ rest }) target → Steps p.tables e below (T.setTop g) target := by
  obtain ⟨cq, kq, q1, q2, q3⟩ := isOf hZ eT E
  obtain ⟨v, _, ⟨T', L', k', n'⟩, -, X', ⟨L, hQ, l1, l2, l3⟩, st⟩ := X.interfaceBack hx hown (mvT hZ w1) (mvT hZ w2) wf (mvT hZ w3) (mvT hZ w5) (mvT hZ wu) (mvT hZ wh) (mvT hZ wk) hy (backOf (W := W) hM hZ w4 w6 hf hl) q1 q2 q3 (g := g) hg hsize (Steps.refl _) (argsL := argsL) (rest := rest) hlen hstack hW hdg (fun _ _ => ⟨ha, eT, hc, hs⟩)
  dsimp only [Pt.U, Pt.locs, Pt.cells, Pt.slots] at X' l1 l2 l3 st hQ
  subst l1 l2 l3
  exact ⟨v, T', L, X', hQ, fun _ k => st.trans k⟩
end Call
/-- an object of C is none of K (K a class that can be made) -/
theorem NSroot {O K : String} {kk : Nat} (w : (Cond.noSuperclass O).before a0 Z = true) (wk : (Cond.instantiable K kk).before a0 Z = true) (hn : O ≠ K) : NS Z O K := by
  obtain ⟨c, k, h1, h2, h3, -, -⟩ := Cond.noSuperclass_spec w
  obtain ⟨t, kt, g1, -⟩ := Cond.instantiable_spec wk
  have ne := ids_ne h1 g1 hn
  refine ⟨c, t, h1, g1, fun fuel => ?_⟩
  cases fuel with
  | zero => rfl
  | succ f => simp [Vm.isSubclassAux, ne, h2, h3]
theorem NSno {C S K : String} {kk : Nat} (w : (Cond.superclass C S).before a0 Z = true) (wk : (Cond.instantiable K kk).before a0 Z = true) (n : NS Z C K) (hn : C ≠ K) : ∃ c t, Z.vm.findClass C = some c ∧ Z.vm.findClass K = some t ∧ Z.vm.assignable c t = false := by
  obtain ⟨c, t, h0, g0, n3⟩ := n
  obtain ⟨p, k, kp, h1, h2, h3, h4, h5, -, h7⟩ := Cond.superclass_spec h0 w
  obtain ⟨t', k', g1, g2, g5, g7, -⟩ := Cond.instantiable_spec wk
  cases g0.symm.trans g1
  simp only [Bool.or_eq_false_iff] at g7
  have ne := ids_ne h0 g0 hn
  refine ⟨c, t, h0, g0, ?_⟩
  show Z.vm.assignableAux (255 + 1) c t = false
  simp [Vm.assignableAux, ne, h2, g2, h5, g5, g7.1, Vm.isSubclass, n3]
end Own
end Jvm.OwnKit
namespace Jvm.OwnKit
open Sem ClassFile Op Lib Jvm.Stand Jvm.Free Jvm.LawKit Jvm.RoadKit
section Arrays
variable {p : Program} {l : Launch} {e : Env} {R : Room} {s : State} {m : MethodId} {args : Array Value} {below : List Frame} {meth : Method} {c : Code} {T : State} {locs : List Loc} {cells slots : Nat} {Z : State} {h : Heap}
variable {a : Addr} {k : ClassId} {z j : Int32} {vs : List Value} {dv : Value} {i : Nat} {g : JFrame} {rest : List Value}
theorem stBv (X : Stand p l e R s m args below meth c T locs cells slots) (hx : p.tables.exec = Jvm.exec) (hZ : Z.Warmed39 s.vm) (eT : T.heap = h) (F : Arv Z h a k .byte z vs dv) {x : Int32} (h1 : ¬ j < 0) (h2 : j < z) (h3 : j.toNatClampNeg = i) (h4 : i < vs.length)
    (hg : g.method = m) (hs : g.stack = .int x :: .int j :: .ref a :: rest) (hd : decode c.code g.pc = .ok (.bastore, 1)) :
    ∃ T' h', Stand p l e R s m args below meth c T' (locs ++ [⟨a, i⟩]) cells slots ∧ T'.heap = h' ∧ Wr h h' a i (.int (nar .byte x)) ∧ Arv Z h' a k .byte z (vs.set i (.int (nar .byte x))) dv ∧ ∀ target, Steps p.tables e below (T'.setTop { g with pc := g.pc + 1, stack := rest }) target → Steps p.tables e below (T.setTop g) target := by
  obtain ⟨cl, A, q1, S, q3, H, G⟩ := F
  subst h3
  obtain ⟨T', h', X', e', W, st⟩ := stB X hx hZ eT A (inb_of S ⟨h1, h2⟩) hg hs hd
  exact ⟨T', h', X', e', W, Arv.set A q1 S q3 H G (fits_nar_byte _) W _ rfl h4, st⟩
theorem stIv (X : Stand p l e R s m args below meth c T locs cells slots) (hx : p.tables.exec = Jvm.exec) (hZ : Z.Warmed39 s.vm) (eT : T.heap = h) (F : Arv Z h a k .int z vs dv) {x : Int32} (h1 : ¬ j < 0) (h2 : j < z) (h3 : j.toNatClampNeg = i) (h4 : i < vs.length)
    (hg : g.method = m) (hs : g.stack = .int x :: .int j :: .ref a :: rest) (hd : decode c.code g.pc = .ok (.iastore, 1)) :
    ∃ T' h', Stand p l e R s m args below meth c T' (locs ++ [⟨a, i⟩]) cells slots ∧ T'.heap = h' ∧ Wr h h' a i (.int x) ∧ Arv Z h' a k .int z (vs.set i (.int x)) dv ∧ ∀ target, Steps p.tables e below (T'.setTop { g with pc := g.pc + 1, stack := rest }) target → Steps p.tables e below (T.setTop g) target := by
  obtain ⟨cl, A, q1, S, q3, H, G⟩ := F
  subst h3
  obtain ⟨T', h', X', e', W, st⟩ := stI X hx hZ eT A (inb_of S ⟨h1, h2⟩) hg hs hd
  exact ⟨T', h', X', e', W, Arv.set A q1 S q3 H G rfl W _ rfl h4, st⟩
theorem stCv (X : Stand p l e R s m args below meth c T locs cells slots) (hx : p.tables.exec = Jvm.exec) (hZ : Z.Warmed39 s.vm) (eT : T.heap = h) (F : Arv Z h a k .char z vs dv) {x : Int32} (h1 : ¬ j < 0) (h2 : j < z) (h3 : j.toNatClampNeg = i) (h4 : i < vs.length)
    (hg : g.method = m) (hs : g.stack = .int x :: .int j :: .ref a :: rest) (hd : decode c.code g.pc = .ok (.castore, 1)) :
    ∃ T' h', Stand p l e R s m args below meth c T' (locs ++ [⟨a, i⟩]) cells slots ∧ T'.heap = h' ∧ Wr h h' a i (.int (nar .char x)) ∧ Arv Z h' a k .char z (vs.set i (.int (nar .char x))) dv ∧ ∀ target, Steps p.tables e below (T'.setTop { g with pc := g.pc + 1, stack := rest }) target → Steps p.tables e below (T.setTop g) target := by
  obtain ⟨cl, A, q1, S, q3, H, G⟩ := F
  subst h3
  obtain ⟨T', h', X', e', W, st⟩ := stC X hx hZ eT A (inb_of S ⟨h1, h2⟩) hg hs hd
  exact ⟨T', h', X', e', W, Arv.set A q1 S q3 H G (fits_nar_char _) W _ rfl h4, st⟩
theorem ldBv (X : Stand p l e R s m args below meth c T locs cells slots) (hx : p.tables.exec = Jvm.exec) (hZ : Z.Warmed39 s.vm) (eT : T.heap = h) (F : Arv Z h a k .byte z vs dv) {w : Int32} (h1 : ¬ j < 0) (h2 : j < z) (h3 : j.toNatClampNeg = i) (hv : vs.getD i dv = .int w)
    (hg : g.method = m) (hs : g.stack = .int j :: .ref a :: rest) (hd : decode c.code g.pc = .ok (.baload, 1)) : ∀ target, Steps p.tables e below (T.setTop { g with pc := g.pc + 1, stack := .int w :: rest }) target → Steps p.tables e below (T.setTop g) target := by
  obtain ⟨cl, A, q1, S, q3, H, G⟩ := F
  subst h3
  exact X.baloadBytes hx (by rw [eT]; exact A.1) (State.isArrayOf_alike hZ.alike A.2.1) A.2.2 (inb_of S ⟨h1, h2⟩) (H.at (inb_of S ⟨h1, h2⟩) hv) hg hs hd
theorem ldIv (X : Stand p l e R s m args below meth c T locs cells slots) (hx : p.tables.exec = Jvm.exec) (hZ : Z.Warmed39 s.vm) (eT : T.heap = h) (F : Arv Z h a k .int z vs dv) {w : Int32} (h1 : ¬ j < 0) (h2 : j < z) (h3 : j.toNatClampNeg = i) (hv : vs.getD i dv = .int w)
    (hg : g.method = m) (hs : g.stack = .int j :: .ref a :: rest) (hd : decode c.code g.pc = .ok (.iaload, 1)) : ∀ target, Steps p.tables e below (T.setTop { g with pc := g.pc + 1, stack := .int w :: rest }) target → Steps p.tables e below (T.setTop g) target := by
  obtain ⟨cl, A, q1, S, q3, H, G⟩ := F
  subst h3
  exact X.iaload hx (by rw [eT]; exact A.1) (State.isArrayOf_alike hZ.alike A.2.1) A.2.2 (inb_of S ⟨h1, h2⟩) (H.at (inb_of S ⟨h1, h2⟩) hv) hg hs hd
theorem ldCv (X : Stand p l e R s m args below meth c T locs cells slots) (hx : p.tables.exec = Jvm.exec) (hZ : Z.Warmed39 s.vm) (eT : T.heap = h) (F : Arv Z h a k .char z vs dv) {w : Int32} (h1 : ¬ j < 0) (h2 : j < z) (h3 : j.toNatClampNeg = i) (hv : vs.getD i dv = .int w)
    (hg : g.method = m) (hs : g.stack = .int j :: .ref a :: rest) (hd : decode c.code g.pc = .ok (.caload, 1)) : ∀ target, Steps p.tables e below (T.setTop { g with pc := g.pc + 1, stack := .int w :: rest }) target → Steps p.tables e below (T.setTop g) target := by
  obtain ⟨cl, A, q1, S, q3, H, G⟩ := F
  subst h3
  exact X.caload hx (by rw [eT]; exact A.1) (State.isArrayOf_alike hZ.alike A.2.1) A.2.2 (inb_of S ⟨h1, h2⟩) (H.at (inb_of S ⟨h1, h2⟩) hv) hg hs hd
theorem stRv {ty : FieldType} {y : Addr} {C : String} (X : Stand p l e R s m args below meth c T locs cells slots) (hx : p.tables.exec = Jvm.exec) (hZ : Z.Warmed39 s.vm) (eT : T.heap = h) (F : Arv Z h a k ty z vs dv) (O : Ovr Z k C) (I : Ins Z h y C true) (hty : ty.isReference = true) (hfit : fits ty (.ref y) = true) (h1 : ¬ j < 0) (h2 : j < z) (h3 : j.toNatClampNeg = i) (h4 : i < vs.length)
    (hg : g.method = m) (hs : g.stack = .ref y :: .int j :: .ref a :: rest) (hd : decode c.code g.pc = .ok (.aastore, 1)) :
    ∃ T' h', Stand p l e R s m args below meth c T' (locs ++ [⟨a, i⟩]) cells slots ∧ T'.heap = h' ∧ Wr h h' a i (.ref y) ∧ Arv Z h' a k ty z (vs.set i (.ref y)) dv ∧ ∀ target, Steps p.tables e below (T'.setTop { g with pc := g.pc + 1, stack := rest }) target → Steps p.tables e below (T.setTop g) target := by
  obtain ⟨cl, A, q1, S, q3, H, G⟩ := F
  subst h3
  obtain ⟨T', h', X', e', W, st⟩ := stR X hx hZ eT A (inb_of S ⟨h1, h2⟩) hty (Sto.ofV A q1 O I) hg hs hd
  exact ⟨T', h', X', e', W, Arv.set A q1 S q3 H G hfit W _ rfl h4, st⟩
theorem stNv {ty : FieldType} (X : Stand p l e R s m args below meth c T locs cells slots) (hx : p.tables.exec = Jvm.exec) (hZ : Z.Warmed39 s.vm) (eT : T.heap = h) (F : Arv Z h a k ty z vs dv) (hty : ty.isReference = true) (hfit : fits ty .null = true) (h1 : ¬ j < 0) (h2 : j < z) (h3 : j.toNatClampNeg = i) (h4 : i < vs.length)
    (hg : g.method = m) (hs : g.stack = .null :: .int j :: .ref a :: rest) (hd : decode c.code g.pc = .ok (.aastore, 1)) :
    ∃ T' h', Stand p l e R s m args below meth c T' (locs ++ [⟨a, i⟩]) cells slots ∧ T'.heap = h' ∧ Wr h h' a i .null ∧ Arv Z h' a k ty z (vs.set i .null) dv ∧ ∀ target, Steps p.tables e below (T'.setTop { g with pc := g.pc + 1, stack := rest }) target → Steps p.tables e below (T.setTop g) target := by
  obtain ⟨cl, A, q1, S, q3, H, G⟩ := F
  subst h3
  obtain ⟨T', h', X', e', W, st⟩ := stR X hx hZ eT A (inb_of S ⟨h1, h2⟩) hty (Or.inl rfl) hg hs hd
  exact ⟨T', h', X', e', W, Arv.set A q1 S q3 H G hfit W _ rfl h4, st⟩
theorem lenV {ty : FieldType} (X : Stand p l e R s m args below meth c T locs cells slots) (hx : p.tables.exec = Jvm.exec) (hZ : Z.Warmed39 s.vm) (eT : T.heap = h) (F : Arv Z h a k ty z vs dv) (hg : g.method = m) (hs : g.stack = .ref a :: rest) (hd : decode c.code g.pc = .ok (.arraylength, 1)) :
    ∀ target, Steps p.tables e below (T.setTop { g with pc := g.pc + 1, stack := .int z :: rest }) target → Steps p.tables e below (T.setTop g) target := by
  obtain ⟨cl, A, q1, S, q3, H, G⟩ := F
  intro target kk
  rw [← len_of S q3] at kk
  exact X.arraylength hx (by rw [eT]; exact A.1) (State.isArrayOf_alike hZ.alike A.2.1) hg hs hd target kk
end Arrays
end Jvm.OwnKit
namespace Jvm.Pilot.@@N@@
open Jvm Jvm.ClassFile Sem Op Lib Jvm.Free Jvm.Stand Jvm.LawKit Jvm.RoadKit Bundle Jvm.OwnKit Jvm.Pilot.@@N@@.Jvm.D

def own_min (a b : Int32) : Int32 := if b < a then b else a
def own_max (a b : Int32) : Int32 := if a < b then b else a
def own_by (w : Int64) (s : Int32) : Int32 := nar .byte (((w.toUInt64 >>> (s &&& 0x3f).toInt64.toUInt64).toInt64).toInt32).toInt8.toInt32
def own_b0 (w : Int64) : Int32 := nar .byte (w.toInt32).toInt8.toInt32
def own_bi (w : Int32) (s : Int32) : Int32 := nar .byte ((w.toUInt32 >>> (s &&& 31).toUInt32).toInt32).toInt8.toInt32
def own_bz (w : Int32) : Int32 := nar .byte w.toInt8.toInt32
def own_nb (y bits i8 : Int32) : Int32 := nar .byte ((y &&& ((255 : Int32) <<< (((8 : Int32) - (own_max (0 : Int32) (own_min (8 : Int32) (bits - i8)))) &&& 31))).toInt8.toInt32)
def own_p4 (y0 y1 y2 y3 : Int32) : Int32 := (((((y0 &&& (255 : Int32)) <<< ((24 : Int32) &&& 31)) ||| ((y1 &&& (255 : Int32)) <<< ((16 : Int32) &&& 31))) ||| ((y2 &&& (255 : Int32)) <<< ((8 : Int32) &&& 31))) ||| (y3 &&& (255 : Int32)))
def own_p8 (y0 y1 y2 y3 y4 y5 y6 y7 : Int32) : Int64 := (((((((((y0.toInt64 &&& (255 : Int64)) <<< ((56 : Int32) &&& 0x3f).toInt64) ||| ((y1.toInt64 &&& (255 : Int64)) <<< ((48 : Int32) &&& 0x3f).toInt64)) ||| ((y2.toInt64 &&& (255 : Int64)) <<< ((40 : Int32) &&& 0x3f).toInt64)) ||| ((y3.toInt64 &&& (255 : Int64)) <<< ((32 : Int32) &&& 0x3f).toInt64)) ||| ((y4.toInt64 &&& (255 : Int64)) <<< ((24 : Int32) &&& 0x3f).toInt64)) ||| ((y5.toInt64 &&& (255 : Int64)) <<< ((16 : Int32) &&& 0x3f).toInt64)) ||| ((y6.toInt64 &&& (255 : Int64)) <<< ((8 : Int32) &&& 0x3f).toInt64)) ||| (y7.toInt64 &&& (255 : Int64)))

theorem own_nbf : ∀ (x : Fin 256) (t : Fin 9), (nar .byte ((Int32.ofInt ((x.1 : Int) - 128)) &&& ((255 : Int32) <<< (((8 : Int32) - (Int32.ofInt (t.1 : Int))) &&& 31))).toInt8.toInt32).toInt % 256 = (((x.1 : Int) - 128) % 256) - (((x.1 : Int) - 128) % 256) % (2 ^ (8 - t.1) : Nat) := by decide +kernel
theorem own_nbv (y bits i8 : Int32) (t : Nat) (ht : t < 9) (h1 : -128 ≤ y.toInt) (h2 : y.toInt < 128) (hm : own_max (0 : Int32) (own_min (8 : Int32) (bits - i8)) = Int32.ofInt (t : Int)) : (own_nb y bits i8).toInt % 256 = (y.toInt % 256) - (y.toInt % 256) % (2 ^ (8 - t) : Nat) := by
  have k := own_nbf ⟨(y.toInt + 128).toNat, by omega⟩ ⟨t, ht⟩
  have e1 : (((y.toInt + 128).toNat : Nat) : Int) - 128 = y.toInt := by omega
  simp only [e1] at k
  rw [Int32.ofInt_toInt] at k
  unfold own_nb
  rw [hm]
  exact k
theorem own_biv (w q : Int32) (k : Nat) (hk : q.toBitVec.toNat % 32 = k) (h0 : 0 < k) : (own_bi w q).toInt % 256 = ((w.toInt % 4294967296) / (2 ^ k : Nat)) % 256 ∧ -128 ≤ (own_bi w q).toInt ∧ (own_bi w q).toInt < 128 := by
  have a1 := c_iushr w q k hk h0
  have a2 := c_i2b ((w.toUInt32 >>> (q &&& 31).toUInt32).toInt32)
  have a3 := c_i2b ((w.toUInt32 >>> (q &&& 31).toUInt32).toInt32).toInt8.toInt32
  rw [a1] at a2
  show ((((w.toUInt32 >>> (q &&& 31).toUInt32).toInt32).toInt8.toInt32).toInt8.toInt32).toInt % 256 = _ ∧ -128 ≤ ((((w.toUInt32 >>> (q &&& 31).toUInt32).toInt32).toInt8.toInt32).toInt8.toInt32).toInt ∧ ((((w.toUInt32 >>> (q &&& 31).toUInt32).toInt32).toInt8.toInt32).toInt8.toInt32).toInt < 128
  generalize (w.toInt % 4294967296) / (2 ^ k : Nat) = z at *
  omega
theorem own_bzv (w : Int32) : (own_bz w).toInt % 256 = w.toInt % 256 ∧ -128 ≤ (own_bz w).toInt ∧ (own_bz w).toInt < 128 := by
  have a2 := c_i2b w
  have a3 := c_i2b w.toInt8.toInt32
  show ((w.toInt8.toInt32).toInt8.toInt32).toInt % 256 = _ ∧ -128 ≤ ((w.toInt8.toInt32).toInt8.toInt32).toInt ∧ ((w.toInt8.toInt32).toInt8.toInt32).toInt < 128
  omega
theorem own_byv (w : Int64) (q : Int32) (k : Nat) (hk : q.toBitVec.toNat % 64 = k) (h0 : 0 < k) : (own_by w q).toInt % 256 = ((w.toInt % 18446744073709551616) / (2 ^ k : Nat)) % 256 ∧ -128 ≤ (own_by w q).toInt ∧ (own_by w q).toInt < 128 := by
  have a1 := c_lushr w q k hk h0
  have a0 := c_l2i ((w.toUInt64 >>> (q &&& 0x3f).toInt64.toUInt64).toInt64)
  have a2 := c_i2b (((w.toUInt64 >>> (q &&& 0x3f).toInt64.toUInt64).toInt64).toInt32)
  have a3 := c_i2b (((w.toUInt64 >>> (q &&& 0x3f).toInt64.toUInt64).toInt64).toInt32).toInt8.toInt32
  rw [a1] at a0
  show (((((w.toUInt64 >>> (q &&& 0x3f).toInt64.toUInt64).toInt64).toInt32).toInt8.toInt32).toInt8.toInt32).toInt % 256 = _ ∧ -128 ≤ (((((w.toUInt64 >>> (q &&& 0x3f).toInt64.toUInt64).toInt64).toInt32).toInt8.toInt32).toInt8.toInt32).toInt ∧ (((((w.toUInt64 >>> (q &&& 0x3f).toInt64.toUInt64).toInt64).toInt32).toInt8.toInt32).toInt8.toInt32).toInt < 128
  generalize (w.toInt % 18446744073709551616) / (2 ^ k : Nat) = z at *
  omega
theorem own_b0v (w : Int64) : (own_b0 w).toInt % 256 = (w.toInt % 18446744073709551616) % 256 ∧ -128 ≤ (own_b0 w).toInt ∧ (own_b0 w).toInt < 128 := by
  have a0 := c_l2i w
  have a2 := c_i2b w.toInt32
  have a3 := c_i2b w.toInt32.toInt8.toInt32
  show ((w.toInt32.toInt8.toInt32).toInt8.toInt32).toInt % 256 = _ ∧ -128 ≤ ((w.toInt32.toInt8.toInt32).toInt8.toInt32).toInt ∧ ((w.toInt32.toInt8.toInt32).toInt8.toInt32).toInt < 128
  omega
theorem own_sp (w m : Int32) : (w &&& m) + (w &&& ~~~m) = w := by
  apply Int32.toBitVec_inj.mp
  show (w.toBitVec &&& m.toBitVec) + (w.toBitVec &&& ~~~m.toBitVec) = w.toBitVec
  rw [BitVec.add_eq_or_of_and_eq_zero]
  · apply BitVec.eq_of_getLsbD_eq; intro i hi; simp only [BitVec.getLsbD_or, BitVec.getLsbD_and, BitVec.getLsbD_not, hi, decide_true, Bool.true_and]; cases w.toBitVec.getLsbD i <;> cases m.toBitVec.getLsbD i <;> rfl
  · apply BitVec.eq_of_getLsbD_eq; intro i hi; simp only [BitVec.getLsbD_and, BitVec.getLsbD_not, hi, decide_true, Bool.true_and, BitVec.getLsbD_zero]; cases w.toBitVec.getLsbD i <;> cases m.toBitVec.getLsbD i <;> rfl
theorem own_spL (w m : Int64) : (w &&& m) + (w &&& ~~~m) = w := by
  apply Int64.toBitVec_inj.mp
  show (w.toBitVec &&& m.toBitVec) + (w.toBitVec &&& ~~~m.toBitVec) = w.toBitVec
  rw [BitVec.add_eq_or_of_and_eq_zero]
  · apply BitVec.eq_of_getLsbD_eq; intro i hi; simp only [BitVec.getLsbD_or, BitVec.getLsbD_and, BitVec.getLsbD_not, hi, decide_true, Bool.true_and]; cases w.toBitVec.getLsbD i <;> cases m.toBitVec.getLsbD i <;> rfl
  · apply BitVec.eq_of_getLsbD_eq; intro i hi; simp only [BitVec.getLsbD_and, BitVec.getLsbD_not, hi, decide_true, Bool.true_and, BitVec.getLsbD_zero]; cases w.toBitVec.getLsbD i <;> cases m.toBitVec.getLsbD i <;> rfl
theorem own_hm (w m n : Int32) (t : Nat) (ht : t ≤ 31) (hm : m.toBitVec.toNat = 2 ^ t - 1) (hn : n = ~~~m) : ((w &&& n).toInt - (w.toInt - w.toInt % (2 ^ t : Nat))) % 4294967296 = 0 := by
  subst hn
  have a := c_mask w m t ht hm
  have b := c_iadd (w &&& m) (w &&& ~~~m)
  rw [own_sp, a] at b
  generalize w.toInt % (2 ^ t : Nat) = z at *
  omega
theorem own_hmL (w m n : Int64) (t : Nat) (ht : t ≤ 63) (hm : m.toBitVec.toNat = 2 ^ t - 1) (hn : n = ~~~m) : ((w &&& n).toInt - (w.toInt - w.toInt % (2 ^ t : Nat))) % 18446744073709551616 = 0 := by
  subst hn
  have a := c_maskL w m t ht hm
  have b := c_ladd (w &&& m) (w &&& ~~~m)
  rw [own_spL, a] at b
  generalize w.toInt % (2 ^ t : Nat) = z at *
  omega
theorem own_p4v (y0 y1 y2 y3 : Int32) : ((own_p4 y0 y1 y2 y3).toInt - ((y0.toInt % 256) * 16777216 + (y1.toInt % 256) * 65536 + (y2.toInt % 256) * 256 + y3.toInt % 256)) % 4294967296 = 0 := by
  have m0 : (y0 &&& (255 : Int32)).toInt = y0.toInt % (2 ^ 8 : Nat) := c_mask _ 255 8 (by decide) (by decide)
  have m1 : (y1 &&& (255 : Int32)).toInt = y1.toInt % (2 ^ 8 : Nat) := c_mask _ 255 8 (by decide) (by decide)
  have m2 : (y2 &&& (255 : Int32)).toInt = y2.toInt % (2 ^ 8 : Nat) := c_mask _ 255 8 (by decide) (by decide)
  have m3 : (y3 &&& (255 : Int32)).toInt = y3.toInt % (2 ^ 8 : Nat) := c_mask _ 255 8 (by decide) (by decide)
  have s0 := c_ishl (y0 &&& (255 : Int32)) 24 24 (by decide)
  have s1 := c_ishl (y1 &&& (255 : Int32)) 16 16 (by decide)
  have s2 := c_ishl (y2 &&& (255 : Int32)) 8 8 (by decide)
  have r0 := rng32 ((y0 &&& (255 : Int32)) <<< ((24 : Int32) &&& 31))
  have r1 := rng32 ((y1 &&& (255 : Int32)) <<< ((16 : Int32) &&& 31))
  have r2 := rng32 ((y2 &&& (255 : Int32)) <<< ((8 : Int32) &&& 31))
  unfold own_p4
  generalize (y0 &&& (255 : Int32)) <<< ((24 : Int32) &&& 31) = A at *
  generalize (y1 &&& (255 : Int32)) <<< ((16 : Int32) &&& 31) = B at *
  generalize (y2 &&& (255 : Int32)) <<< ((8 : Int32) &&& 31) = D at *
  generalize (y3 &&& (255 : Int32)) = G at *
  have o1 := c_or A B 24 (by decide) 16777216 (by decide) (by omega) (by omega) (by omega)
  have q1 := rng32 (A ||| B)
  have o2 := c_or (A ||| B) D 16 (by decide) 65536 (by decide) (by omega) (by omega) (by omega)
  have q2 := rng32 ((A ||| B) ||| D)
  have o3 := c_or ((A ||| B) ||| D) G 8 (by decide) 256 (by decide) (by omega) (by omega) (by omega)
  omega
theorem own_p8v (y0 y1 y2 y3 y4 y5 y6 y7 : Int32) : ((own_p8 y0 y1 y2 y3 y4 y5 y6 y7).toInt - ((y0.toInt % 256) * 72057594037927936 + (y1.toInt % 256) * 281474976710656 + (y2.toInt % 256) * 1099511627776 + (y3.toInt % 256) * 4294967296 + (y4.toInt % 256) * 16777216 + (y5.toInt % 256) * 65536 + (y6.toInt % 256) * 256 + (y7.toInt % 256) * 1)) % 18446744073709551616 = 0 := by
  have m0 : (y0.toInt64 &&& (255 : Int64)).toInt = y0.toInt64.toInt % (2 ^ 8 : Nat) := c_maskL _ 255 8 (by decide) (by decide)
  rw [c_i2l] at m0
  have m1 : (y1.toInt64 &&& (255 : Int64)).toInt = y1.toInt64.toInt % (2 ^ 8 : Nat) := c_maskL _ 255 8 (by decide) (by decide)
  rw [c_i2l] at m1
  have m2 : (y2.toInt64 &&& (255 : Int64)).toInt = y2.toInt64.toInt % (2 ^ 8 : Nat) := c_maskL _ 255 8 (by decide) (by decide)
  rw [c_i2l] at m2
  have m3 : (y3.toInt64 &&& (255 : Int64)).toInt = y3.toInt64.toInt % (2 ^ 8 : Nat) := c_maskL _ 255 8 (by decide) (by decide)
  rw [c_i2l] at m3
  have m4 : (y4.toInt64 &&& (255 : Int64)).toInt = y4.toInt64.toInt % (2 ^ 8 : Nat) := c_maskL _ 255 8 (by decide) (by decide)
  rw [c_i2l] at m4
  have m5 : (y5.toInt64 &&& (255 : Int64)).toInt = y5.toInt64.toInt % (2 ^ 8 : Nat) := c_maskL _ 255 8 (by decide) (by decide)
  rw [c_i2l] at m5
  have m6 : (y6.toInt64 &&& (255 : Int64)).toInt = y6.toInt64.toInt % (2 ^ 8 : Nat) := c_maskL _ 255 8 (by decide) (by decide)
  rw [c_i2l] at m6
  have m7 : (y7.toInt64 &&& (255 : Int64)).toInt = y7.toInt64.toInt % (2 ^ 8 : Nat) := c_maskL _ 255 8 (by decide) (by decide)
  rw [c_i2l] at m7
  have s0 := c_lshl (y0.toInt64 &&& (255 : Int64)) 56 56 (by decide)
  have r0 := rng64 ((y0.toInt64 &&& (255 : Int64)) <<< ((56 : Int32) &&& 0x3f).toInt64)
  have s1 := c_lshl (y1.toInt64 &&& (255 : Int64)) 48 48 (by decide)
  have r1 := rng64 ((y1.toInt64 &&& (255 : Int64)) <<< ((48 : Int32) &&& 0x3f).toInt64)
  have s2 := c_lshl (y2.toInt64 &&& (255 : Int64)) 40 40 (by decide)
  have r2 := rng64 ((y2.toInt64 &&& (255 : Int64)) <<< ((40 : Int32) &&& 0x3f).toInt64)
  have s3 := c_lshl (y3.toInt64 &&& (255 : Int64)) 32 32 (by decide)
  have r3 := rng64 ((y3.toInt64 &&& (255 : Int64)) <<< ((32 : Int32) &&& 0x3f).toInt64)
  have s4 := c_lshl (y4.toInt64 &&& (255 : Int64)) 24 24 (by decide)
  have r4 := rng64 ((y4.toInt64 &&& (255 : Int64)) <<< ((24 : Int32) &&& 0x3f).toInt64)
  have s5 := c_lshl (y5.toInt64 &&& (255 : Int64)) 16 16 (by decide)
  have r5 := rng64 ((y5.toInt64 &&& (255 : Int64)) <<< ((16 : Int32) &&& 0x3f).toInt64)
  have s6 := c_lshl (y6.toInt64 &&& (255 : Int64)) 8 8 (by decide)
  have r6 := rng64 ((y6.toInt64 &&& (255 : Int64)) <<< ((8 : Int32) &&& 0x3f).toInt64)
  unfold own_p8
  generalize (y0.toInt64 &&& (255 : Int64)) <<< ((56 : Int32) &&& 0x3f).toInt64 = A0 at *
  generalize (y1.toInt64 &&& (255 : Int64)) <<< ((48 : Int32) &&& 0x3f).toInt64 = A1 at *
  generalize (y2.toInt64 &&& (255 : Int64)) <<< ((40 : Int32) &&& 0x3f).toInt64 = A2 at *
  generalize (y3.toInt64 &&& (255 : Int64)) <<< ((32 : Int32) &&& 0x3f).toInt64 = A3 at *
  generalize (y4.toInt64 &&& (255 : Int64)) <<< ((24 : Int32) &&& 0x3f).toInt64 = A4 at *
  generalize (y5.toInt64 &&& (255 : Int64)) <<< ((16 : Int32) &&& 0x3f).toInt64 = A5 at *
  generalize (y6.toInt64 &&& (255 : Int64)) <<< ((8 : Int32) &&& 0x3f).toInt64 = A6 at *
  generalize (y7.toInt64 &&& (255 : Int64)) = A7 at *
  have o1 := c_orL (A0) A1 56 (by decide) 72057594037927936 (by decide) (by omega) (by omega) (by omega)
  have q1 := rng64 (A0 ||| A1)
  have o2 := c_orL ((A0 ||| A1)) A2 48 (by decide) 281474976710656 (by decide) (by omega) (by omega) (by omega)
  have q2 := rng64 ((A0 ||| A1) ||| A2)
  have o3 := c_orL (((A0 ||| A1) ||| A2)) A3 40 (by decide) 1099511627776 (by decide) (by omega) (by omega) (by omega)
  have q3 := rng64 (((A0 ||| A1) ||| A2) ||| A3)
  have o4 := c_orL ((((A0 ||| A1) ||| A2) ||| A3)) A4 32 (by decide) 4294967296 (by decide) (by omega) (by omega) (by omega)
  have q4 := rng64 ((((A0 ||| A1) ||| A2) ||| A3) ||| A4)
  have o5 := c_orL (((((A0 ||| A1) ||| A2) ||| A3) ||| A4)) A5 24 (by decide) 16777216 (by decide) (by omega) (by omega) (by omega)
  have q5 := rng64 (((((A0 ||| A1) ||| A2) ||| A3) ||| A4) ||| A5)
  have o6 := c_orL ((((((A0 ||| A1) ||| A2) ||| A3) ||| A4) ||| A5)) A6 16 (by decide) 65536 (by decide) (by omega) (by omega) (by omega)
  have q6 := rng64 ((((((A0 ||| A1) ||| A2) ||| A3) ||| A4) ||| A5) ||| A6)
  have o7 := c_orL (((((((A0 ||| A1) ||| A2) ||| A3) ||| A4) ||| A5) ||| A6)) A7 8 (by decide) 256 (by decide) (by omega) (by omega) (by omega)
  omega
theorem own_w4_0 (w : Int32) : own_p4 (own_nb (own_bi w 24) 0 0) (own_nb (own_bi w 16) 0 8) (own_nb (own_bi w 8) 0 16) (own_nb (own_bz w) 0 24) = w &&& (if (0 : Int32) = 0 then 0 else (-1 : Int32) <<< (((32 : Int32) - 0) &&& 31)) := by
  have b0 := own_biv w 24 24 (by decide) (by decide)
  have b1 := own_biv w 16 16 (by decide) (by decide)
  have b2 := own_biv w 8 8 (by decide) (by decide)
  have b3 := own_bzv w
  have n0 := own_nbv (own_bi w 24) 0 0 0 (by decide) b0.2.1 b0.2.2 (by decide)
  have n1 := own_nbv (own_bi w 16) 0 8 0 (by decide) b1.2.1 b1.2.2 (by decide)
  have n2 := own_nbv (own_bi w 8) 0 16 0 (by decide) b2.2.1 b2.2.2 (by decide)
  have n3 := own_nbv (own_bz w) 0 24 0 (by decide) b3.2.1 b3.2.2 (by decide)
  have P := own_p4v (own_nb (own_bi w 24) 0 0) (own_nb (own_bi w 16) 0 8) (own_nb (own_bi w 8) 0 16) (own_nb (own_bz w) 0 24)
  have R1 := rng32 (own_p4 (own_nb (own_bi w 24) 0 0) (own_nb (own_bi w 16) 0 8) (own_nb (own_bi w 8) 0 16) (own_nb (own_bz w) 0 24))
  rw [if_pos (by decide)]
  apply Int32.toInt_inj.mp
  have z : (w &&& (0 : Int32)).toInt = 0 := by rw [Int32.and_zero]; rfl
  rw [z]
  rw [n0, n1, n2, n3] at P
  omega
theorem own_w4_1 (w : Int32) : own_p4 (own_nb (own_bi w 24) 1 0) (own_nb (own_bi w 16) 1 8) (own_nb (own_bi w 8) 1 16) (own_nb (own_bz w) 1 24) = w &&& (if (1 : Int32) = 0 then 0 else (-1 : Int32) <<< (((32 : Int32) - 1) &&& 31)) := by
  have b0 := own_biv w 24 24 (by decide) (by decide)
  have b1 := own_biv w 16 16 (by decide) (by decide)
  have b2 := own_biv w 8 8 (by decide) (by decide)
  have b3 := own_bzv w
  have n0 := own_nbv (own_bi w 24) 1 0 1 (by decide) b0.2.1 b0.2.2 (by decide)
  have n1 := own_nbv (own_bi w 16) 1 8 0 (by decide) b1.2.1 b1.2.2 (by decide)
  have n2 := own_nbv (own_bi w 8) 1 16 0 (by decide) b2.2.1 b2.2.2 (by decide)
  have n3 := own_nbv (own_bz w) 1 24 0 (by decide) b3.2.1 b3.2.2 (by decide)
  have P := own_p4v (own_nb (own_bi w 24) 1 0) (own_nb (own_bi w 16) 1 8) (own_nb (own_bi w 8) 1 16) (own_nb (own_bz w) 1 24)
  have R1 := rng32 (own_p4 (own_nb (own_bi w 24) 1 0) (own_nb (own_bi w 16) 1 8) (own_nb (own_bi w 8) 1 16) (own_nb (own_bz w) 1 24))
  rw [if_neg (by decide)]
  apply Int32.toInt_inj.mp
  have H := own_hm w 2147483647 ((-1 : Int32) <<< (((32 : Int32) - 1) &&& 31)) 31 (by decide) (by decide) (by decide)
  have R2 := rng32 (w &&& ((-1 : Int32) <<< (((32 : Int32) - 1) &&& 31)))
  have R3 := rng32 w
  rw [n0, n1, n2, n3] at P
  omega
theorem own_w4_2 (w : Int32) : own_p4 (own_nb (own_bi w 24) 2 0) (own_nb (own_bi w 16) 2 8) (own_nb (own_bi w 8) 2 16) (own_nb (own_bz w) 2 24) = w &&& (if (2 : Int32) = 0 then 0 else (-1 : Int32) <<< (((32 : Int32) - 2) &&& 31)) := by
  have b0 := own_biv w 24 24 (by decide) (by decide)
  have b1 := own_biv w 16 16 (by decide) (by decide)
  have b2 := own_biv w 8 8 (by decide) (by decide)
  have b3 := own_bzv w
  have n0 := own_nbv (own_bi w 24) 2 0 2 (by decide) b0.2.1 b0.2.2 (by decide)
  have n1 := own_nbv (own_bi w 16) 2 8 0 (by decide) b1.2.1 b1.2.2 (by decide)
  have n2 := own_nbv (own_bi w 8) 2 16 0 (by decide) b2.2.1 b2.2.2 (by decide)
  have n3 := own_nbv (own_bz w) 2 24 0 (by decide) b3.2.1 b3.2.2 (by decide)
  have P := own_p4v (own_nb (own_bi w 24) 2 0) (own_nb (own_bi w 16) 2 8) (own_nb (own_bi w 8) 2 16) (own_nb (own_bz w) 2 24)
  have R1 := rng32 (own_p4 (own_nb (own_bi w 24) 2 0) (own_nb (own_bi w 16) 2 8) (own_nb (own_bi w 8) 2 16) (own_nb (own_bz w) 2 24))
  rw [if_neg (by decide)]
  apply Int32.toInt_inj.mp
  have H := own_hm w 1073741823 ((-1 : Int32) <<< (((32 : Int32) - 2) &&& 31)) 30 (by decide) (by decide) (by decide)
  have R2 := rng32 (w &&& ((-1 : Int32) <<< (((32 : Int32) - 2) &&& 31)))
  have R3 := rng32 w
  rw [n0, n1, n2, n3] at P
  omega
theorem own_w4_3 (w : Int32) : own_p4 (own_nb (own_bi w 24) 3 0) (own_nb (own_bi w 16) 3 8) (own_nb (own_bi w 8) 3 16) (own_nb (own_bz w) 3 24) = w &&& (if (3 : Int32) = 0 then 0 else (-1 : Int32) <<< (((32 : Int32) - 3) &&& 31)) := by
  have b0 := own_biv w 24 24 (by decide) (by decide)
  have b1 := own_biv w 16 16 (by decide) (by decide)
  have b2 := own_biv w 8 8 (by decide) (by decide)
  have b3 := own_bzv w
  have n0 := own_nbv (own_bi w 24) 3 0 3 (by decide) b0.2.1 b0.2.2 (by decide)
  have n1 := own_nbv (own_bi w 16) 3 8 0 (by decide) b1.2.1 b1.2.2 (by decide)
  have n2 := own_nbv (own_bi w 8) 3 16 0 (by decide) b2.2.1 b2.2.2 (by decide)
  have n3 := own_nbv (own_bz w) 3 24 0 (by decide) b3.2.1 b3.2.2 (by decide)
  have P := own_p4v (own_nb (own_bi w 24) 3 0) (own_nb (own_bi w 16) 3 8) (own_nb (own_bi w 8) 3 16) (own_nb (own_bz w) 3 24)
  have R1 := rng32 (own_p4 (own_nb (own_bi w 24) 3 0) (own_nb (own_bi w 16) 3 8) (own_nb (own_bi w 8) 3 16) (own_nb (own_bz w) 3 24))
  rw [if_neg (by decide)]
  apply Int32.toInt_inj.mp
  have H := own_hm w 536870911 ((-1 : Int32) <<< (((32 : Int32) - 3) &&& 31)) 29 (by decide) (by decide) (by decide)
  have R2 := rng32 (w &&& ((-1 : Int32) <<< (((32 : Int32) - 3) &&& 31)))
  have R3 := rng32 w
  rw [n0, n1, n2, n3] at P
  omega
theorem own_w4_4 (w : Int32) : own_p4 (own_nb (own_bi w 24) 4 0) (own_nb (own_bi w 16) 4 8) (own_nb (own_bi w 8) 4 16) (own_nb (own_bz w) 4 24) = w &&& (if (4 : Int32) = 0 then 0 else (-1 : Int32) <<< (((32 : Int32) - 4) &&& 31)) := by
  have b0 := own_biv w 24 24 (by decide) (by decide)
  have b1 := own_biv w 16 16 (by decide) (by decide)
  have b2 := own_biv w 8 8 (by decide) (by decide)
  have b3 := own_bzv w
  have n0 := own_nbv (own_bi w 24) 4 0 4 (by decide) b0.2.1 b0.2.2 (by decide)
  have n1 := own_nbv (own_bi w 16) 4 8 0 (by decide) b1.2.1 b1.2.2 (by decide)
  have n2 := own_nbv (own_bi w 8) 4 16 0 (by decide) b2.2.1 b2.2.2 (by decide)
  have n3 := own_nbv (own_bz w) 4 24 0 (by decide) b3.2.1 b3.2.2 (by decide)
  have P := own_p4v (own_nb (own_bi w 24) 4 0) (own_nb (own_bi w 16) 4 8) (own_nb (own_bi w 8) 4 16) (own_nb (own_bz w) 4 24)
  have R1 := rng32 (own_p4 (own_nb (own_bi w 24) 4 0) (own_nb (own_bi w 16) 4 8) (own_nb (own_bi w 8) 4 16) (own_nb (own_bz w) 4 24))
  rw [if_neg (by decide)]
  apply Int32.toInt_inj.mp
  have H := own_hm w 268435455 ((-1 : Int32) <<< (((32 : Int32) - 4) &&& 31)) 28 (by decide) (by decide) (by decide)
  have R2 := rng32 (w &&& ((-1 : Int32) <<< (((32 : Int32) - 4) &&& 31)))
  have R3 := rng32 w
  rw [n0, n1, n2, n3] at P
  omega
theorem own_w4_5 (w : Int32) : own_p4 (own_nb (own_bi w 24) 5 0) (own_nb (own_bi w 16) 5 8) (own_nb (own_bi w 8) 5 16) (own_nb (own_bz w) 5 24) = w &&& (if (5 : Int32) = 0 then 0 else (-1 : Int32) <<< (((32 : Int32) - 5) &&& 31)) := by
  have b0 := own_biv w 24 24 (by decide) (by decide)
  have b1 := own_biv w 16 16 (by decide) (by decide)
  have b2 := own_biv w 8 8 (by decide) (by decide)
  have b3 := own_bzv w
  have n0 := own_nbv (own_bi w 24) 5 0 5 (by decide) b0.2.1 b0.2.2 (by decide)
  have n1 := own_nbv (own_bi w 16) 5 8 0 (by decide) b1.2.1 b1.2.2 (by decide)
  have n2 := own_nbv (own_bi w 8) 5 16 0 (by decide) b2.2.1 b2.2.2 (by decide)
  have n3 := own_nbv (own_bz w) 5 24 0 (by decide) b3.2.1 b3.2.2 (by decide)
  have P := own_p4v (own_nb (own_bi w 24) 5 0) (own_nb (own_bi w 16) 5 8) (own_nb (own_bi w 8) 5 16) (own_nb (own_bz w) 5 24)
  have R1 := rng32 (own_p4 (own_nb (own_bi w 24) 5 0) (own_nb (own_bi w 16) 5 8) (own_nb (own_bi w 8) 5 16) (own_nb (own_bz w) 5 24))
  rw [if_neg (by decide)]
  apply Int32.toInt_inj.mp
  have H := own_hm w 134217727 ((-1 : Int32) <<< (((32 : Int32) - 5) &&& 31)) 27 (by decide) (by decide) (by decide)
  have R2 := rng32 (w &&& ((-1 : Int32) <<< (((32 : Int32) - 5) &&& 31)))
  have R3 := rng32 w
  rw [n0, n1, n2, n3] at P
  omega
theorem own_w4_6 (w : Int32) : own_p4 (own_nb (own_bi w 24) 6 0) (own_nb (own_bi w 16) 6 8) (own_nb (own_bi w 8) 6 16) (own_nb (own_bz w) 6 24) = w &&& (if (6 : Int32) = 0 then 0 else (-1 : Int32) <<< (((32 : Int32) - 6) &&& 31)) := by
  have b0 := own_biv w 24 24 (by decide) (by decide)
  have b1 := own_biv w 16 16 (by decide) (by decide)
  have b2 := own_biv w 8 8 (by decide) (by decide)
  have b3 := own_bzv w
  have n0 := own_nbv (own_bi w 24) 6 0 6 (by decide) b0.2.1 b0.2.2 (by decide)
  have n1 := own_nbv (own_bi w 16) 6 8 0 (by decide) b1.2.1 b1.2.2 (by decide)
  have n2 := own_nbv (own_bi w 8) 6 16 0 (by decide) b2.2.1 b2.2.2 (by decide)
  have n3 := own_nbv (own_bz w) 6 24 0 (by decide) b3.2.1 b3.2.2 (by decide)
  have P := own_p4v (own_nb (own_bi w 24) 6 0) (own_nb (own_bi w 16) 6 8) (own_nb (own_bi w 8) 6 16) (own_nb (own_bz w) 6 24)
  have R1 := rng32 (own_p4 (own_nb (own_bi w 24) 6 0) (own_nb (own_bi w 16) 6 8) (own_nb (own_bi w 8) 6 16) (own_nb (own_bz w) 6 24))
  rw [if_neg (by decide)]
  apply Int32.toInt_inj.mp
  have H := own_hm w 67108863 ((-1 : Int32) <<< (((32 : Int32) - 6) &&& 31)) 26 (by decide) (by decide) (by decide)
  have R2 := rng32 (w &&& ((-1 : Int32) <<< (((32 : Int32) - 6) &&& 31)))
  have R3 := rng32 w
  rw [n0, n1, n2, n3] at P
  omega
theorem own_w4_7 (w : Int32) : own_p4 (own_nb (own_bi w 24) 7 0) (own_nb (own_bi w 16) 7 8) (own_nb (own_bi w 8) 7 16) (own_nb (own_bz w) 7 24) = w &&& (if (7 : Int32) = 0 then 0 else (-1 : Int32) <<< (((32 : Int32) - 7) &&& 31)) := by
  have b0 := own_biv w 24 24 (by decide) (by decide)
  have b1 := own_biv w 16 16 (by decide) (by decide)
  have b2 := own_biv w 8 8 (by decide) (by decide)
  have b3 := own_bzv w
  have n0 := own_nbv (own_bi w 24) 7 0 7 (by decide) b0.2.1 b0.2.2 (by decide)
  have n1 := own_nbv (own_bi w 16) 7 8 0 (by decide) b1.2.1 b1.2.2 (by decide)
  have n2 := own_nbv (own_bi w 8) 7 16 0 (by decide) b2.2.1 b2.2.2 (by decide)
  have n3 := own_nbv (own_bz w) 7 24 0 (by decide) b3.2.1 b3.2.2 (by decide)
  have P := own_p4v (own_nb (own_bi w 24) 7 0) (own_nb (own_bi w 16) 7 8) (own_nb (own_bi w 8) 7 16) (own_nb (own_bz w) 7 24)
  have R1 := rng32 (own_p4 (own_nb (own_bi w 24) 7 0) (own_nb (own_bi w 16) 7 8) (own_nb (own_bi w 8) 7 16) (own_nb (own_bz w) 7 24))
  rw [if_neg (by decide)]
  apply Int32.toInt_inj.mp
  have H := own_hm w 33554431 ((-1 : Int32) <<< (((32 : Int32) - 7) &&& 31)) 25 (by decide) (by decide) (by decide)
  have R2 := rng32 (w &&& ((-1 : Int32) <<< (((32 : Int32) - 7) &&& 31)))
  have R3 := rng32 w
  rw [n0, n1, n2, n3] at P
  omega
theorem own_w4_8 (w : Int32) : own_p4 (own_nb (own_bi w 24) 8 0) (own_nb (own_bi w 16) 8 8) (own_nb (own_bi w 8) 8 16) (own_nb (own_bz w) 8 24) = w &&& (if (8 : Int32) = 0 then 0 else (-1 : Int32) <<< (((32 : Int32) - 8) &&& 31)) := by
  have b0 := own_biv w 24 24 (by decide) (by decide)
  have b1 := own_biv w 16 16 (by decide) (by decide)
  have b2 := own_biv w 8 8 (by decide) (by decide)
  have b3 := own_bzv w
  have n0 := own_nbv (own_bi w 24) 8 0 8 (by decide) b0.2.1 b0.2.2 (by decide)
  have n1 := own_nbv (own_bi w 16) 8 8 0 (by decide) b1.2.1 b1.2.2 (by decide)
  have n2 := own_nbv (own_bi w 8) 8 16 0 (by decide) b2.2.1 b2.2.2 (by decide)
  have n3 := own_nbv (own_bz w) 8 24 0 (by decide) b3.2.1 b3.2.2 (by decide)
  have P := own_p4v (own_nb (own_bi w 24) 8 0) (own_nb (own_bi w 16) 8 8) (own_nb (own_bi w 8) 8 16) (own_nb (own_bz w) 8 24)
  have R1 := rng32 (own_p4 (own_nb (own_bi w 24) 8 0) (own_nb (own_bi w 16) 8 8) (own_nb (own_bi w 8) 8 16) (own_nb (own_bz w) 8 24))
  rw [if_neg (by decide)]
  apply Int32.toInt_inj.mp
  have H := own_hm w 16777215 ((-1 : Int32) <<< (((32 : Int32) - 8) &&& 31)) 24 (by decide) (by decide) (by decide)
  have R2 := rng32 (w &&& ((-1 : Int32) <<< (((32 : Int32) - 8) &&& 31)))
  have R3 := rng32 w
  rw [n0, n1, n2, n3] at P
  omega
theorem own_w4_9 (w : Int32) : own_p4 (own_nb (own_bi w 24) 9 0) (own_nb (own_bi w 16) 9 8) (own_nb (own_bi w 8) 9 16) (own_nb (own_bz w) 9 24) = w &&& (if (9 : Int32) = 0 then 0 else (-1 : Int32) <<< (((32 : Int32) - 9) &&& 31)) := by
  have b0 := own_biv w 24 24 (by decide) (by decide)
  have b1 := own_biv w 16 16 (by decide) (by decide)
  have b2 := own_biv w 8 8 (by decide) (by decide)
  have b3 := own_bzv w
  have n0 := own_nbv (own_bi w 24) 9 0 8 (by decide) b0.2.1 b0.2.2 (by decide)
  have n1 := own_nbv (own_bi w 16) 9 8 1 (by decide) b1.2.1 b1.2.2 (by decide)
  have n2 := own_nbv (own_bi w 8) 9 16 0 (by decide) b2.2.1 b2.2.2 (by decide)
  have n3 := own_nbv (own_bz w) 9 24 0 (by decide) b3.2.1 b3.2.2 (by decide)
  have P := own_p4v (own_nb (own_bi w 24) 9 0) (own_nb (own_bi w 16) 9 8) (own_nb (own_bi w 8) 9 16) (own_nb (own_bz w) 9 24)
  have R1 := rng32 (own_p4 (own_nb (own_bi w 24) 9 0) (own_nb (own_bi w 16) 9 8) (own_nb (own_bi w 8) 9 16) (own_nb (own_bz w) 9 24))
  rw [if_neg (by decide)]
  apply Int32.toInt_inj.mp
  have H := own_hm w 8388607 ((-1 : Int32) <<< (((32 : Int32) - 9) &&& 31)) 23 (by decide) (by decide) (by decide)
  have R2 := rng32 (w &&& ((-1 : Int32) <<< (((32 : Int32) - 9) &&& 31)))
  have R3 := rng32 w
  rw [n0, n1, n2, n3] at P
  omega
theorem own_w4_10 (w : Int32) : own_p4 (own_nb (own_bi w 24) 10 0) (own_nb (own_bi w 16) 10 8) (own_nb (own_bi w 8) 10 16) (own_nb (own_bz w) 10 24) = w &&& (if (10 : Int32) = 0 then 0 else (-1 : Int32) <<< (((32 : Int32) - 10) &&& 31)) := by
  have b0 := own_biv w 24 24 (by decide) (by decide)
  have b1 := own_biv w 16 16 (by decide) (by decide)
  have b2 := own_biv w 8 8 (by decide) (by decide)
  have b3 := own_bzv w
  have n0 := own_nbv (own_bi w 24) 10 0 8 (by decide) b0.2.1 b0.2.2 (by decide)
  have n1 := own_nbv (own_bi w 16) 10 8 2 (by decide) b1.2.1 b1.2.2 (by decide)
  have n2 := own_nbv (own_bi w 8) 10 16 0 (by decide) b2.2.1 b2.2.2 (by decide)
  have n3 := own_nbv (own_bz w) 10 24 0 (by decide) b3.2.1 b3.2.2 (by decide)
  have P := own_p4v (own_nb (own_bi w 24) 10 0) (own_nb (own_bi w 16) 10 8) (own_nb (own_bi w 8) 10 16) (own_nb (own_bz w) 10 24)
  have R1 := rng32 (own_p4 (own_nb (own_bi w 24) 10 0) (own_nb (own_bi w 16) 10 8) (own_nb (own_bi w 8) 10 16) (own_nb (own_bz w) 10 24))
  rw [if_neg (by decide)]
  apply Int32.toInt_inj.mp
  have H := own_hm w 4194303 ((-1 : Int32) <<< (((32 : Int32) - 10) &&& 31)) 22 (by decide) (by decide) (by decide)
  have R2 := rng32 (w &&& ((-1 : Int32) <<< (((32 : Int32) - 10) &&& 31)))
  have R3 := rng32 w
  rw [n0, n1, n2, n3] at P
  omega
theorem own_w4_11 (w : Int32) : own_p4 (own_nb (own_bi w 24) 11 0) (own_nb (own_bi w 16) 11 8) (own_nb (own_bi w 8) 11 16) (own_nb (own_bz w) 11 24) = w &&& (if (11 : Int32) = 0 then 0 else (-1 : Int32) <<< (((32 : Int32) - 11) &&& 31)) := by
  have b0 := own_biv w 24 24 (by decide) (by decide)
  have b1 := own_biv w 16 16 (by decide) (by decide)
  have b2 := own_biv w 8 8 (by decide) (by decide)
  have b3 := own_bzv w
  have n0 := own_nbv (own_bi w 24) 11 0 8 (by decide) b0.2.1 b0.2.2 (by decide)
  have n1 := own_nbv (own_bi w 16) 11 8 3 (by decide) b1.2.1 b1.2.2 (by decide)
  have n2 := own_nbv (own_bi w 8) 11 16 0 (by decide) b2.2.1 b2.2.2 (by decide)
  have n3 := own_nbv (own_bz w) 11 24 0 (by decide) b3.2.1 b3.2.2 (by decide)
  have P := own_p4v (own_nb (own_bi w 24) 11 0) (own_nb (own_bi w 16) 11 8) (own_nb (own_bi w 8) 11 16) (own_nb (own_bz w) 11 24)
  have R1 := rng32 (own_p4 (own_nb (own_bi w 24) 11 0) (own_nb (own_bi w 16) 11 8) (own_nb (own_bi w 8) 11 16) (own_nb (own_bz w) 11 24))
  rw [if_neg (by decide)]
  apply Int32.toInt_inj.mp
  have H := own_hm w 2097151 ((-1 : Int32) <<< (((32 : Int32) - 11) &&& 31)) 21 (by decide) (by decide) (by decide)
  have R2 := rng32 (w &&& ((-1 : Int32) <<< (((32 : Int32) - 11) &&& 31)))
  have R3 := rng32 w
  rw [n0, n1, n2, n3] at P
  omega
theorem own_w4_12 (w : Int32) : own_p4 (own_nb (own_bi w 24) 12 0) (own_nb (own_bi w 16) 12 8) (own_nb (own_bi w 8) 12 16) (own_nb (own_bz w) 12 24) = w &&& (if (12 : Int32) = 0 then 0 else (-1 : Int32) <<< (((32 : Int32) - 12) &&& 31)) := by
  have b0 := own_biv w 24 24 (by decide) (by decide)
  have b1 := own_biv w 16 16 (by decide) (by decide)
  have b2 := own_biv w 8 8 (by decide) (by decide)
  have b3 := own_bzv w
  have n0 := own_nbv (own_bi w 24) 12 0 8 (by decide) b0.2.1 b0.2.2 (by decide)
  have n1 := own_nbv (own_bi w 16) 12 8 4 (by decide) b1.2.1 b1.2.2 (by decide)
  have n2 := own_nbv (own_bi w 8) 12 16 0 (by decide) b2.2.1 b2.2.2 (by decide)
  have n3 := own_nbv (own_bz w) 12 24 0 (by decide) b3.2.1 b3.2.2 (by decide)
  have P := own_p4v (own_nb (own_bi w 24) 12 0) (own_nb (own_bi w 16) 12 8) (own_nb (own_bi w 8) 12 16) (own_nb (own_bz w) 12 24)
  have R1 := rng32 (own_p4 (own_nb (own_bi w 24) 12 0) (own_nb (own_bi w 16) 12 8) (own_nb (own_bi w 8) 12 16) (own_nb (own_bz w) 12 24))
  rw [if_neg (by decide)]
  apply Int32.toInt_inj.mp
  have H := own_hm w 1048575 ((-1 : Int32) <<< (((32 : Int32) - 12) &&& 31)) 20 (by decide) (by decide) (by decide)
  have R2 := rng32 (w &&& ((-1 : Int32) <<< (((32 : Int32) - 12) &&& 31)))
  have R3 := rng32 w
  rw [n0, n1, n2, n3] at P
  omega
theorem own_w4_13 (w : Int32) : own_p4 (own_nb (own_bi w 24) 13 0) (own_nb (own_bi w 16) 13 8) (own_nb (own_bi w 8) 13 16) (own_nb (own_bz w) 13 24) = w &&& (if (13 : Int32) = 0 then 0 else (-1 : Int32) <<< (((32 : Int32) - 13) &&& 31)) := by
  have b0 := own_biv w 24 24 (by decide) (by decide)
  have b1 := own_biv w 16 16 (by decide) (by decide)
  have b2 := own_biv w 8 8 (by decide) (by decide)
  have b3 := own_bzv w
  have n0 := own_nbv (own_bi w 24) 13 0 8 (by decide) b0.2.1 b0.2.2 (by decide)
  have n1 := own_nbv (own_bi w 16) 13 8 5 (by decide) b1.2.1 b1.2.2 (by decide)
  have n2 := own_nbv (own_bi w 8) 13 16 0 (by decide) b2.2.1 b2.2.2 (by decide)
  have n3 := own_nbv (own_bz w) 13 24 0 (by decide) b3.2.1 b3.2.2 (by decide)
  have P := own_p4v (own_nb (own_bi w 24) 13 0) (own_nb (own_bi w 16) 13 8) (own_nb (own_bi w 8) 13 16) (own_nb (own_bz w) 13 24)
  have R1 := rng32 (own_p4 (own_nb (own_bi w 24) 13 0) (own_nb (own_bi w 16) 13 8) (own_nb (own_bi w 8) 13 16) (own_nb (own_bz w) 13 24))
  rw [if_neg (by decide)]
  apply Int32.toInt_inj.mp
  have H := own_hm w 524287 ((-1 : Int32) <<< (((32 : Int32) - 13) &&& 31)) 19 (by decide) (by decide) (by decide)
  have R2 := rng32 (w &&& ((-1 : Int32) <<< (((32 : Int32) - 13) &&& 31)))
  have R3 := rng32 w
  rw [n0, n1, n2, n3] at P
  omega
theorem own_w4_14 (w : Int32) : own_p4 (own_nb (own_bi w 24) 14 0) (own_nb (own_bi w 16) 14 8) (own_nb (own_bi w 8) 14 16) (own_nb (own_bz w) 14 24) = w &&& (if (14 : Int32) = 0 then 0 else (-1 : Int32) <<< (((32 : Int32) - 14) &&& 31)) := by
  have b0 := own_biv w 24 24 (by decide) (by decide)
  have b1 := own_biv w 16 16 (by decide) (by decide)
  have b2 := own_biv w 8 8 (by decide) (by decide)
  have b3 := own_bzv w
  have n0 := own_nbv (own_bi w 24) 14 0 8 (by decide) b0.2.1 b0.2.2 (by decide)
  have n1 := own_nbv (own_bi w 16) 14 8 6 (by decide) b1.2.1 b1.2.2 (by decide)
  have n2 := own_nbv (own_bi w 8) 14 16 0 (by decide) b2.2.1 b2.2.2 (by decide)
  have n3 := own_nbv (own_bz w) 14 24 0 (by decide) b3.2.1 b3.2.2 (by decide)
  have P := own_p4v (own_nb (own_bi w 24) 14 0) (own_nb (own_bi w 16) 14 8) (own_nb (own_bi w 8) 14 16) (own_nb (own_bz w) 14 24)
  have R1 := rng32 (own_p4 (own_nb (own_bi w 24) 14 0) (own_nb (own_bi w 16) 14 8) (own_nb (own_bi w 8) 14 16) (own_nb (own_bz w) 14 24))
  rw [if_neg (by decide)]
  apply Int32.toInt_inj.mp
  have H := own_hm w 262143 ((-1 : Int32) <<< (((32 : Int32) - 14) &&& 31)) 18 (by decide) (by decide) (by decide)
  have R2 := rng32 (w &&& ((-1 : Int32) <<< (((32 : Int32) - 14) &&& 31)))
  have R3 := rng32 w
  rw [n0, n1, n2, n3] at P
  omega
theorem own_w4_15 (w : Int32) : own_p4 (own_nb (own_bi w 24) 15 0) (own_nb (own_bi w 16) 15 8) (own_nb (own_bi w 8) 15 16) (own_nb (own_bz w) 15 24) = w &&& (if (15 : Int32) = 0 then 0 else (-1 : Int32) <<< (((32 : Int32) - 15) &&& 31)) := by
  have b0 := own_biv w 24 24 (by decide) (by decide)
  have b1 := own_biv w 16 16 (by decide) (by decide)
  have b2 := own_biv w 8 8 (by decide) (by decide)
  have b3 := own_bzv w
  have n0 := own_nbv (own_bi w 24) 15 0 8 (by decide) b0.2.1 b0.2.2 (by decide)
  have n1 := own_nbv (own_bi w 16) 15 8 7 (by decide) b1.2.1 b1.2.2 (by decide)
  have n2 := own_nbv (own_bi w 8) 15 16 0 (by decide) b2.2.1 b2.2.2 (by decide)
  have n3 := own_nbv (own_bz w) 15 24 0 (by decide) b3.2.1 b3.2.2 (by decide)
  have P := own_p4v (own_nb (own_bi w 24) 15 0) (own_nb (own_bi w 16) 15 8) (own_nb (own_bi w 8) 15 16) (own_nb (own_bz w) 15 24)
  have R1 := rng32 (own_p4 (own_nb (own_bi w 24) 15 0) (own_nb (own_bi w 16) 15 8) (own_nb (own_bi w 8) 15 16) (own_nb (own_bz w) 15 24))
  rw [if_neg (by decide)]
  apply Int32.toInt_inj.mp
  have H := own_hm w 131071 ((-1 : Int32) <<< (((32 : Int32) - 15) &&& 31)) 17 (by decide) (by decide) (by decide)
  have R2 := rng32 (w &&& ((-1 : Int32) <<< (((32 : Int32) - 15) &&& 31)))
  have R3 := rng32 w
  rw [n0, n1, n2, n3] at P
  omega
theorem own_w4_16 (w : Int32) : own_p4 (own_nb (own_bi w 24) 16 0) (own_nb (own_bi w 16) 16 8) (own_nb (own_bi w 8) 16 16) (own_nb (own_bz w) 16 24) = w &&& (if (16 : Int32) = 0 then 0 else (-1 : Int32) <<< (((32 : Int32) - 16) &&& 31)) := by
  have b0 := own_biv w 24 24 (by decide) (by decide)
  have b1 := own_biv w 16 16 (by decide) (by decide)
  have b2 := own_biv w 8 8 (by decide) (by decide)
  have b3 := own_bzv w
  have n0 := own_nbv (own_bi w 24) 16 0 8 (by decide) b0.2.1 b0.2.2 (by decide)
  have n1 := own_nbv (own_bi w 16) 16 8 8 (by decide) b1.2.1 b1.2.2 (by decide)
  have n2 := own_nbv (own_bi w 8) 16 16 0 (by decide) b2.2.1 b2.2.2 (by decide)
  have n3 := own_nbv (own_bz w) 16 24 0 (by decide) b3.2.1 b3.2.2 (by decide)
  have P := own_p4v (own_nb (own_bi w 24) 16 0) (own_nb (own_bi w 16) 16 8) (own_nb (own_bi w 8) 16 16) (own_nb (own_bz w) 16 24)
  have R1 := rng32 (own_p4 (own_nb (own_bi w 24) 16 0) (own_nb (own_bi w 16) 16 8) (own_nb (own_bi w 8) 16 16) (own_nb (own_bz w) 16 24))
  rw [if_neg (by decide)]
  apply Int32.toInt_inj.mp
  have H := own_hm w 65535 ((-1 : Int32) <<< (((32 : Int32) - 16) &&& 31)) 16 (by decide) (by decide) (by decide)
  have R2 := rng32 (w &&& ((-1 : Int32) <<< (((32 : Int32) - 16) &&& 31)))
  have R3 := rng32 w
  rw [n0, n1, n2, n3] at P
  omega
theorem own_w4_17 (w : Int32) : own_p4 (own_nb (own_bi w 24) 17 0) (own_nb (own_bi w 16) 17 8) (own_nb (own_bi w 8) 17 16) (own_nb (own_bz w) 17 24) = w &&& (if (17 : Int32) = 0 then 0 else (-1 : Int32) <<< (((32 : Int32) - 17) &&& 31)) := by
  have b0 := own_biv w 24 24 (by decide) (by decide)
  have b1 := own_biv w 16 16 (by decide) (by decide)
  have b2 := own_biv w 8 8 (by decide) (by decide)
  have b3 := own_bzv w
  have n0 := own_nbv (own_bi w 24) 17 0 8 (by decide) b0.2.1 b0.2.2 (by decide)
  have n1 := own_nbv (own_bi w 16) 17 8 8 (by decide) b1.2.1 b1.2.2 (by decide)
  have n2 := own_nbv (own_bi w 8) 17 16 1 (by decide) b2.2.1 b2.2.2 (by decide)
  have n3 := own_nbv (own_bz w) 17 24 0 (by decide) b3.2.1 b3.2.2 (by decide)
  have P := own_p4v (own_nb (own_bi w 24) 17 0) (own_nb (own_bi w 16) 17 8) (own_nb (own_bi w 8) 17 16) (own_nb (own_bz w) 17 24)
  have R1 := rng32 (own_p4 (own_nb (own_bi w 24) 17 0) (own_nb (own_bi w 16) 17 8) (own_nb (own_bi w 8) 17 16) (own_nb (own_bz w) 17 24))
  rw [if_neg (by decide)]
  apply Int32.toInt_inj.mp
  have H := own_hm w 32767 ((-1 : Int32) <<< (((32 : Int32) - 17) &&& 31)) 15 (by decide) (by decide) (by decide)
  have R2 := rng32 (w &&& ((-1 : Int32) <<< (((32 : Int32) - 17) &&& 31)))
  have R3 := rng32 w
  rw [n0, n1, n2, n3] at P
  omega
theorem own_w4_18 (w : Int32) : own_p4 (own_nb (own_bi w 24) 18 0) (own_nb (own_bi w 16) 18 8) (own_nb (own_bi w 8) 18 16) (own_nb (own_bz w) 18 24) = w &&& (if (18 : Int32) = 0 then 0 else (-1 : Int32) <<< (((32 : Int32) - 18) &&& 31)) := by
  have b0 := own_biv w 24 24 (by decide) (by decide)
  have b1 := own_biv w 16 16 (by decide) (by decide)
  have b2 := own_biv w 8 8 (by decide) (by decide)
  have b3 := own_bzv w
  have n0 := own_nbv (own_bi w 24) 18 0 8 (by decide) b0.2.1 b0.2.2 (by decide)
  have n1 := own_nbv (own_bi w 16) 18 8 8 (by decide) b1.2.1 b1.2.2 (by decide)
  have n2 := own_nbv (own_bi w 8) 18 16 2 (by decide) b2.2.1 b2.2.2 (by decide)
  have n3 := own_nbv (own_bz w) 18 24 0 (by decide) b3.2.1 b3.2.2 (by decide)
  have P := own_p4v (own_nb (own_bi w 24) 18 0) (own_nb (own_bi w 16) 18 8) (own_nb (own_bi w 8) 18 16) (own_nb (own_bz w) 18 24)
  have R1 := rng32 (own_p4 (own_nb (own_bi w 24) 18 0) (own_nb (own_bi w 16) 18 8) (own_nb (own_bi w 8) 18 16) (own_nb (own_bz w) 18 24))
  rw [if_neg (by decide)]
  apply Int32.toInt_inj.mp
  have H := own_hm w 16383 ((-1 : Int32) <<< (((32 : Int32) - 18) &&& 31)) 14 (by decide) (by decide) (by decide)
  have R2 := rng32 (w &&& ((-1 : Int32) <<< (((32 : Int32) - 18) &&& 31)))
  have R3 := rng32 w
  rw [n0, n1, n2, n3] at P
  omega
theorem own_w4_19 (w : Int32) : own_p4 (own_nb (own_bi w 24) 19 0) (own_nb (own_bi w 16) 19 8) (own_nb (own_bi w 8) 19 16) (own_nb (own_bz w) 19 24) = w &&& (if (19 : Int32) = 0 then 0 else (-1 : Int32) <<< (((32 : Int32) - 19) &&& 31)) := by
  have b0 := own_biv w 24 24 (by decide) (by decide)
  have b1 := own_biv w 16 16 (by decide) (by decide)
  have b2 := own_biv w 8 8 (by decide) (by decide)
  have b3 := own_bzv w
  have n0 := own_nbv (own_bi w 24) 19 0 8 (by decide) b0.2.1 b0.2.2 (by decide)
  have n1 := own_nbv (own_bi w 16) 19 8 8 (by decide) b1.2.1 b1.2.2 (by decide)
  have n2 := own_nbv (own_bi w 8) 19 16 3 (by decide) b2.2.1 b2.2.2 (by decide)
  have n3 := own_nbv (own_bz w) 19 24 0 (by decide) b3.2.1 b3.2.2 (by decide)
  have P := own_p4v (own_nb (own_bi w 24) 19 0) (own_nb (own_bi w 16) 19 8) (own_nb (own_bi w 8) 19 16) (own_nb (own_bz w) 19 24)
  have R1 := rng32 (own_p4 (own_nb (own_bi w 24) 19 0) (own_nb (own_bi w 16) 19 8) (own_nb (own_bi w 8) 19 16) (own_nb (own_bz w) 19 24))
  rw [if_neg (by decide)]
  apply Int32.toInt_inj.mp
  have H := own_hm w 8191 ((-1 : Int32) <<< (((32 : Int32) - 19) &&& 31)) 13 (by decide) (by decide) (by decide)
  have R2 := rng32 (w &&& ((-1 : Int32) <<< (((32 : Int32) - 19) &&& 31)))
  have R3 := rng32 w
  rw [n0, n1, n2, n3] at P
  omega
theorem own_w4_20 (w : Int32) : own_p4 (own_nb (own_bi w 24) 20 0) (own_nb (own_bi w 16) 20 8) (own_nb (own_bi w 8) 20 16) (own_nb (own_bz w) 20 24) = w &&& (if (20 : Int32) = 0 then 0 else (-1 : Int32) <<< (((32 : Int32) - 20) &&& 31)) := by
  have b0 := own_biv w 24 24 (by decide) (by decide)
  have b1 := own_biv w 16 16 (by decide) (by decide)
  have b2 := own_biv w 8 8 (by decide) (by decide)
  have b3 := own_bzv w
  have n0 := own_nbv (own_bi w 24) 20 0 8 (by decide) b0.2.1 b0.2.2 (by decide)
  have n1 := own_nbv (own_bi w 16) 20 8 8 (by decide) b1.2.1 b1.2.2 (by decide)
  have n2 := own_nbv (own_bi w 8) 20 16 4 (by decide) b2.2.1 b2.2.2 (by decide)
  have n3 := own_nbv (own_bz w) 20 24 0 (by decide) b3.2.1 b3.2.2 (by decide)
  have P := own_p4v (own_nb (own_bi w 24) 20 0) (own_nb (own_bi w 16) 20 8) (own_nb (own_bi w 8) 20 16) (own_nb (own_bz w) 20 24)
  have R1 := rng32 (own_p4 (own_nb (own_bi w 24) 20 0) (own_nb (own_bi w 16) 20 8) (own_nb (own_bi w 8) 20 16) (own_nb (own_bz w) 20 24))
  rw [if_neg (by decide)]
  apply Int32.toInt_inj.mp
  have H := own_hm w 4095 ((-1 : Int32) <<< (((32 : Int32) - 20) &&& 31)) 12 (by decide) (by decide) (by decide)
  have R2 := rng32 (w &&& ((-1 : Int32) <<< (((32 : Int32) - 20) &&& 31)))
  have R3 := rng32 w
  rw [n0, n1, n2, n3] at P
  omega
theorem own_w4_21 (w : Int32) : own_p4 (own_nb (own_bi w 24) 21 0) (own_nb (own_bi w 16) 21 8) (own_nb (own_bi w 8) 21 16) (own_nb (own_bz w) 21 24) = w &&& (if (21 : Int32) = 0 then 0 else (-1 : Int32) <<< (((32 : Int32) - 21) &&& 31)) := by
  have b0 := own_biv w 24 24 (by decide) (by decide)
  have b1 := own_biv w 16 16 (by decide) (by decide)
  have b2 := own_biv w 8 8 (by decide) (by decide)
  have b3 := own_bzv w
  have n0 := own_nbv (own_bi w 24) 21 0 8 (by decide) b0.2.1 b0.2.2 (by decide)
  have n1 := own_nbv (own_bi w 16) 21 8 8 (by decide) b1.2.1 b1.2.2 (by decide)
  have n2 := own_nbv (own_bi w 8) 21 16 5 (by decide) b2.2.1 b2.2.2 (by decide)
  have n3 := own_nbv (own_bz w) 21 24 0 (by decide) b3.2.1 b3.2.2 (by decide)
  have P := own_p4v (own_nb (own_bi w 24) 21 0) (own_nb (own_bi w 16) 21 8) (own_nb (own_bi w 8) 21 16) (own_nb (own_bz w) 21 24)
  have R1 := rng32 (own_p4 (own_nb (own_bi w 24) 21 0) (own_nb (own_bi w 16) 21 8) (own_nb (own_bi w 8) 21 16) (own_nb (own_bz w) 21 24))
  rw [if_neg (by decide)]
  apply Int32.toInt_inj.mp
  have H := own_hm w 2047 ((-1 : Int32) <<< (((32 : Int32) - 21) &&& 31)) 11 (by decide) (by decide) (by decide)
  have R2 := rng32 (w &&& ((-1 : Int32) <<< (((32 : Int32) - 21) &&& 31)))
  have R3 := rng32 w
  rw [n0, n1, n2, n3] at P
  omega
theorem own_w4_22 (w : Int32) : own_p4 (own_nb (own_bi w 24) 22 0) (own_nb (own_bi w 16) 22 8) (own_nb (own_bi w 8) 22 16) (own_nb (own_bz w) 22 24) = w &&& (if (22 : Int32) = 0 then 0 else (-1 : Int32) <<< (((32 : Int32) - 22) &&& 31)) := by
  have b0 := own_biv w 24 24 (by decide) (by decide)
  have b1 := own_biv w 16 16 (by decide) (by decide)
  have b2 := own_biv w 8 8 (by decide) (by decide)
  have b3 := own_bzv w
  have n0 := own_nbv (own_bi w 24) 22 0 8 (by decide) b0.2.1 b0.2.2 (by decide)
  have n1 := own_nbv (own_bi w 16) 22 8 8 (by decide) b1.2.1 b1.2.2 (by decide)
  have n2 := own_nbv (own_bi w 8) 22 16 6 (by decide) b2.2.1 b2.2.2 (by decide)
  have n3 := own_nbv (own_bz w) 22 24 0 (by decide) b3.2.1 b3.2.2 (by decide)
  have P := own_p4v (own_nb (own_bi w 24) 22 0) (own_nb (own_bi w 16) 22 8) (own_nb (own_bi w 8) 22 16) (own_nb (own_bz w) 22 24)
  have R1 := rng32 (own_p4 (own_nb (own_bi w 24) 22 0) (own_nb (own_bi w 16) 22 8) (own_nb (own_bi w 8) 22 16) (own_nb (own_bz w) 22 24))
  rw [if_neg (by decide)]
  apply Int32.toInt_inj.mp
  have H := own_hm w 1023 ((-1 : Int32) <<< (((32 : Int32) - 22) &&& 31)) 10 (by decide) (by decide) (by decide)
  have R2 := rng32 (w &&& ((-1 : Int32) <<< (((32 : Int32) - 22) &&& 31)))
  have R3 := rng32 w
  rw [n0, n1, n2, n3] at P
  omega
theorem own_w4_23 (w : Int32) : own_p4 (own_nb (own_bi w 24) 23 0) (own_nb (own_bi w 16) 23 8) (own_nb (own_bi w 8) 23 16) (own_nb (own_bz w) 23 24) = w &&& (if (23 : Int32) = 0 then 0 else (-1 : Int32) <<< (((32 : Int32) - 23) &&& 31)) := by
  have b0 := own_biv w 24 24 (by decide) (by decide)
  have b1 := own_biv w 16 16 (by decide) (by decide)
  have b2 := own_biv w 8 8 (by decide) (by decide)
  have b3 := own_bzv w
  have n0 := own_nbv (own_bi w 24) 23 0 8 (by decide) b0.2.1 b0.2.2 (by decide)
  have n1 := own_nbv (own_bi w 16) 23 8 8 (by decide) b1.2.1 b1.2.2 (by decide)
  have n2 := own_nbv (own_bi w 8) 23 16 7 (by decide) b2.2.1 b2.2.2 (by decide)
  have n3 := own_nbv (own_bz w) 23 24 0 (by decide) b3.2.1 b3.2.2 (by decide)
  have P := own_p4v (own_nb (own_bi w 24) 23 0) (own_nb (own_bi w 16) 23 8) (own_nb (own_bi w 8) 23 16) (own_nb (own_bz w) 23 24)
  have R1 := rng32 (own_p4 (own_nb (own_bi w 24) 23 0) (own_nb (own_bi w 16) 23 8) (own_nb (own_bi w 8) 23 16) (own_nb (own_bz w) 23 24))
  rw [if_neg (by decide)]
  apply Int32.toInt_inj.mp
  have H := own_hm w 511 ((-1 : Int32) <<< (((32 : Int32) - 23) &&& 31)) 9 (by decide) (by decide) (by decide)
  have R2 := rng32 (w &&& ((-1 : Int32) <<< (((32 : Int32) - 23) &&& 31)))
  have R3 := rng32 w
  rw [n0, n1, n2, n3] at P
  omega
theorem own_w4_24 (w : Int32) : own_p4 (own_nb (own_bi w 24) 24 0) (own_nb (own_bi w 16) 24 8) (own_nb (own_bi w 8) 24 16) (own_nb (own_bz w) 24 24) = w &&& (if (24 : Int32) = 0 then 0 else (-1 : Int32) <<< (((32 : Int32) - 24) &&& 31)) := by
  have b0 := own_biv w 24 24 (by decide) (by decide)
  have b1 := own_biv w 16 16 (by decide) (by decide)
  have b2 := own_biv w 8 8 (by decide) (by decide)
  have b3 := own_bzv w
  have n0 := own_nbv (own_bi w 24) 24 0 8 (by decide) b0.2.1 b0.2.2 (by decide)
  have n1 := own_nbv (own_bi w 16) 24 8 8 (by decide) b1.2.1 b1.2.2 (by decide)
  have n2 := own_nbv (own_bi w 8) 24 16 8 (by decide) b2.2.1 b2.2.2 (by decide)
  have n3 := own_nbv (own_bz w) 24 24 0 (by decide) b3.2.1 b3.2.2 (by decide)
  have P := own_p4v (own_nb (own_bi w 24) 24 0) (own_nb (own_bi w 16) 24 8) (own_nb (own_bi w 8) 24 16) (own_nb (own_bz w) 24 24)
  have R1 := rng32 (own_p4 (own_nb (own_bi w 24) 24 0) (own_nb (own_bi w 16) 24 8) (own_nb (own_bi w 8) 24 16) (own_nb (own_bz w) 24 24))
  rw [if_neg (by decide)]
  apply Int32.toInt_inj.mp
  have H := own_hm w 255 ((-1 : Int32) <<< (((32 : Int32) - 24) &&& 31)) 8 (by decide) (by decide) (by decide)
  have R2 := rng32 (w &&& ((-1 : Int32) <<< (((32 : Int32) - 24) &&& 31)))
  have R3 := rng32 w
  rw [n0, n1, n2, n3] at P
  omega
theorem own_w4_25 (w : Int32) : own_p4 (own_nb (own_bi w 24) 25 0) (own_nb (own_bi w 16) 25 8) (own_nb (own_bi w 8) 25 16) (own_nb (own_bz w) 25 24) = w &&& (if (25 : Int32) = 0 then 0 else (-1 : Int32) <<< (((32 : Int32) - 25) &&& 31)) := by
  have b0 := own_biv w 24 24 (by decide) (by decide)
  have b1 := own_biv w 16 16 (by decide) (by decide)
  have b2 := own_biv w 8 8 (by decide) (by decide)
  have b3 := own_bzv w
  have n0 := own_nbv (own_bi w 24) 25 0 8 (by decide) b0.2.1 b0.2.2 (by decide)
  have n1 := own_nbv (own_bi w 16) 25 8 8 (by decide) b1.2.1 b1.2.2 (by decide)
  have n2 := own_nbv (own_bi w 8) 25 16 8 (by decide) b2.2.1 b2.2.2 (by decide)
  have n3 := own_nbv (own_bz w) 25 24 1 (by decide) b3.2.1 b3.2.2 (by decide)
  have P := own_p4v (own_nb (own_bi w 24) 25 0) (own_nb (own_bi w 16) 25 8) (own_nb (own_bi w 8) 25 16) (own_nb (own_bz w) 25 24)
  have R1 := rng32 (own_p4 (own_nb (own_bi w 24) 25 0) (own_nb (own_bi w 16) 25 8) (own_nb (own_bi w 8) 25 16) (own_nb (own_bz w) 25 24))
  rw [if_neg (by decide)]
  apply Int32.toInt_inj.mp
  have H := own_hm w 127 ((-1 : Int32) <<< (((32 : Int32) - 25) &&& 31)) 7 (by decide) (by decide) (by decide)
  have R2 := rng32 (w &&& ((-1 : Int32) <<< (((32 : Int32) - 25) &&& 31)))
  have R3 := rng32 w
  rw [n0, n1, n2, n3] at P
  omega
theorem own_w4_26 (w : Int32) : own_p4 (own_nb (own_bi w 24) 26 0) (own_nb (own_bi w 16) 26 8) (own_nb (own_bi w 8) 26 16) (own_nb (own_bz w) 26 24) = w &&& (if (26 : Int32) = 0 then 0 else (-1 : Int32) <<< (((32 : Int32) - 26) &&& 31)) := by
  have b0 := own_biv w 24 24 (by decide) (by decide)
  have b1 := own_biv w 16 16 (by decide) (by decide)
  have b2 := own_biv w 8 8 (by decide) (by decide)
  have b3 := own_bzv w
  have n0 := own_nbv (own_bi w 24) 26 0 8 (by decide) b0.2.1 b0.2.2 (by decide)
  have n1 := own_nbv (own_bi w 16) 26 8 8 (by decide) b1.2.1 b1.2.2 (by decide)
  have n2 := own_nbv (own_bi w 8) 26 16 8 (by decide) b2.2.1 b2.2.2 (by decide)
  have n3 := own_nbv (own_bz w) 26 24 2 (by decide) b3.2.1 b3.2.2 (by decide)
  have P := own_p4v (own_nb (own_bi w 24) 26 0) (own_nb (own_bi w 16) 26 8) (own_nb (own_bi w 8) 26 16) (own_nb (own_bz w) 26 24)
  have R1 := rng32 (own_p4 (own_nb (own_bi w 24) 26 0) (own_nb (own_bi w 16) 26 8) (own_nb (own_bi w 8) 26 16) (own_nb (own_bz w) 26 24))
  rw [if_neg (by decide)]
  apply Int32.toInt_inj.mp
  have H := own_hm w 63 ((-1 : Int32) <<< (((32 : Int32) - 26) &&& 31)) 6 (by decide) (by decide) (by decide)
  have R2 := rng32 (w &&& ((-1 : Int32) <<< (((32 : Int32) - 26) &&& 31)))
  have R3 := rng32 w
  rw [n0, n1, n2, n3] at P
  omega
theorem own_w4_27 (w : Int32) : own_p4 (own_nb (own_bi w 24) 27 0) (own_nb (own_bi w 16) 27 8) (own_nb (own_bi w 8) 27 16) (own_nb (own_bz w) 27 24) = w &&& (if (27 : Int32) = 0 then 0 else (-1 : Int32) <<< (((32 : Int32) - 27) &&& 31)) := by
  have b0 := own_biv w 24 24 (by decide) (by decide)
  have b1 := own_biv w 16 16 (by decide) (by decide)
  have b2 := own_biv w 8 8 (by decide) (by decide)
  have b3 := own_bzv w
  have n0 := own_nbv (own_bi w 24) 27 0 8 (by decide) b0.2.1 b0.2.2 (by decide)
  have n1 := own_nbv (own_bi w 16) 27 8 8 (by decide) b1.2.1 b1.2.2 (by decide)
  have n2 := own_nbv (own_bi w 8) 27 16 8 (by decide) b2.2.1 b2.2.2 (by decide)
  have n3 := own_nbv (own_bz w) 27 24 3 (by decide) b3.2.1 b3.2.2 (by decide)
  have P := own_p4v (own_nb (own_bi w 24) 27 0) (own_nb (own_bi w 16) 27 8) (own_nb (own_bi w 8) 27 16) (own_nb (own_bz w) 27 24)
  have R1 := rng32 (own_p4 (own_nb (own_bi w 24) 27 0) (own_nb (own_bi w 16) 27 8) (own_nb (own_bi w 8) 27 16) (own_nb (own_bz w) 27 24))
  rw [if_neg (by decide)]
  apply Int32.toInt_inj.mp
  have H := own_hm w 31 ((-1 : Int32) <<< (((32 : Int32) - 27) &&& 31)) 5 (by decide) (by decide) (by decide)
  have R2 := rng32 (w &&& ((-1 : Int32) <<< (((32 : Int32) - 27) &&& 31)))
  have R3 := rng32 w
  rw [n0, n1, n2, n3] at P
  omega
theorem own_w4_28 (w : Int32) : own_p4 (own_nb (own_bi w 24) 28 0) (own_nb (own_bi w 16) 28 8) (own_nb (own_bi w 8) 28 16) (own_nb (own_bz w) 28 24) = w &&& (if (28 : Int32) = 0 then 0 else (-1 : Int32) <<< (((32 : Int32) - 28) &&& 31)) := by
  have b0 := own_biv w 24 24 (by decide) (by decide)
  have b1 := own_biv w 16 16 (by decide) (by decide)
  have b2 := own_biv w 8 8 (by decide) (by decide)
  have b3 := own_bzv w
  have n0 := own_nbv (own_bi w 24) 28 0 8 (by decide) b0.2.1 b0.2.2 (by decide)
  have n1 := own_nbv (own_bi w 16) 28 8 8 (by decide) b1.2.1 b1.2.2 (by decide)
  have n2 := own_nbv (own_bi w 8) 28 16 8 (by decide) b2.2.1 b2.2.2 (by decide)
  have n3 := own_nbv (own_bz w) 28 24 4 (by decide) b3.2.1 b3.2.2 (by decide)
  have P := own_p4v (own_nb (own_bi w 24) 28 0) (own_nb (own_bi w 16) 28 8) (own_nb (own_bi w 8) 28 16) (own_nb (own_bz w) 28 24)
  have R1 := rng32 (own_p4 (own_nb (own_bi w 24) 28 0) (own_nb (own_bi w 16) 28 8) (own_nb (own_bi w 8) 28 16) (own_nb (own_bz w) 28 24))
  rw [if_neg (by decide)]
  apply Int32.toInt_inj.mp
  have H := own_hm w 15 ((-1 : Int32) <<< (((32 : Int32) - 28) &&& 31)) 4 (by decide) (by decide) (by decide)
  have R2 := rng32 (w &&& ((-1 : Int32) <<< (((32 : Int32) - 28) &&& 31)))
  have R3 := rng32 w
  rw [n0, n1, n2, n3] at P
  omega
theorem own_w4_29 (w : Int32) : own_p4 (own_nb (own_bi w 24) 29 0) (own_nb (own_bi w 16) 29 8) (own_nb (own_bi w 8) 29 16) (own_nb (own_bz w) 29 24) = w &&& (if (29 : Int32) = 0 then 0 else (-1 : Int32) <<< (((32 : Int32) - 29) &&& 31)) := by
  have b0 := own_biv w 24 24 (by decide) (by decide)
  have b1 := own_biv w 16 16 (by decide) (by decide)
  have b2 := own_biv w 8 8 (by decide) (by decide)
  have b3 := own_bzv w
  have n0 := own_nbv (own_bi w 24) 29 0 8 (by decide) b0.2.1 b0.2.2 (by decide)
  have n1 := own_nbv (own_bi w 16) 29 8 8 (by decide) b1.2.1 b1.2.2 (by decide)
  have n2 := own_nbv (own_bi w 8) 29 16 8 (by decide) b2.2.1 b2.2.2 (by decide)
  have n3 := own_nbv (own_bz w) 29 24 5 (by decide) b3.2.1 b3.2.2 (by decide)
  have P := own_p4v (own_nb (own_bi w 24) 29 0) (own_nb (own_bi w 16) 29 8) (own_nb (own_bi w 8) 29 16) (own_nb (own_bz w) 29 24)
  have R1 := rng32 (own_p4 (own_nb (own_bi w 24) 29 0) (own_nb (own_bi w 16) 29 8) (own_nb (own_bi w 8) 29 16) (own_nb (own_bz w) 29 24))
  rw [if_neg (by decide)]
  apply Int32.toInt_inj.mp
  have H := own_hm w 7 ((-1 : Int32) <<< (((32 : Int32) - 29) &&& 31)) 3 (by decide) (by decide) (by decide)
  have R2 := rng32 (w &&& ((-1 : Int32) <<< (((32 : Int32) - 29) &&& 31)))
  have R3 := rng32 w
  rw [n0, n1, n2, n3] at P
  omega
theorem own_w4_30 (w : Int32) : own_p4 (own_nb (own_bi w 24) 30 0) (own_nb (own_bi w 16) 30 8) (own_nb (own_bi w 8) 30 16) (own_nb (own_bz w) 30 24) = w &&& (if (30 : Int32) = 0 then 0 else (-1 : Int32) <<< (((32 : Int32) - 30) &&& 31)) := by
  have b0 := own_biv w 24 24 (by decide) (by decide)
  have b1 := own_biv w 16 16 (by decide) (by decide)
  have b2 := own_biv w 8 8 (by decide) (by decide)
  have b3 := own_bzv w
  have n0 := own_nbv (own_bi w 24) 30 0 8 (by decide) b0.2.1 b0.2.2 (by decide)
  have n1 := own_nbv (own_bi w 16) 30 8 8 (by decide) b1.2.1 b1.2.2 (by decide)
  have n2 := own_nbv (own_bi w 8) 30 16 8 (by decide) b2.2.1 b2.2.2 (by decide)
  have n3 := own_nbv (own_bz w) 30 24 6 (by decide) b3.2.1 b3.2.2 (by decide)
  have P := own_p4v (own_nb (own_bi w 24) 30 0) (own_nb (own_bi w 16) 30 8) (own_nb (own_bi w 8) 30 16) (own_nb (own_bz w) 30 24)
  have R1 := rng32 (own_p4 (own_nb (own_bi w 24) 30 0) (own_nb (own_bi w 16) 30 8) (own_nb (own_bi w 8) 30 16) (own_nb (own_bz w) 30 24))
  rw [if_neg (by decide)]
  apply Int32.toInt_inj.mp
  have H := own_hm w 3 ((-1 : Int32) <<< (((32 : Int32) - 30) &&& 31)) 2 (by decide) (by decide) (by decide)
  have R2 := rng32 (w &&& ((-1 : Int32) <<< (((32 : Int32) - 30) &&& 31)))
  have R3 := rng32 w
  rw [n0, n1, n2, n3] at P
  omega
theorem own_w4_31 (w : Int32) : own_p4 (own_nb (own_bi w 24) 31 0) (own_nb (own_bi w 16) 31 8) (own_nb (own_bi w 8) 31 16) (own_nb (own_bz w) 31 24) = w &&& (if (31 : Int32) = 0 then 0 else (-1 : Int32) <<< (((32 : Int32) - 31) &&& 31)) := by
  have b0 := own_biv w 24 24 (by decide) (by decide)
  have b1 := own_biv w 16 16 (by decide) (by decide)
  have b2 := own_biv w 8 8 (by decide) (by decide)
  have b3 := own_bzv w
  have n0 := own_nbv (own_bi w 24) 31 0 8 (by decide) b0.2.1 b0.2.2 (by decide)
  have n1 := own_nbv (own_bi w 16) 31 8 8 (by decide) b1.2.1 b1.2.2 (by decide)
  have n2 := own_nbv (own_bi w 8) 31 16 8 (by decide) b2.2.1 b2.2.2 (by decide)
  have n3 := own_nbv (own_bz w) 31 24 7 (by decide) b3.2.1 b3.2.2 (by decide)
  have P := own_p4v (own_nb (own_bi w 24) 31 0) (own_nb (own_bi w 16) 31 8) (own_nb (own_bi w 8) 31 16) (own_nb (own_bz w) 31 24)
  have R1 := rng32 (own_p4 (own_nb (own_bi w 24) 31 0) (own_nb (own_bi w 16) 31 8) (own_nb (own_bi w 8) 31 16) (own_nb (own_bz w) 31 24))
  rw [if_neg (by decide)]
  apply Int32.toInt_inj.mp
  have H := own_hm w 1 ((-1 : Int32) <<< (((32 : Int32) - 31) &&& 31)) 1 (by decide) (by decide) (by decide)
  have R2 := rng32 (w &&& ((-1 : Int32) <<< (((32 : Int32) - 31) &&& 31)))
  have R3 := rng32 w
  rw [n0, n1, n2, n3] at P
  omega
theorem own_w4_32 (w : Int32) : own_p4 (own_nb (own_bi w 24) 32 0) (own_nb (own_bi w 16) 32 8) (own_nb (own_bi w 8) 32 16) (own_nb (own_bz w) 32 24) = w &&& (if (32 : Int32) = 0 then 0 else (-1 : Int32) <<< (((32 : Int32) - 32) &&& 31)) := by
  have b0 := own_biv w 24 24 (by decide) (by decide)
  have b1 := own_biv w 16 16 (by decide) (by decide)
  have b2 := own_biv w 8 8 (by decide) (by decide)
  have b3 := own_bzv w
  have n0 := own_nbv (own_bi w 24) 32 0 8 (by decide) b0.2.1 b0.2.2 (by decide)
  have n1 := own_nbv (own_bi w 16) 32 8 8 (by decide) b1.2.1 b1.2.2 (by decide)
  have n2 := own_nbv (own_bi w 8) 32 16 8 (by decide) b2.2.1 b2.2.2 (by decide)
  have n3 := own_nbv (own_bz w) 32 24 8 (by decide) b3.2.1 b3.2.2 (by decide)
  have P := own_p4v (own_nb (own_bi w 24) 32 0) (own_nb (own_bi w 16) 32 8) (own_nb (own_bi w 8) 32 16) (own_nb (own_bz w) 32 24)
  have R1 := rng32 (own_p4 (own_nb (own_bi w 24) 32 0) (own_nb (own_bi w 16) 32 8) (own_nb (own_bi w 8) 32 16) (own_nb (own_bz w) 32 24))
  rw [if_neg (by decide)]
  apply Int32.toInt_inj.mp
  have H := own_hm w 0 ((-1 : Int32) <<< (((32 : Int32) - 32) &&& 31)) 0 (by decide) (by decide) (by decide)
  have R2 := rng32 (w &&& ((-1 : Int32) <<< (((32 : Int32) - 32) &&& 31)))
  have R3 := rng32 w
  rw [n0, n1, n2, n3] at P
  omega
theorem own_id4 (w : Int32) : own_p4 (own_bi w 24) (own_bi w 16) (own_bi w 8) (own_bz w) = w := by
  have b0 := own_biv w 24 24 (by decide) (by decide)
  have b1 := own_biv w 16 16 (by decide) (by decide)
  have b2 := own_biv w 8 8 (by decide) (by decide)
  have b3 := own_bzv w
  have P := own_p4v (own_bi w 24) (own_bi w 16) (own_bi w 8) (own_bz w)
  have R1 := rng32 (own_p4 (own_bi w 24) (own_bi w 16) (own_bi w 8) (own_bz w))
  have R3 := rng32 w
  apply Int32.toInt_inj.mp
  omega
theorem own_dig (X : Int) (h1 : 0 ≤ X) (h2 : X < 18446744073709551616) : ∃ d0 d1 d2 d3 d4 d5 d6 d7 : Int, (X / 72057594037927936 % 256) = d0 ∧ (X / 281474976710656 % 256) = d1 ∧ (X / 1099511627776 % 256) = d2 ∧ (X / 4294967296 % 256) = d3 ∧ (X / 16777216 % 256) = d4 ∧ (X / 65536 % 256) = d5 ∧ (X / 256 % 256) = d6 ∧ (X % 256) = d7 ∧ (0 ≤ d0 ∧ d0 < 256 ∧ 0 ≤ d1 ∧ d1 < 256 ∧ 0 ≤ d2 ∧ d2 < 256 ∧ 0 ≤ d3 ∧ d3 < 256 ∧ 0 ≤ d4 ∧ d4 < 256 ∧ 0 ≤ d5 ∧ d5 < 256 ∧ 0 ≤ d6 ∧ d6 < 256 ∧ 0 ≤ d7 ∧ d7 < 256) ∧ X = d0 * 72057594037927936 + d1 * 281474976710656 + d2 * 1099511627776 + d3 * 4294967296 + d4 * 16777216 + d5 * 65536 + d6 * 256 + d7 * 1 := by
  have f2 : X / 65536 = X / 256 / 256 := by rw [Int.ediv_ediv_of_nonneg (by decide)]; rfl
  have f3 : X / 16777216 = X / 65536 / 256 := by rw [Int.ediv_ediv_of_nonneg (by decide)]; rfl
  have f4 : X / 4294967296 = X / 16777216 / 256 := by rw [Int.ediv_ediv_of_nonneg (by decide)]; rfl
  have f5 : X / 1099511627776 = X / 4294967296 / 256 := by rw [Int.ediv_ediv_of_nonneg (by decide)]; rfl
  have f6 : X / 281474976710656 = X / 1099511627776 / 256 := by rw [Int.ediv_ediv_of_nonneg (by decide)]; rfl
  have f7 : X / 72057594037927936 = X / 281474976710656 / 256 := by rw [Int.ediv_ediv_of_nonneg (by decide)]; rfl
  have f8 : X / 72057594037927936 / 256 = 0 := by omega
  refine ⟨_, _, _, _, _, _, _, _, rfl, rfl, rfl, rfl, rfl, rfl, rfl, rfl, ?_⟩
  generalize X / 72057594037927936 = Q7 at *
  generalize X / 281474976710656 = Q6 at *
  generalize X / 1099511627776 = Q5 at *
  generalize X / 4294967296 = Q4 at *
  generalize X / 16777216 = Q3 at *
  generalize X / 65536 = Q2 at *
  refine ⟨by omega, ?_⟩
  omega
theorem own_k8_0 (x X p : Int) (hX : x % 18446744073709551616 = X) (hp : (p - (((X / 72057594037927936 % 256) - (X / 72057594037927936 % 256) % 256) * 72057594037927936 + ((X / 281474976710656 % 256) - (X / 281474976710656 % 256) % 256) * 281474976710656 + ((X / 1099511627776 % 256) - (X / 1099511627776 % 256) % 256) * 1099511627776 + ((X / 4294967296 % 256) - (X / 4294967296 % 256) % 256) * 4294967296 + ((X / 16777216 % 256) - (X / 16777216 % 256) % 256) * 16777216 + ((X / 65536 % 256) - (X / 65536 % 256) % 256) * 65536 + ((X / 256 % 256) - (X / 256 % 256) % 256) * 256 + ((X % 256) - (X % 256) % 256) * 1)) % 18446744073709551616 = 0) : (p - (x - x % 18446744073709551616)) % 18446744073709551616 = 0 := by
  have h1 : 0 ≤ X := by omega
  have h2 : X < 18446744073709551616 := by omega
  have h3 : x % 18446744073709551616 = X % 18446744073709551616 := by omega
  obtain ⟨d0, d1, d2, d3, d4, d5, d6, d7, g0, g1, g2, g3, g4, g5, g6, g7, hd, hs⟩ := own_dig X h1 h2
  rw [g0, g1, g2, g3, g4, g5, g6, g7] at hp
  rw [h3]
  clear g0 g1 g2 g3 g4 g5 g6 g7 h3
  have u0 : d0 % 256 = d0 := by omega
  have u1 : d1 % 256 = d1 := by omega
  have u2 : d2 % 256 = d2 := by omega
  have u3 : d3 % 256 = d3 := by omega
  have u4 : d4 % 256 = d4 := by omega
  have u5 : d5 % 256 = d5 := by omega
  have u6 : d6 % 256 = d6 := by omega
  have u7 : d7 % 256 = d7 := by omega
  rw [u0] at hp
  clear u0
  rw [u1] at hp
  clear u1
  rw [u2] at hp
  clear u2
  rw [u3] at hp
  clear u3
  rw [u4] at hp
  clear u4
  rw [u5] at hp
  clear u5
  rw [u6] at hp
  clear u6
  rw [u7] at hp
  clear u7
  have hl : X % 18446744073709551616 = d0 * 72057594037927936 + d1 * 281474976710656 + d2 * 1099511627776 + d3 * 4294967296 + d4 * 16777216 + d5 * 65536 + d6 * 256 + d7 * 1 := by
    clear hp hX h1 h2
    subst hs
    omega
  rw [hl]
  omega
theorem own_k8_1 (x X p : Int) (hX : x % 18446744073709551616 = X) (hp : (p - (((X / 72057594037927936 % 256) - (X / 72057594037927936 % 256) % 128) * 72057594037927936 + ((X / 281474976710656 % 256) - (X / 281474976710656 % 256) % 256) * 281474976710656 + ((X / 1099511627776 % 256) - (X / 1099511627776 % 256) % 256) * 1099511627776 + ((X / 4294967296 % 256) - (X / 4294967296 % 256) % 256) * 4294967296 + ((X / 16777216 % 256) - (X / 16777216 % 256) % 256) * 16777216 + ((X / 65536 % 256) - (X / 65536 % 256) % 256) * 65536 + ((X / 256 % 256) - (X / 256 % 256) % 256) * 256 + ((X % 256) - (X % 256) % 256) * 1)) % 18446744073709551616 = 0) : (p - (x - x % 9223372036854775808)) % 18446744073709551616 = 0 := by
  have h1 : 0 ≤ X := by omega
  have h2 : X < 18446744073709551616 := by omega
  have h3 : x % 9223372036854775808 = X % 9223372036854775808 := by omega
  obtain ⟨d0, d1, d2, d3, d4, d5, d6, d7, g0, g1, g2, g3, g4, g5, g6, g7, hd, hs⟩ := own_dig X h1 h2
  rw [g0, g1, g2, g3, g4, g5, g6, g7] at hp
  rw [h3]
  clear g0 g1 g2 g3 g4 g5 g6 g7 h3
  have u1 : d1 % 256 = d1 := by omega
  have u2 : d2 % 256 = d2 := by omega
  have u3 : d3 % 256 = d3 := by omega
  have u4 : d4 % 256 = d4 := by omega
  have u5 : d5 % 256 = d5 := by omega
  have u6 : d6 % 256 = d6 := by omega
  have u7 : d7 % 256 = d7 := by omega
  rw [u1] at hp
  clear u1
  rw [u2] at hp
  clear u2
  rw [u3] at hp
  clear u3
  rw [u4] at hp
  clear u4
  rw [u5] at hp
  clear u5
  rw [u6] at hp
  clear u6
  rw [u7] at hp
  clear u7
  have hl : X % 9223372036854775808 = d0 % 128 * 72057594037927936 + d1 * 281474976710656 + d2 * 1099511627776 + d3 * 4294967296 + d4 * 16777216 + d5 * 65536 + d6 * 256 + d7 * 1 := by
    clear hp hX h1 h2
    subst hs
    omega
  rw [hl]
  omega
theorem own_k8_2 (x X p : Int) (hX : x % 18446744073709551616 = X) (hp : (p - (((X / 72057594037927936 % 256) - (X / 72057594037927936 % 256) % 64) * 72057594037927936 + ((X / 281474976710656 % 256) - (X / 281474976710656 % 256) % 256) * 281474976710656 + ((X / 1099511627776 % 256) - (X / 1099511627776 % 256) % 256) * 1099511627776 + ((X / 4294967296 % 256) - (X / 4294967296 % 256) % 256) * 4294967296 + ((X / 16777216 % 256) - (X / 16777216 % 256) % 256) * 16777216 + ((X / 65536 % 256) - (X / 65536 % 256) % 256) * 65536 + ((X / 256 % 256) - (X / 256 % 256) % 256) * 256 + ((X % 256) - (X % 256) % 256) * 1)) % 18446744073709551616 = 0) : (p - (x - x % 4611686018427387904)) % 18446744073709551616 = 0 := by
  have h1 : 0 ≤ X := by omega
  have h2 : X < 18446744073709551616 := by omega
  have h3 : x % 4611686018427387904 = X % 4611686018427387904 := by omega
  obtain ⟨d0, d1, d2, d3, d4, d5, d6, d7, g0, g1, g2, g3, g4, g5, g6, g7, hd, hs⟩ := own_dig X h1 h2
  rw [g0, g1, g2, g3, g4, g5, g6, g7] at hp
  rw [h3]
  clear g0 g1 g2 g3 g4 g5 g6 g7 h3
  have u1 : d1 % 256 = d1 := by omega
  have u2 : d2 % 256 = d2 := by omega
  have u3 : d3 % 256 = d3 := by omega
  have u4 : d4 % 256 = d4 := by omega
  have u5 : d5 % 256 = d5 := by omega
  have u6 : d6 % 256 = d6 := by omega
  have u7 : d7 % 256 = d7 := by omega
  rw [u1] at hp
  clear u1
  rw [u2] at hp
  clear u2
  rw [u3] at hp
  clear u3
  rw [u4] at hp
  clear u4
  rw [u5] at hp
  clear u5
  rw [u6] at hp
  clear u6
  rw [u7] at hp
  clear u7
  have hl : X % 4611686018427387904 = d0 % 64 * 72057594037927936 + d1 * 281474976710656 + d2 * 1099511627776 + d3 * 4294967296 + d4 * 16777216 + d5 * 65536 + d6 * 256 + d7 * 1 := by
    clear hp hX h1 h2
    subst hs
    omega
  rw [hl]
  omega
theorem own_k8_3 (x X p : Int) (hX : x % 18446744073709551616 = X) (hp : (p - (((X / 72057594037927936 % 256) - (X / 72057594037927936 % 256) % 32) * 72057594037927936 + ((X / 281474976710656 % 256) - (X / 281474976710656 % 256) % 256) * 281474976710656 + ((X / 1099511627776 % 256) - (X / 1099511627776 % 256) % 256) * 1099511627776 + ((X / 4294967296 % 256) - (X / 4294967296 % 256) % 256) * 4294967296 + ((X / 16777216 % 256) - (X / 16777216 % 256) % 256) * 16777216 + ((X / 65536 % 256) - (X / 65536 % 256) % 256) * 65536 + ((X / 256 % 256) - (X / 256 % 256) % 256) * 256 + ((X % 256) - (X % 256) % 256) * 1)) % 18446744073709551616 = 0) : (p - (x - x % 2305843009213693952)) % 18446744073709551616 = 0 := by
  have h1 : 0 ≤ X := by omega
  have h2 : X < 18446744073709551616 := by omega
  have h3 : x % 2305843009213693952 = X % 2305843009213693952 := by omega
  obtain ⟨d0, d1, d2, d3, d4, d5, d6, d7, g0, g1, g2, g3, g4, g5, g6, g7, hd, hs⟩ := own_dig X h1 h2
  rw [g0, g1, g2, g3, g4, g5, g6, g7] at hp
  rw [h3]
  clear g0 g1 g2 g3 g4 g5 g6 g7 h3
  have u1 : d1 % 256 = d1 := by omega
  have u2 : d2 % 256 = d2 := by omega
  have u3 : d3 % 256 = d3 := by omega
  have u4 : d4 % 256 = d4 := by omega
  have u5 : d5 % 256 = d5 := by omega
  have u6 : d6 % 256 = d6 := by omega
  have u7 : d7 % 256 = d7 := by omega
  rw [u1] at hp
  clear u1
  rw [u2] at hp
  clear u2
  rw [u3] at hp
  clear u3
  rw [u4] at hp
  clear u4
  rw [u5] at hp
  clear u5
  rw [u6] at hp
  clear u6
  rw [u7] at hp
  clear u7
  have hl : X % 2305843009213693952 = d0 % 32 * 72057594037927936 + d1 * 281474976710656 + d2 * 1099511627776 + d3 * 4294967296 + d4 * 16777216 + d5 * 65536 + d6 * 256 + d7 * 1 := by
    clear hp hX h1 h2
    subst hs
    omega
  rw [hl]
  omega
theorem own_k8_4 (x X p : Int) (hX : x % 18446744073709551616 = X) (hp : (p - (((X / 72057594037927936 % 256) - (X / 72057594037927936 % 256) % 16) * 72057594037927936 + ((X / 281474976710656 % 256) - (X / 281474976710656 % 256) % 256) * 281474976710656 + ((X / 1099511627776 % 256) - (X / 1099511627776 % 256) % 256) * 1099511627776 + ((X / 4294967296 % 256) - (X / 4294967296 % 256) % 256) * 4294967296 + ((X / 16777216 % 256) - (X / 16777216 % 256) % 256) * 16777216 + ((X / 65536 % 256) - (X / 65536 % 256) % 256) * 65536 + ((X / 256 % 256) - (X / 256 % 256) % 256) * 256 + ((X % 256) - (X % 256) % 256) * 1)) % 18446744073709551616 = 0) : (p - (x - x % 1152921504606846976)) % 18446744073709551616 = 0 := by
  have h1 : 0 ≤ X := by omega
  have h2 : X < 18446744073709551616 := by omega
  have h3 : x % 1152921504606846976 = X % 1152921504606846976 := by omega
  obtain ⟨d0, d1, d2, d3, d4, d5, d6, d7, g0, g1, g2, g3, g4, g5, g6, g7, hd, hs⟩ := own_dig X h1 h2
  rw [g0, g1, g2, g3, g4, g5, g6, g7] at hp
  rw [h3]
  clear g0 g1 g2 g3 g4 g5 g6 g7 h3
  have u1 : d1 % 256 = d1 := by omega
  have u2 : d2 % 256 = d2 := by omega
  have u3 : d3 % 256 = d3 := by omega
  have u4 : d4 % 256 = d4 := by omega
  have u5 : d5 % 256 = d5 := by omega
  have u6 : d6 % 256 = d6 := by omega
  have u7 : d7 % 256 = d7 := by omega
  rw [u1] at hp
  clear u1
  rw [u2] at hp
  clear u2
  rw [u3] at hp
  clear u3
  rw [u4] at hp
  clear u4
  rw [u5] at hp
  clear u5
  rw [u6] at hp
  clear u6
  rw [u7] at hp
  clear u7
  have hl : X % 1152921504606846976 = d0 % 16 * 72057594037927936 + d1 * 281474976710656 + d2 * 1099511627776 + d3 * 4294967296 + d4 * 16777216 + d5 * 65536 + d6 * 256 + d7 * 1 := by
    clear hp hX h1 h2
    subst hs
    omega
  rw [hl]
  omega
theorem own_k8_5 (x X p : Int) (hX : x % 18446744073709551616 = X) (hp : (p - (((X / 72057594037927936 % 256) - (X / 72057594037927936 % 256) % 8) * 72057594037927936 + ((X / 281474976710656 % 256) - (X / 281474976710656 % 256) % 256) * 281474976710656 + ((X / 1099511627776 % 256) - (X / 1099511627776 % 256) % 256) * 1099511627776 + ((X / 4294967296 % 256) - (X / 4294967296 % 256) % 256) * 4294967296 + ((X / 16777216 % 256) - (X / 16777216 % 256) % 256) * 16777216 + ((X / 65536 % 256) - (X / 65536 % 256) % 256) * 65536 + ((X / 256 % 256) - (X / 256 % 256) % 256) * 256 + ((X % 256) - (X % 256) % 256) * 1)) % 18446744073709551616 = 0) : (p - (x - x % 576460752303423488)) % 18446744073709551616 = 0 := by
  have h1 : 0 ≤ X := by omega
  have h2 : X < 18446744073709551616 := by omega
  have h3 : x % 576460752303423488 = X % 576460752303423488 := by omega
  obtain ⟨d0, d1, d2, d3, d4, d5, d6, d7, g0, g1, g2, g3, g4, g5, g6, g7, hd, hs⟩ := own_dig X h1 h2
  rw [g0, g1, g2, g3, g4, g5, g6, g7] at hp
  rw [h3]
  clear g0 g1 g2 g3 g4 g5 g6 g7 h3
  have u1 : d1 % 256 = d1 := by omega
  have u2 : d2 % 256 = d2 := by omega
  have u3 : d3 % 256 = d3 := by omega
  have u4 : d4 % 256 = d4 := by omega
  have u5 : d5 % 256 = d5 := by omega
  have u6 : d6 % 256 = d6 := by omega
  have u7 : d7 % 256 = d7 := by omega
  rw [u1] at hp
  clear u1
  rw [u2] at hp
  clear u2
  rw [u3] at hp
  clear u3
  rw [u4] at hp
  clear u4
  rw [u5] at hp
  clear u5
  rw [u6] at hp
  clear u6
  rw [u7] at hp
  clear u7
  have hl : X % 576460752303423488 = d0 % 8 * 72057594037927936 + d1 * 281474976710656 + d2 * 1099511627776 + d3 * 4294967296 + d4 * 16777216 + d5 * 65536 + d6 * 256 + d7 * 1 := by
    clear hp hX h1 h2
    subst hs
    omega
  rw [hl]
  omega
theorem own_k8_6 (x X p : Int) (hX : x % 18446744073709551616 = X) (hp : (p - (((X / 72057594037927936 % 256) - (X / 72057594037927936 % 256) % 4) * 72057594037927936 + ((X / 281474976710656 % 256) - (X / 281474976710656 % 256) % 256) * 281474976710656 + ((X / 1099511627776 % 256) - (X / 1099511627776 % 256) % 256) * 1099511627776 + ((X / 4294967296 % 256) - (X / 4294967296 % 256) % 256) * 4294967296 + ((X / 16777216 % 256) - (X / 16777216 % 256) % 256) * 16777216 + ((X / 65536 % 256) - (X / 65536 % 256) % 256) * 65536 + ((X / 256 % 256) - (X / 256 % 256) % 256) * 256 + ((X % 256) - (X % 256) % 256) * 1)) % 18446744073709551616 = 0) : (p - (x - x % 288230376151711744)) % 18446744073709551616 = 0 := by
  have h1 : 0 ≤ X := by omega
  have h2 : X < 18446744073709551616 := by omega
  have h3 : x % 288230376151711744 = X % 288230376151711744 := by omega
  obtain ⟨d0, d1, d2, d3, d4, d5, d6, d7, g0, g1, g2, g3, g4, g5, g6, g7, hd, hs⟩ := own_dig X h1 h2
  rw [g0, g1, g2, g3, g4, g5, g6, g7] at hp
  rw [h3]
  clear g0 g1 g2 g3 g4 g5 g6 g7 h3
  have u1 : d1 % 256 = d1 := by omega
  have u2 : d2 % 256 = d2 := by omega
  have u3 : d3 % 256 = d3 := by omega
  have u4 : d4 % 256 = d4 := by omega
  have u5 : d5 % 256 = d5 := by omega
  have u6 : d6 % 256 = d6 := by omega
  have u7 : d7 % 256 = d7 := by omega
  rw [u1] at hp
  clear u1
  rw [u2] at hp
  clear u2
  rw [u3] at hp
  clear u3
  rw [u4] at hp
  clear u4
  rw [u5] at hp
  clear u5
  rw [u6] at hp
  clear u6
  rw [u7] at hp
  clear u7
  have hl : X % 288230376151711744 = d0 % 4 * 72057594037927936 + d1 * 281474976710656 + d2 * 1099511627776 + d3 * 4294967296 + d4 * 16777216 + d5 * 65536 + d6 * 256 + d7 * 1 := by
    clear hp hX h1 h2
    subst hs
    omega
  rw [hl]
  omega
theorem own_k8_7 (x X p : Int) (hX : x % 18446744073709551616 = X) (hp : (p - (((X / 72057594037927936 % 256) - (X / 72057594037927936 % 256) % 2) * 72057594037927936 + ((X / 281474976710656 % 256) - (X / 281474976710656 % 256) % 256) * 281474976710656 + ((X / 1099511627776 % 256) - (X / 1099511627776 % 256) % 256) * 1099511627776 + ((X / 4294967296 % 256) - (X / 4294967296 % 256) % 256) * 4294967296 + ((X / 16777216 % 256) - (X / 16777216 % 256) % 256) * 16777216 + ((X / 65536 % 256) - (X / 65536 % 256) % 256) * 65536 + ((X / 256 % 256) - (X / 256 % 256) % 256) * 256 + ((X % 256) - (X % 256) % 256) * 1)) % 18446744073709551616 = 0) : (p - (x - x % 144115188075855872)) % 18446744073709551616 = 0 := by
  have h1 : 0 ≤ X := by omega
  have h2 : X < 18446744073709551616 := by omega
  have h3 : x % 144115188075855872 = X % 144115188075855872 := by omega
  obtain ⟨d0, d1, d2, d3, d4, d5, d6, d7, g0, g1, g2, g3, g4, g5, g6, g7, hd, hs⟩ := own_dig X h1 h2
  rw [g0, g1, g2, g3, g4, g5, g6, g7] at hp
  rw [h3]
  clear g0 g1 g2 g3 g4 g5 g6 g7 h3
  have u1 : d1 % 256 = d1 := by omega
  have u2 : d2 % 256 = d2 := by omega
  have u3 : d3 % 256 = d3 := by omega
  have u4 : d4 % 256 = d4 := by omega
  have u5 : d5 % 256 = d5 := by omega
  have u6 : d6 % 256 = d6 := by omega
  have u7 : d7 % 256 = d7 := by omega
  rw [u1] at hp
  clear u1
  rw [u2] at hp
  clear u2
  rw [u3] at hp
  clear u3
  rw [u4] at hp
  clear u4
  rw [u5] at hp
  clear u5
  rw [u6] at hp
  clear u6
  rw [u7] at hp
  clear u7
  have hl : X % 144115188075855872 = d0 % 2 * 72057594037927936 + d1 * 281474976710656 + d2 * 1099511627776 + d3 * 4294967296 + d4 * 16777216 + d5 * 65536 + d6 * 256 + d7 * 1 := by
    clear hp hX h1 h2
    subst hs
    omega
  rw [hl]
  omega
theorem own_k8_8 (x X p : Int) (hX : x % 18446744073709551616 = X) (hp : (p - (((X / 72057594037927936 % 256) - (X / 72057594037927936 % 256) % 1) * 72057594037927936 + ((X / 281474976710656 % 256) - (X / 281474976710656 % 256) % 256) * 281474976710656 + ((X / 1099511627776 % 256) - (X / 1099511627776 % 256) % 256) * 1099511627776 + ((X / 4294967296 % 256) - (X / 4294967296 % 256) % 256) * 4294967296 + ((X / 16777216 % 256) - (X / 16777216 % 256) % 256) * 16777216 + ((X / 65536 % 256) - (X / 65536 % 256) % 256) * 65536 + ((X / 256 % 256) - (X / 256 % 256) % 256) * 256 + ((X % 256) - (X % 256) % 256) * 1)) % 18446744073709551616 = 0) : (p - (x - x % 72057594037927936)) % 18446744073709551616 = 0 := by
  have h1 : 0 ≤ X := by omega
  have h2 : X < 18446744073709551616 := by omega
  have h3 : x % 72057594037927936 = X % 72057594037927936 := by omega
  obtain ⟨d0, d1, d2, d3, d4, d5, d6, d7, g0, g1, g2, g3, g4, g5, g6, g7, hd, hs⟩ := own_dig X h1 h2
  rw [g0, g1, g2, g3, g4, g5, g6, g7] at hp
  rw [h3]
  clear g0 g1 g2 g3 g4 g5 g6 g7 h3
  have u0 : d0 % 1 = 0 := by omega
  have u1 : d1 % 256 = d1 := by omega
  have u2 : d2 % 256 = d2 := by omega
  have u3 : d3 % 256 = d3 := by omega
  have u4 : d4 % 256 = d4 := by omega
  have u5 : d5 % 256 = d5 := by omega
  have u6 : d6 % 256 = d6 := by omega
  have u7 : d7 % 256 = d7 := by omega
  rw [u0] at hp
  clear u0
  rw [u1] at hp
  clear u1
  rw [u2] at hp
  clear u2
  rw [u3] at hp
  clear u3
  rw [u4] at hp
  clear u4
  rw [u5] at hp
  clear u5
  rw [u6] at hp
  clear u6
  rw [u7] at hp
  clear u7
  have hl : X % 72057594037927936 = d1 * 281474976710656 + d2 * 1099511627776 + d3 * 4294967296 + d4 * 16777216 + d5 * 65536 + d6 * 256 + d7 * 1 := by
    clear hp hX h1 h2
    subst hs
    omega
  rw [hl]
  omega
theorem own_k8_9 (x X p : Int) (hX : x % 18446744073709551616 = X) (hp : (p - (((X / 72057594037927936 % 256) - (X / 72057594037927936 % 256) % 1) * 72057594037927936 + ((X / 281474976710656 % 256) - (X / 281474976710656 % 256) % 128) * 281474976710656 + ((X / 1099511627776 % 256) - (X / 1099511627776 % 256) % 256) * 1099511627776 + ((X / 4294967296 % 256) - (X / 4294967296 % 256) % 256) * 4294967296 + ((X / 16777216 % 256) - (X / 16777216 % 256) % 256) * 16777216 + ((X / 65536 % 256) - (X / 65536 % 256) % 256) * 65536 + ((X / 256 % 256) - (X / 256 % 256) % 256) * 256 + ((X % 256) - (X % 256) % 256) * 1)) % 18446744073709551616 = 0) : (p - (x - x % 36028797018963968)) % 18446744073709551616 = 0 := by
  have h1 : 0 ≤ X := by omega
  have h2 : X < 18446744073709551616 := by omega
  have h3 : x % 36028797018963968 = X % 36028797018963968 := by omega
  obtain ⟨d0, d1, d2, d3, d4, d5, d6, d7, g0, g1, g2, g3, g4, g5, g6, g7, hd, hs⟩ := own_dig X h1 h2
  rw [g0, g1, g2, g3, g4, g5, g6, g7] at hp
  rw [h3]
  clear g0 g1 g2 g3 g4 g5 g6 g7 h3
  have u0 : d0 % 1 = 0 := by omega
  have u2 : d2 % 256 = d2 := by omega
  have u3 : d3 % 256 = d3 := by omega
  have u4 : d4 % 256 = d4 := by omega
  have u5 : d5 % 256 = d5 := by omega
  have u6 : d6 % 256 = d6 := by omega
  have u7 : d7 % 256 = d7 := by omega
  rw [u0] at hp
  clear u0
  rw [u2] at hp
  clear u2
  rw [u3] at hp
  clear u3
  rw [u4] at hp
  clear u4
  rw [u5] at hp
  clear u5
  rw [u6] at hp
  clear u6
  rw [u7] at hp
  clear u7
  have hl : X % 36028797018963968 = d1 % 128 * 281474976710656 + d2 * 1099511627776 + d3 * 4294967296 + d4 * 16777216 + d5 * 65536 + d6 * 256 + d7 * 1 := by
    clear hp hX h1 h2
    subst hs
    omega
  rw [hl]
  omega
theorem own_k8_10 (x X p : Int) (hX : x % 18446744073709551616 = X) (hp : (p - (((X / 72057594037927936 % 256) - (X / 72057594037927936 % 256) % 1) * 72057594037927936 + ((X / 281474976710656 % 256) - (X / 281474976710656 % 256) % 64) * 281474976710656 + ((X / 1099511627776 % 256) - (X / 1099511627776 % 256) % 256) * 1099511627776 + ((X / 4294967296 % 256) - (X / 4294967296 % 256) % 256) * 4294967296 + ((X / 16777216 % 256) - (X / 16777216 % 256) % 256) * 16777216 + ((X / 65536 % 256) - (X / 65536 % 256) % 256) * 65536 + ((X / 256 % 256) - (X / 256 % 256) % 256) * 256 + ((X % 256) - (X % 256) % 256) * 1)) % 18446744073709551616 = 0) : (p - (x - x % 18014398509481984)) % 18446744073709551616 = 0 := by
  have h1 : 0 ≤ X := by omega
  have h2 : X < 18446744073709551616 := by omega
  have h3 : x % 18014398509481984 = X % 18014398509481984 := by omega
  obtain ⟨d0, d1, d2, d3, d4, d5, d6, d7, g0, g1, g2, g3, g4, g5, g6, g7, hd, hs⟩ := own_dig X h1 h2
  rw [g0, g1, g2, g3, g4, g5, g6, g7] at hp
  rw [h3]
  clear g0 g1 g2 g3 g4 g5 g6 g7 h3
  have u0 : d0 % 1 = 0 := by omega
  have u2 : d2 % 256 = d2 := by omega
  have u3 : d3 % 256 = d3 := by omega
  have u4 : d4 % 256 = d4 := by omega
  have u5 : d5 % 256 = d5 := by omega
  have u6 : d6 % 256 = d6 := by omega
  have u7 : d7 % 256 = d7 := by omega
  rw [u0] at hp
  clear u0
  rw [u2] at hp
  clear u2
  rw [u3] at hp
  clear u3
  rw [u4] at hp
  clear u4
  rw [u5] at hp
  clear u5
  rw [u6] at hp
  clear u6
  rw [u7] at hp
  clear u7
  have hl : X % 18014398509481984 = d1 % 64 * 281474976710656 + d2 * 1099511627776 + d3 * 4294967296 + d4 * 16777216 + d5 * 65536 + d6 * 256 + d7 * 1 := by
    clear hp hX h1 h2
    subst hs
    omega
  rw [hl]
  omega
theorem own_k8_11 (x X p : Int) (hX : x % 18446744073709551616 = X) (hp : (p - (((X / 72057594037927936 % 256) - (X / 72057594037927936 % 256) % 1) * 72057594037927936 + ((X / 281474976710656 % 256) - (X / 281474976710656 % 256) % 32) * 281474976710656 + ((X / 1099511627776 % 256) - (X / 1099511627776 % 256) % 256) * 1099511627776 + ((X / 4294967296 % 256) - (X / 4294967296 % 256) % 256) * 4294967296 + ((X / 16777216 % 256) - (X / 16777216 % 256) % 256) * 16777216 + ((X / 65536 % 256) - (X / 65536 % 256) % 256) * 65536 + ((X / 256 % 256) - (X / 256 % 256) % 256) * 256 + ((X % 256) - (X % 256) % 256) * 1)) % 18446744073709551616 = 0) : (p - (x - x % 9007199254740992)) % 18446744073709551616 = 0 := by
  have h1 : 0 ≤ X := by omega
  have h2 : X < 18446744073709551616 := by omega
  have h3 : x % 9007199254740992 = X % 9007199254740992 := by omega
  obtain ⟨d0, d1, d2, d3, d4, d5, d6, d7, g0, g1, g2, g3, g4, g5, g6, g7, hd, hs⟩ := own_dig X h1 h2
  rw [g0, g1, g2, g3, g4, g5, g6, g7] at hp
  rw [h3]
  clear g0 g1 g2 g3 g4 g5 g6 g7 h3
  have u0 : d0 % 1 = 0 := by omega
  have u2 : d2 % 256 = d2 := by omega
  have u3 : d3 % 256 = d3 := by omega
  have u4 : d4 % 256 = d4 := by omega
  have u5 : d5 % 256 = d5 := by omega
  have u6 : d6 % 256 = d6 := by omega
  have u7 : d7 % 256 = d7 := by omega
  rw [u0] at hp
  clear u0
  rw [u2] at hp
  clear u2
  rw [u3] at hp
  clear u3
  rw [u4] at hp
  clear u4
  rw [u5] at hp
  clear u5
  rw [u6] at hp
  clear u6
  rw [u7] at hp
  clear u7
  have hl : X % 9007199254740992 = d1 % 32 * 281474976710656 + d2 * 1099511627776 + d3 * 4294967296 + d4 * 16777216 + d5 * 65536 + d6 * 256 + d7 * 1 := by
    clear hp hX h1 h2
    subst hs
    omega
  rw [hl]
  omega
theorem own_k8_12 (x X p : Int) (hX : x % 18446744073709551616 = X) (hp : (p - (((X / 72057594037927936 % 256) - (X / 72057594037927936 % 256) % 1) * 72057594037927936 + ((X / 281474976710656 % 256) - (X / 281474976710656 % 256) % 16) * 281474976710656 + ((X / 1099511627776 % 256) - (X / 1099511627776 % 256) % 256) * 1099511627776 + ((X / 4294967296 % 256) - (X / 4294967296 % 256) % 256) * 4294967296 + ((X / 16777216 % 256) - (X / 16777216 % 256) % 256) * 16777216 + ((X / 65536 % 256) - (X / 65536 % 256) % 256) * 65536 + ((X / 256 % 256) - (X / 256 % 256) % 256) * 256 + ((X % 256) - (X % 256) % 256) * 1)) % 18446744073709551616 = 0) : (p - (x - x % 4503599627370496)) % 18446744073709551616 = 0 := by
  have h1 : 0 ≤ X := by omega
  have h2 : X < 18446744073709551616 := by omega
  have h3 : x % 4503599627370496 = X % 4503599627370496 := by omega
  obtain ⟨d0, d1, d2, d3, d4, d5, d6, d7, g0, g1, g2, g3, g4, g5, g6, g7, hd, hs⟩ := own_dig X h1 h2
  rw [g0, g1, g2, g3, g4, g5, g6, g7] at hp
  rw [h3]
  clear g0 g1 g2 g3 g4 g5 g6 g7 h3
  have u0 : d0 % 1 = 0 := by omega
  have u2 : d2 % 256 = d2 := by omega
  have u3 : d3 % 256 = d3 := by omega
  have u4 : d4 % 256 = d4 := by omega
  have u5 : d5 % 256 = d5 := by omega
  have u6 : d6 % 256 = d6 := by omega
  have u7 : d7 % 256 = d7 := by omega
  rw [u0] at hp
  clear u0
  rw [u2] at hp
  clear u2
  rw [u3] at hp
  clear u3
  rw [u4] at hp
  clear u4
  rw [u5] at hp
  clear u5
  rw [u6] at hp
  clear u6
  rw [u7] at hp
  clear u7
  have hl : X % 4503599627370496 = d1 % 16 * 281474976710656 + d2 * 1099511627776 + d3 * 4294967296 + d4 * 16777216 + d5 * 65536 + d6 * 256 + d7 * 1 := by
    clear hp hX h1 h2
    subst hs
    omega
  rw [hl]
  omega
theorem own_k8_13 (x X p : Int) (hX : x % 18446744073709551616 = X) (hp : (p - (((X / 72057594037927936 % 256) - (X / 72057594037927936 % 256) % 1) * 72057594037927936 + ((X / 281474976710656 % 256) - (X / 281474976710656 % 256) % 8) * 281474976710656 + ((X / 1099511627776 % 256) - (X / 1099511627776 % 256) % 256) * 1099511627776 + ((X / 4294967296 % 256) - (X / 4294967296 % 256) % 256) * 4294967296 + ((X / 16777216 % 256) - (X / 16777216 % 256) % 256) * 16777216 + ((X / 65536 % 256) - (X / 65536 % 256) % 256) * 65536 + ((X / 256 % 256) - (X / 256 % 256) % 256) * 256 + ((X % 256) - (X % 256) % 256) * 1)) % 18446744073709551616 = 0) : (p - (x - x % 2251799813685248)) % 18446744073709551616 = 0 := by
  have h1 : 0 ≤ X := by omega
  have h2 : X < 18446744073709551616 := by omega
  have h3 : x % 2251799813685248 = X % 2251799813685248 := by omega
  obtain ⟨d0, d1, d2, d3, d4, d5, d6, d7, g0, g1, g2, g3, g4, g5, g6, g7, hd, hs⟩ := own_dig X h1 h2
  rw [g0, g1, g2, g3, g4, g5, g6, g7] at hp
  rw [h3]
  clear g0 g1 g2 g3 g4 g5 g6 g7 h3
  have u0 : d0 % 1 = 0 := by omega
  have u2 : d2 % 256 = d2 := by omega
  have u3 : d3 % 256 = d3 := by omega
  have u4 : d4 % 256 = d4 := by omega
  have u5 : d5 % 256 = d5 := by omega
  have u6 : d6 % 256 = d6 := by omega
  have u7 : d7 % 256 = d7 := by omega
  rw [u0] at hp
  clear u0
  rw [u2] at hp
  clear u2
  rw [u3] at hp
  clear u3
  rw [u4] at hp
  clear u4
  rw [u5] at hp
  clear u5
  rw [u6] at hp
  clear u6
  rw [u7] at hp
  clear u7
  have hl : X % 2251799813685248 = d1 % 8 * 281474976710656 + d2 * 1099511627776 + d3 * 4294967296 + d4 * 16777216 + d5 * 65536 + d6 * 256 + d7 * 1 := by
    clear hp hX h1 h2
    subst hs
    omega
  rw [hl]
  omega
theorem own_k8_14 (x X p : Int) (hX : x % 18446744073709551616 = X) (hp : (p - (((X / 72057594037927936 % 256) - (X / 72057594037927936 % 256) % 1) * 72057594037927936 + ((X / 281474976710656 % 256) - (X / 281474976710656 % 256) % 4) * 281474976710656 + ((X / 1099511627776 % 256) - (X / 1099511627776 % 256) % 256) * 1099511627776 + ((X / 4294967296 % 256) - (X / 4294967296 % 256) % 256) * 4294967296 + ((X / 16777216 % 256) - (X / 16777216 % 256) % 256) * 16777216 + ((X / 65536 % 256) - (X / 65536 % 256) % 256) * 65536 + ((X / 256 % 256) - (X / 256 % 256) % 256) * 256 + ((X % 256) - (X % 256) % 256) * 1)) % 18446744073709551616 = 0) : (p - (x - x % 1125899906842624)) % 18446744073709551616 = 0 := by
  have h1 : 0 ≤ X := by omega
  have h2 : X < 18446744073709551616 := by omega
  have h3 : x % 1125899906842624 = X % 1125899906842624 := by omega
  obtain ⟨d0, d1, d2, d3, d4, d5, d6, d7, g0, g1, g2, g3, g4, g5, g6, g7, hd, hs⟩ := own_dig X h1 h2
  rw [g0, g1, g2, g3, g4, g5, g6, g7] at hp
  rw [h3]
  clear g0 g1 g2 g3 g4 g5 g6 g7 h3
  have u0 : d0 % 1 = 0 := by omega
  have u2 : d2 % 256 = d2 := by omega
  have u3 : d3 % 256 = d3 := by omega
  have u4 : d4 % 256 = d4 := by omega
  have u5 : d5 % 256 = d5 := by omega
  have u6 : d6 % 256 = d6 := by omega
  have u7 : d7 % 256 = d7 := by omega
  rw [u0] at hp
  clear u0
  rw [u2] at hp
  clear u2
  rw [u3] at hp
  clear u3
  rw [u4] at hp
  clear u4
  rw [u5] at hp
  clear u5
  rw [u6] at hp
  clear u6
  rw [u7] at hp
  clear u7
  have hl : X % 1125899906842624 = d1 % 4 * 281474976710656 + d2 * 1099511627776 + d3 * 4294967296 + d4 * 16777216 + d5 * 65536 + d6 * 256 + d7 * 1 := by
    clear hp hX h1 h2
    subst hs
    omega
  rw [hl]
  omega
theorem own_k8_15 (x X p : Int) (hX : x % 18446744073709551616 = X) (hp : (p - (((X / 72057594037927936 % 256) - (X / 72057594037927936 % 256) % 1) * 72057594037927936 + ((X / 281474976710656 % 256) - (X / 281474976710656 % 256) % 2) * 281474976710656 + ((X / 1099511627776 % 256) - (X / 1099511627776 % 256) % 256) * 1099511627776 + ((X / 4294967296 % 256) - (X / 4294967296 % 256) % 256) * 4294967296 + ((X / 16777216 % 256) - (X / 16777216 % 256) % 256) * 16777216 + ((X / 65536 % 256) - (X / 65536 % 256) % 256) * 65536 + ((X / 256 % 256) - (X / 256 % 256) % 256) * 256 + ((X % 256) - (X % 256) % 256) * 1)) % 18446744073709551616 = 0) : (p - (x - x % 562949953421312)) % 18446744073709551616 = 0 := by
  have h1 : 0 ≤ X := by omega
  have h2 : X < 18446744073709551616 := by omega
  have h3 : x % 562949953421312 = X % 562949953421312 := by omega
  obtain ⟨d0, d1, d2, d3, d4, d5, d6, d7, g0, g1, g2, g3, g4, g5, g6, g7, hd, hs⟩ := own_dig X h1 h2
  rw [g0, g1, g2, g3, g4, g5, g6, g7] at hp
  rw [h3]
  clear g0 g1 g2 g3 g4 g5 g6 g7 h3
  have u0 : d0 % 1 = 0 := by omega
  have u2 : d2 % 256 = d2 := by omega
  have u3 : d3 % 256 = d3 := by omega
  have u4 : d4 % 256 = d4 := by omega
  have u5 : d5 % 256 = d5 := by omega
  have u6 : d6 % 256 = d6 := by omega
  have u7 : d7 % 256 = d7 := by omega
  rw [u0] at hp
  clear u0
  rw [u2] at hp
  clear u2
  rw [u3] at hp
  clear u3
  rw [u4] at hp
  clear u4
  rw [u5] at hp
  clear u5
  rw [u6] at hp
  clear u6
  rw [u7] at hp
  clear u7
  have hl : X % 562949953421312 = d1 % 2 * 281474976710656 + d2 * 1099511627776 + d3 * 4294967296 + d4 * 16777216 + d5 * 65536 + d6 * 256 + d7 * 1 := by
    clear hp hX h1 h2
    subst hs
    omega
  rw [hl]
  omega
theorem own_k8_16 (x X p : Int) (hX : x % 18446744073709551616 = X) (hp : (p - (((X / 72057594037927936 % 256) - (X / 72057594037927936 % 256) % 1) * 72057594037927936 + ((X / 281474976710656 % 256) - (X / 281474976710656 % 256) % 1) * 281474976710656 + ((X / 1099511627776 % 256) - (X / 1099511627776 % 256) % 256) * 1099511627776 + ((X / 4294967296 % 256) - (X / 4294967296 % 256) % 256) * 4294967296 + ((X / 16777216 % 256) - (X / 16777216 % 256) % 256) * 16777216 + ((X / 65536 % 256) - (X / 65536 % 256) % 256) * 65536 + ((X / 256 % 256) - (X / 256 % 256) % 256) * 256 + ((X % 256) - (X % 256) % 256) * 1)) % 18446744073709551616 = 0) : (p - (x - x % 281474976710656)) % 18446744073709551616 = 0 := by
  have h1 : 0 ≤ X := by omega
  have h2 : X < 18446744073709551616 := by omega
  have h3 : x % 281474976710656 = X % 281474976710656 := by omega
  obtain ⟨d0, d1, d2, d3, d4, d5, d6, d7, g0, g1, g2, g3, g4, g5, g6, g7, hd, hs⟩ := own_dig X h1 h2
  rw [g0, g1, g2, g3, g4, g5, g6, g7] at hp
  rw [h3]
  clear g0 g1 g2 g3 g4 g5 g6 g7 h3
  have u0 : d0 % 1 = 0 := by omega
  have u1 : d1 % 1 = 0 := by omega
  have u2 : d2 % 256 = d2 := by omega
  have u3 : d3 % 256 = d3 := by omega
  have u4 : d4 % 256 = d4 := by omega
  have u5 : d5 % 256 = d5 := by omega
  have u6 : d6 % 256 = d6 := by omega
  have u7 : d7 % 256 = d7 := by omega
  rw [u0] at hp
  clear u0
  rw [u1] at hp
  clear u1
  rw [u2] at hp
  clear u2
  rw [u3] at hp
  clear u3
  rw [u4] at hp
  clear u4
  rw [u5] at hp
  clear u5
  rw [u6] at hp
  clear u6
  rw [u7] at hp
  clear u7
  have hl : X % 281474976710656 = d2 * 1099511627776 + d3 * 4294967296 + d4 * 16777216 + d5 * 65536 + d6 * 256 + d7 * 1 := by
    clear hp hX h1 h2
    subst hs
    omega
  rw [hl]
  omega
theorem own_k8_17 (x X p : Int) (hX : x % 18446744073709551616 = X) (hp : (p - (((X / 72057594037927936 % 256) - (X / 72057594037927936 % 256) % 1) * 72057594037927936 + ((X / 281474976710656 % 256) - (X / 281474976710656 % 256) % 1) * 281474976710656 + ((X / 1099511627776 % 256) - (X / 1099511627776 % 256) % 128) * 1099511627776 + ((X / 4294967296 % 256) - (X / 4294967296 % 256) % 256) * 4294967296 + ((X / 16777216 % 256) - (X / 16777216 % 256) % 256) * 16777216 + ((X / 65536 % 256) - (X / 65536 % 256) % 256) * 65536 + ((X / 256 % 256) - (X / 256 % 256) % 256) * 256 + ((X % 256) - (X % 256) % 256) * 1)) % 18446744073709551616 = 0) : (p - (x - x % 140737488355328)) % 18446744073709551616 = 0 := by
  have h1 : 0 ≤ X := by omega
  have h2 : X < 18446744073709551616 := by omega
  have h3 : x % 140737488355328 = X % 140737488355328 := by omega
  obtain ⟨d0, d1, d2, d3, d4, d5, d6, d7, g0, g1, g2, g3, g4, g5, g6, g7, hd, hs⟩ := own_dig X h1 h2
  rw [g0, g1, g2, g3, g4, g5, g6, g7] at hp
  rw [h3]
  clear g0 g1 g2 g3 g4 g5 g6 g7 h3
  have u0 : d0 % 1 = 0 := by omega
  have u1 : d1 % 1 = 0 := by omega
  have u3 : d3 % 256 = d3 := by omega
  have u4 : d4 % 256 = d4 := by omega
  have u5 : d5 % 256 = d5 := by omega
  have u6 : d6 % 256 = d6 := by omega
  have u7 : d7 % 256 = d7 := by omega
  rw [u0] at hp
  clear u0
  rw [u1] at hp
  clear u1
  rw [u3] at hp
  clear u3
  rw [u4] at hp
  clear u4
  rw [u5] at hp
  clear u5
  rw [u6] at hp
  clear u6
  rw [u7] at hp
  clear u7
  have hl : X % 140737488355328 = d2 % 128 * 1099511627776 + d3 * 4294967296 + d4 * 16777216 + d5 * 65536 + d6 * 256 + d7 * 1 := by
    clear hp hX h1 h2
    subst hs
    omega
  rw [hl]
  omega
theorem own_k8_18 (x X p : Int) (hX : x % 18446744073709551616 = X) (hp : (p - (((X / 72057594037927936 % 256) - (X / 72057594037927936 % 256) % 1) * 72057594037927936 + ((X / 281474976710656 % 256) - (X / 281474976710656 % 256) % 1) * 281474976710656 + ((X / 1099511627776 % 256) - (X / 1099511627776 % 256) % 64) * 1099511627776 + ((X / 4294967296 % 256) - (X / 4294967296 % 256) % 256) * 4294967296 + ((X / 16777216 % 256) - (X / 16777216 % 256) % 256) * 16777216 + ((X / 65536 % 256) - (X / 65536 % 256) % 256) * 65536 + ((X / 256 % 256) - (X / 256 % 256) % 256) * 256 + ((X % 256) - (X % 256) % 256) * 1)) % 18446744073709551616 = 0) : (p - (x - x % 70368744177664)) % 18446744073709551616 = 0 := by
  have h1 : 0 ≤ X := by omega
  have h2 : X < 18446744073709551616 := by omega
  have h3 : x % 70368744177664 = X % 70368744177664 := by omega
  obtain ⟨d0, d1, d2, d3, d4, d5, d6, d7, g0, g1, g2, g3, g4, g5, g6, g7, hd, hs⟩ := own_dig X h1 h2
  rw [g0, g1, g2, g3, g4, g5, g6, g7] at hp
  rw [h3]
  clear g0 g1 g2 g3 g4 g5 g6 g7 h3
  have u0 : d0 % 1 = 0 := by omega
  have u1 : d1 % 1 = 0 := by omega
  have u3 : d3 % 256 = d3 := by omega
  have u4 : d4 % 256 = d4 := by omega
  have u5 : d5 % 256 = d5 := by omega
  have u6 : d6 % 256 = d6 := by omega
  have u7 : d7 % 256 = d7 := by omega
  rw [u0] at hp
  clear u0
  rw [u1] at hp
  clear u1
  rw [u3] at hp
  clear u3
  rw [u4] at hp
  clear u4
  rw [u5] at hp
  clear u5
  rw [u6] at hp
  clear u6
  rw [u7] at hp
  clear u7
  have hl : X % 70368744177664 = d2 % 64 * 1099511627776 + d3 * 4294967296 + d4 * 16777216 + d5 * 65536 + d6 * 256 + d7 * 1 := by
    clear hp hX h1 h2
    subst hs
    omega
  rw [hl]
  omega
theorem own_k8_19 (x X p : Int) (hX : x % 18446744073709551616 = X) (hp : (p - (((X / 72057594037927936 % 256) - (X / 72057594037927936 % 256) % 1) * 72057594037927936 + ((X / 281474976710656 % 256) - (X / 281474976710656 % 256) % 1) * 281474976710656 + ((X / 1099511627776 % 256) - (X / 1099511627776 % 256) % 32) * 1099511627776 + ((X / 4294967296 % 256) - (X / 4294967296 % 256) % 256) * 4294967296 + ((X / 16777216 % 256) - (X / 16777216 % 256) % 256) * 16777216 + ((X / 65536 % 256) - (X / 65536 % 256) % 256) * 65536 + ((X / 256 % 256) - (X / 256 % 256) % 256) * 256 + ((X % 256) - (X % 256) % 256) * 1)) % 18446744073709551616 = 0) : (p - (x - x % 35184372088832)) % 18446744073709551616 = 0 := by
  have h1 : 0 ≤ X := by omega
  have h2 : X < 18446744073709551616 := by omega
  have h3 : x % 35184372088832 = X % 35184372088832 := by omega
  obtain ⟨d0, d1, d2, d3, d4, d5, d6, d7, g0, g1, g2, g3, g4, g5, g6, g7, hd, hs⟩ := own_dig X h1 h2
  rw [g0, g1, g2, g3, g4, g5, g6, g7] at hp
  rw [h3]
  clear g0 g1 g2 g3 g4 g5 g6 g7 h3
  have u0 : d0 % 1 = 0 := by omega
  have u1 : d1 % 1 = 0 := by omega
  have u3 : d3 % 256 = d3 := by omega
  have u4 : d4 % 256 = d4 := by omega
  have u5 : d5 % 256 = d5 := by omega
  have u6 : d6 % 256 = d6 := by omega
  have u7 : d7 % 256 = d7 := by omega
  rw [u0] at hp
  clear u0
  rw [u1] at hp
  clear u1
  rw [u3] at hp
  clear u3
  rw [u4] at hp
  clear u4
  rw [u5] at hp
  clear u5
  rw [u6] at hp
  clear u6
  rw [u7] at hp
  clear u7
  have hl : X % 35184372088832 = d2 % 32 * 1099511627776 + d3 * 4294967296 + d4 * 16777216 + d5 * 65536 + d6 * 256 + d7 * 1 := by
    clear hp hX h1 h2
    subst hs
    omega
  rw [hl]
  omega
theorem own_k8_20 (x X p : Int) (hX : x % 18446744073709551616 = X) (hp : (p - (((X / 72057594037927936 % 256) - (X / 72057594037927936 % 256) % 1) * 72057594037927936 + ((X / 281474976710656 % 256) - (X / 281474976710656 % 256) % 1) * 281474976710656 + ((X / 1099511627776 % 256) - (X / 1099511627776 % 256) % 16) * 1099511627776 + ((X / 4294967296 % 256) - (X / 4294967296 % 256) % 256) * 4294967296 + ((X / 16777216 % 256) - (X / 16777216 % 256) % 256) * 16777216 + ((X / 65536 % 256) - (X / 65536 % 256) % 256) * 65536 + ((X / 256 % 256) - (X / 256 % 256) % 256) * 256 + ((X % 256) - (X % 256) % 256) * 1)) % 18446744073709551616 = 0) : (p - (x - x % 17592186044416)) % 18446744073709551616 = 0 := by
  have h1 : 0 ≤ X := by omega
  have h2 : X < 18446744073709551616 := by omega
  have h3 : x % 17592186044416 = X % 17592186044416 := by omega
  obtain ⟨d0, d1, d2, d3, d4, d5, d6, d7, g0, g1, g2, g3, g4, g5, g6, g7, hd, hs⟩ := own_dig X h1 h2
  rw [g0, g1, g2, g3, g4, g5, g6, g7] at hp
  rw [h3]
  clear g0 g1 g2 g3 g4 g5 g6 g7 h3
  have u0 : d0 % 1 = 0 := by omega
  have u1 : d1 % 1 = 0 := by omega
  have u3 : d3 % 256 = d3 := by omega
  have u4 : d4 % 256 = d4 := by omega
  have u5 : d5 % 256 = d5 := by omega
  have u6 : d6 % 256 = d6 := by omega
  have u7 : d7 % 256 = d7 := by omega
  rw [u0] at hp
  clear u0
  rw [u1] at hp
  clear u1
  rw [u3] at hp
  clear u3
  rw [u4] at hp
  clear u4
  rw [u5] at hp
  clear u5
  rw [u6] at hp
  clear u6
  rw [u7] at hp
  clear u7
  have hl : X % 17592186044416 = d2 % 16 * 1099511627776 + d3 * 4294967296 + d4 * 16777216 + d5 * 65536 + d6 * 256 + d7 * 1 := by
    clear hp hX h1 h2
    subst hs
    omega
  rw [hl]
  omega
theorem own_k8_21 (x X p : Int) (hX : x % 18446744073709551616 = X) (hp : (p - (((X / 72057594037927936 % 256) - (X / 72057594037927936 % 256) % 1) * 72057594037927936 + ((X / 281474976710656 % 256) - (X / 281474976710656 % 256) % 1) * 281474976710656 + ((X / 1099511627776 % 256) - (X / 1099511627776 % 256) % 8) * 1099511627776 + ((X / 4294967296 % 256) - (X / 4294967296 % 256) % 256) * 4294967296 + ((X / 16777216 % 256) - (X / 16777216 % 256) % 256) * 16777216 + ((X / 65536 % 256) - (X / 65536 % 256) % 256) * 65536 + ((X / 256 % 256) - (X / 256 % 256) % 256) * 256 + ((X % 256) - (X % 256) % 256) * 1)) % 18446744073709551616 = 0) : (p - (x - x % 8796093022208)) % 18446744073709551616 = 0 := by
  have h1 : 0 ≤ X := by omega
  have h2 : X < 18446744073709551616 := by omega
  have h3 : x % 8796093022208 = X % 8796093022208 := by omega
  obtain ⟨d0, d1, d2, d3, d4, d5, d6, d7, g0, g1, g2, g3, g4, g5, g6, g7, hd, hs⟩ := own_dig X h1 h2
  rw [g0, g1, g2, g3, g4, g5, g6, g7] at hp
  rw [h3]
  clear g0 g1 g2 g3 g4 g5 g6 g7 h3
  have u0 : d0 % 1 = 0 := by omega
  have u1 : d1 % 1 = 0 := by omega
  have u3 : d3 % 256 = d3 := by omega
  have u4 : d4 % 256 = d4 := by omega
  have u5 : d5 % 256 = d5 := by omega
  have u6 : d6 % 256 = d6 := by omega
  have u7 : d7 % 256 = d7 := by omega
  rw [u0] at hp
  clear u0
  rw [u1] at hp
  clear u1
  rw [u3] at hp
  clear u3
  rw [u4] at hp
  clear u4
  rw [u5] at hp
  clear u5
  rw [u6] at hp
  clear u6
  rw [u7] at hp
  clear u7
  have hl : X % 8796093022208 = d2 % 8 * 1099511627776 + d3 * 4294967296 + d4 * 16777216 + d5 * 65536 + d6 * 256 + d7 * 1 := by
    clear hp hX h1 h2
    subst hs
    omega
  rw [hl]
  omega
theorem own_k8_22 (x X p : Int) (hX : x % 18446744073709551616 = X) (hp : (p - (((X / 72057594037927936 % 256) - (X / 72057594037927936 % 256) % 1) * 72057594037927936 + ((X / 281474976710656 % 256) - (X / 281474976710656 % 256) % 1) * 281474976710656 + ((X / 1099511627776 % 256) - (X / 1099511627776 % 256) % 4) * 1099511627776 + ((X / 4294967296 % 256) - (X / 4294967296 % 256) % 256) * 4294967296 + ((X / 16777216 % 256) - (X / 16777216 % 256) % 256) * 16777216 + ((X / 65536 % 256) - (X / 65536 % 256) % 256) * 65536 + ((X / 256 % 256) - (X / 256 % 256) % 256) * 256 + ((X % 256) - (X % 256) % 256) * 1)) % 18446744073709551616 = 0) : (p - (x - x % 4398046511104)) % 18446744073709551616 = 0 := by
  have h1 : 0 ≤ X := by omega
  have h2 : X < 18446744073709551616 := by omega
  have h3 : x % 4398046511104 = X % 4398046511104 := by omega
  obtain ⟨d0, d1, d2, d3, d4, d5, d6, d7, g0, g1, g2, g3, g4, g5, g6, g7, hd, hs⟩ := own_dig X h1 h2
  rw [g0, g1, g2, g3, g4, g5, g6, g7] at hp
  rw [h3]
  clear g0 g1 g2 g3 g4 g5 g6 g7 h3
  have u0 : d0 % 1 = 0 := by omega
  have u1 : d1 % 1 = 0 := by omega
  have u3 : d3 % 256 = d3 := by omega
  have u4 : d4 % 256 = d4 := by omega
  have u5 : d5 % 256 = d5 := by omega
  have u6 : d6 % 256 = d6 := by omega
  have u7 : d7 % 256 = d7 := by omega
  rw [u0] at hp
  clear u0
  rw [u1] at hp
  clear u1
  rw [u3] at hp
  clear u3
  rw [u4] at hp
  clear u4
  rw [u5] at hp
  clear u5
  rw [u6] at hp
  clear u6
  rw [u7] at hp
  clear u7
  have hl : X % 4398046511104 = d2 % 4 * 1099511627776 + d3 * 4294967296 + d4 * 16777216 + d5 * 65536 + d6 * 256 + d7 * 1 := by
    clear hp hX h1 h2
    subst hs
    omega
  rw [hl]
  omega
theorem own_k8_23 (x X p : Int) (hX : x % 18446744073709551616 = X) (hp : (p - (((X / 72057594037927936 % 256) - (X / 72057594037927936 % 256) % 1) * 72057594037927936 + ((X / 281474976710656 % 256) - (X / 281474976710656 % 256) % 1) * 281474976710656 + ((X / 1099511627776 % 256) - (X / 1099511627776 % 256) % 2) * 1099511627776 + ((X / 4294967296 % 256) - (X / 4294967296 % 256) % 256) * 4294967296 + ((X / 16777216 % 256) - (X / 16777216 % 256) % 256) * 16777216 + ((X / 65536 % 256) - (X / 65536 % 256) % 256) * 65536 + ((X / 256 % 256) - (X / 256 % 256) % 256) * 256 + ((X % 256) - (X % 256) % 256) * 1)) % 18446744073709551616 = 0) : (p - (x - x % 2199023255552)) % 18446744073709551616 = 0 := by
  have h1 : 0 ≤ X := by omega
  have h2 : X < 18446744073709551616 := by omega
  have h3 : x % 2199023255552 = X % 2199023255552 := by omega
  obtain ⟨d0, d1, d2, d3, d4, d5, d6, d7, g0, g1, g2, g3, g4, g5, g6, g7, hd, hs⟩ := own_dig X h1 h2
  rw [g0, g1, g2, g3, g4, g5, g6, g7] at hp
  rw [h3]
  clear g0 g1 g2 g3 g4 g5 g6 g7 h3
  have u0 : d0 % 1 = 0 := by omega
  have u1 : d1 % 1 = 0 := by omega
  have u3 : d3 % 256 = d3 := by omega
  have u4 : d4 % 256 = d4 := by omega
  have u5 : d5 % 256 = d5 := by omega
  have u6 : d6 % 256 = d6 := by omega
  have u7 : d7 % 256 = d7 := by omega
  rw [u0] at hp
  clear u0
  rw [u1] at hp
  clear u1
  rw [u3] at hp
  clear u3
  rw [u4] at hp
  clear u4
  rw [u5] at hp
  clear u5
  rw [u6] at hp
  clear u6
  rw [u7] at hp
  clear u7
  have hl : X % 2199023255552 = d2 % 2 * 1099511627776 + d3 * 4294967296 + d4 * 16777216 + d5 * 65536 + d6 * 256 + d7 * 1 := by
    clear hp hX h1 h2
    subst hs
    omega
  rw [hl]
  omega
theorem own_k8_24 (x X p : Int) (hX : x % 18446744073709551616 = X) (hp : (p - (((X / 72057594037927936 % 256) - (X / 72057594037927936 % 256) % 1) * 72057594037927936 + ((X / 281474976710656 % 256) - (X / 281474976710656 % 256) % 1) * 281474976710656 + ((X / 1099511627776 % 256) - (X / 1099511627776 % 256) % 1) * 1099511627776 + ((X / 4294967296 % 256) - (X / 4294967296 % 256) % 256) * 4294967296 + ((X / 16777216 % 256) - (X / 16777216 % 256) % 256) * 16777216 + ((X / 65536 % 256) - (X / 65536 % 256) % 256) * 65536 + ((X / 256 % 256) - (X / 256 % 256) % 256) * 256 + ((X % 256) - (X % 256) % 256) * 1)) % 18446744073709551616 = 0) : (p - (x - x % 1099511627776)) % 18446744073709551616 = 0 := by
  have h1 : 0 ≤ X := by omega
  have h2 : X < 18446744073709551616 := by omega
  have h3 : x % 1099511627776 = X % 1099511627776 := by omega
  obtain ⟨d0, d1, d2, d3, d4, d5, d6, d7, g0, g1, g2, g3, g4, g5, g6, g7, hd, hs⟩ := own_dig X h1 h2
  rw [g0, g1, g2, g3, g4, g5, g6, g7] at hp
  rw [h3]
  clear g0 g1 g2 g3 g4 g5 g6 g7 h3
  have u0 : d0 % 1 = 0 := by omega
  have u1 : d1 % 1 = 0 := by omega
  have u2 : d2 % 1 = 0 := by omega
  have u3 : d3 % 256 = d3 := by omega
  have u4 : d4 % 256 = d4 := by omega
  have u5 : d5 % 256 = d5 := by omega
  have u6 : d6 % 256 = d6 := by omega
  have u7 : d7 % 256 = d7 := by omega
  rw [u0] at hp
  clear u0
  rw [u1] at hp
  clear u1
  rw [u2] at hp
  clear u2
  rw [u3] at hp
  clear u3
  rw [u4] at hp
  clear u4
  rw [u5] at hp
  clear u5
  rw [u6] at hp
  clear u6
  rw [u7] at hp
  clear u7
  have hl : X % 1099511627776 = d3 * 4294967296 + d4 * 16777216 + d5 * 65536 + d6 * 256 + d7 * 1 := by
    clear hp hX h1 h2
    subst hs
    omega
  rw [hl]
  omega
theorem own_k8_25 (x X p : Int) (hX : x % 18446744073709551616 = X) (hp : (p - (((X / 72057594037927936 % 256) - (X / 72057594037927936 % 256) % 1) * 72057594037927936 + ((X / 281474976710656 % 256) - (X / 281474976710656 % 256) % 1) * 281474976710656 + ((X / 1099511627776 % 256) - (X / 1099511627776 % 256) % 1) * 1099511627776 + ((X / 4294967296 % 256) - (X / 4294967296 % 256) % 128) * 4294967296 + ((X / 16777216 % 256) - (X / 16777216 % 256) % 256) * 16777216 + ((X / 65536 % 256) - (X / 65536 % 256) % 256) * 65536 + ((X / 256 % 256) - (X / 256 % 256) % 256) * 256 + ((X % 256) - (X % 256) % 256) * 1)) % 18446744073709551616 = 0) : (p - (x - x % 549755813888)) % 18446744073709551616 = 0 := by
  have h1 : 0 ≤ X := by omega
  have h2 : X < 18446744073709551616 := by omega
  have h3 : x % 549755813888 = X % 549755813888 := by omega
  obtain ⟨d0, d1, d2, d3, d4, d5, d6, d7, g0, g1, g2, g3, g4, g5, g6, g7, hd, hs⟩ := own_dig X h1 h2
  rw [g0, g1, g2, g3, g4, g5, g6, g7] at hp
  rw [h3]
  clear g0 g1 g2 g3 g4 g5 g6 g7 h3
  have u0 : d0 % 1 = 0 := by omega
  have u1 : d1 % 1 = 0 := by omega
  have u2 : d2 % 1 = 0 := by omega
  have u4 : d4 % 256 = d4 := by omega
  have u5 : d5 % 256 = d5 := by omega
  have u6 : d6 % 256 = d6 := by omega
  have u7 : d7 % 256 = d7 := by omega
  rw [u0] at hp
  clear u0
  rw [u1] at hp
  clear u1
  rw [u2] at hp
  clear u2
  rw [u4] at hp
  clear u4
  rw [u5] at hp
  clear u5
  rw [u6] at hp
  clear u6
  rw [u7] at hp
  clear u7
  have hl : X % 549755813888 = d3 % 128 * 4294967296 + d4 * 16777216 + d5 * 65536 + d6 * 256 + d7 * 1 := by
    clear hp hX h1 h2
    subst hs
    omega
  rw [hl]
  omega
theorem own_k8_26 (x X p : Int) (hX : x % 18446744073709551616 = X) (hp : (p - (((X / 72057594037927936 % 256) - (X / 72057594037927936 % 256) % 1) * 72057594037927936 + ((X / 281474976710656 % 256) - (X / 281474976710656 % 256) % 1) * 281474976710656 + ((X / 1099511627776 % 256) - (X / 1099511627776 % 256) % 1) * 1099511627776 + ((X / 4294967296 % 256) - (X / 4294967296 % 256) % 64) * 4294967296 + ((X / 16777216 % 256) - (X / 16777216 % 256) % 256) * 16777216 + ((X / 65536 % 256) - (X / 65536 % 256) % 256) * 65536 + ((X / 256 % 256) - (X / 256 % 256) % 256) * 256 + ((X % 256) - (X % 256) % 256) * 1)) % 18446744073709551616 = 0) : (p - (x - x % 274877906944)) % 18446744073709551616 = 0 := by
  have h1 : 0 ≤ X := by omega
  have h2 : X < 18446744073709551616 := by omega
  have h3 : x % 274877906944 = X % 274877906944 := by omega
  obtain ⟨d0, d1, d2, d3, d4, d5, d6, d7, g0, g1, g2, g3, g4, g5, g6, g7, hd, hs⟩ := own_dig X h1 h2
  rw [g0, g1, g2, g3, g4, g5, g6, g7] at hp
  rw [h3]
  clear g0 g1 g2 g3 g4 g5 g6 g7 h3
  have u0 : d0 % 1 = 0 := by omega
  have u1 : d1 % 1 = 0 := by omega
  have u2 : d2 % 1 = 0 := by omega
  have u4 : d4 % 256 = d4 := by omega
  have u5 : d5 % 256 = d5 := by omega
  have u6 : d6 % 256 = d6 := by omega
  have u7 : d7 % 256 = d7 := by omega
  rw [u0] at hp
  clear u0
  rw [u1] at hp
  clear u1
  rw [u2] at hp
  clear u2
  rw [u4] at hp
  clear u4
  rw [u5] at hp
  clear u5
  rw [u6] at hp
  clear u6
  rw [u7] at hp
  clear u7
  have hl : X % 274877906944 = d3 % 64 * 4294967296 + d4 * 16777216 + d5 * 65536 + d6 * 256 + d7 * 1 := by
    clear hp hX h1 h2
    subst hs
    omega
  rw [hl]
  omega
theorem own_k8_27 (x X p : Int) (hX : x % 18446744073709551616 = X) (hp : (p - (((X / 72057594037927936 % 256) - (X / 72057594037927936 % 256) % 1) * 72057594037927936 + ((X / 281474976710656 % 256) - (X / 281474976710656 % 256) % 1) * 281474976710656 + ((X / 1099511627776 % 256) - (X / 1099511627776 % 256) % 1) * 1099511627776 + ((X / 4294967296 % 256) - (X / 4294967296 % 256) % 32) * 4294967296 + ((X / 16777216 % 256) - (X / 16777216 % 256) % 256) * 16777216 + ((X / 65536 % 256) - (X / 65536 % 256) % 256) * 65536 + ((X / 256 % 256) - (X / 256 % 256) % 256) * 256 + ((X % 256) - (X % 256) % 256) * 1)) % 18446744073709551616 = 0) : (p - (x - x % 137438953472)) % 18446744073709551616 = 0 := by
  have h1 : 0 ≤ X := by omega
  have h2 : X < 18446744073709551616 := by omega
  have h3 : x % 137438953472 = X % 137438953472 := by omega
  obtain ⟨d0, d1, d2, d3, d4, d5, d6, d7, g0, g1, g2, g3, g4, g5, g6, g7, hd, hs⟩ := own_dig X h1 h2
  rw [g0, g1, g2, g3, g4, g5, g6, g7] at hp
  rw [h3]
  clear g0 g1 g2 g3 g4 g5 g6 g7 h3
  have u0 : d0 % 1 = 0 := by omega
  have u1 : d1 % 1 = 0 := by omega
  have u2 : d2 % 1 = 0 := by omega
  have u4 : d4 % 256 = d4 := by omega
  have u5 : d5 % 256 = d5 := by omega
  have u6 : d6 % 256 = d6 := by omega
  have u7 : d7 % 256 = d7 := by omega
  rw [u0] at hp
  clear u0
  rw [u1] at hp
  clear u1
  rw [u2] at hp
  clear u2
  rw [u4] at hp
  clear u4
  rw [u5] at hp
  clear u5
  rw [u6] at hp
  clear u6
  rw [u7] at hp
  clear u7
  have hl : X % 137438953472 = d3 % 32 * 4294967296 + d4 * 16777216 + d5 * 65536 + d6 * 256 + d7 * 1 := by
    clear hp hX h1 h2
    subst hs
    omega
  rw [hl]
  omega
theorem own_k8_28 (x X p : Int) (hX : x % 18446744073709551616 = X) (hp : (p - (((X / 72057594037927936 % 256) - (X / 72057594037927936 % 256) % 1) * 72057594037927936 + ((X / 281474976710656 % 256) - (X / 281474976710656 % 256) % 1) * 281474976710656 + ((X / 1099511627776 % 256) - (X / 1099511627776 % 256) % 1) * 1099511627776 + ((X / 4294967296 % 256) - (X / 4294967296 % 256) % 16) * 4294967296 + ((X / 16777216 % 256) - (X / 16777216 % 256) % 256) * 16777216 + ((X / 65536 % 256) - (X / 65536 % 256) % 256) * 65536 + ((X / 256 % 256) - (X / 256 % 256) % 256) * 256 + ((X % 256) - (X % 256) % 256) * 1)) % 18446744073709551616 = 0) : (p - (x - x % 68719476736)) % 18446744073709551616 = 0 := by
  have h1 : 0 ≤ X := by omega
  have h2 : X < 18446744073709551616 := by omega
  have h3 : x % 68719476736 = X % 68719476736 := by omega
  obtain ⟨d0, d1, d2, d3, d4, d5, d6, d7, g0, g1, g2, g3, g4, g5, g6, g7, hd, hs⟩ := own_dig X h1 h2
  rw [g0, g1, g2, g3, g4, g5, g6, g7] at hp
  rw [h3]
  clear g0 g1 g2 g3 g4 g5 g6 g7 h3
  have u0 : d0 % 1 = 0 := by omega
  have u1 : d1 % 1 = 0 := by omega
  have u2 : d2 % 1 = 0 := by omega
  have u4 : d4 % 256 = d4 := by omega
  have u5 : d5 % 256 = d5 := by omega
  have u6 : d6 % 256 = d6 := by omega
  have u7 : d7 % 256 = d7 := by omega
  rw [u0] at hp
  clear u0
  rw [u1] at hp
  clear u1
  rw [u2] at hp
  clear u2
  rw [u4] at hp
  clear u4
  rw [u5] at hp
  clear u5
  rw [u6] at hp
  clear u6
  rw [u7] at hp
  clear u7
  have hl : X % 68719476736 = d3 % 16 * 4294967296 + d4 * 16777216 + d5 * 65536 + d6 * 256 + d7 * 1 := by
    clear hp hX h1 h2
    subst hs
    omega
  rw [hl]
  omega
theorem own_k8_29 (x X p : Int) (hX : x % 18446744073709551616 = X) (hp : (p - (((X / 72057594037927936 % 256) - (X / 72057594037927936 % 256) % 1) * 72057594037927936 + ((X / 281474976710656 % 256) - (X / 281474976710656 % 256) % 1) * 281474976710656 + ((X / 1099511627776 % 256) - (X / 1099511627776 % 256) % 1) * 1099511627776 + ((X / 4294967296 % 256) - (X / 4294967296 % 256) % 8) * 4294967296 + ((X / 16777216 % 256) - (X / 16777216 % 256) % 256) * 16777216 + ((X / 65536 % 256) - (X / 65536 % 256) % 256) * 65536 + ((X / 256 % 256) - (X / 256 % 256) % 256) * 256 + ((X % 256) - (X % 256) % 256) * 1)) % 18446744073709551616 = 0) : (p - (x - x % 34359738368)) % 18446744073709551616 = 0 := by
  have h1 : 0 ≤ X := by omega
  have h2 : X < 18446744073709551616 := by omega
  have h3 : x % 34359738368 = X % 34359738368 := by omega
  obtain ⟨d0, d1, d2, d3, d4, d5, d6, d7, g0, g1, g2, g3, g4, g5, g6, g7, hd, hs⟩ := own_dig X h1 h2
  rw [g0, g1, g2, g3, g4, g5, g6, g7] at hp
  rw [h3]
  clear g0 g1 g2 g3 g4 g5 g6 g7 h3
  have u0 : d0 % 1 = 0 := by omega
  have u1 : d1 % 1 = 0 := by omega
  have u2 : d2 % 1 = 0 := by omega
  have u4 : d4 % 256 = d4 := by omega
  have u5 : d5 % 256 = d5 := by omega
  have u6 : d6 % 256 = d6 := by omega
  have u7 : d7 % 256 = d7 := by omega
  rw [u0] at hp
  clear u0
  rw [u1] at hp
  clear u1
  rw [u2] at hp
  clear u2
  rw [u4] at hp
  clear u4
  rw [u5] at hp
  clear u5
  rw [u6] at hp
  clear u6
  rw [u7] at hp
  clear u7
  have hl : X % 34359738368 = d3 % 8 * 4294967296 + d4 * 16777216 + d5 * 65536 + d6 * 256 + d7 * 1 := by
    clear hp hX h1 h2
    subst hs
    omega
  rw [hl]
  omega
theorem own_k8_30 (x X p : Int) (hX : x % 18446744073709551616 = X) (hp : (p - (((X / 72057594037927936 % 256) - (X / 72057594037927936 % 256) % 1) * 72057594037927936 + ((X / 281474976710656 % 256) - (X / 281474976710656 % 256) % 1) * 281474976710656 + ((X / 1099511627776 % 256) - (X / 1099511627776 % 256) % 1) * 1099511627776 + ((X / 4294967296 % 256) - (X / 4294967296 % 256) % 4) * 4294967296 + ((X / 16777216 % 256) - (X / 16777216 % 256) % 256) * 16777216 + ((X / 65536 % 256) - (X / 65536 % 256) % 256) * 65536 + ((X / 256 % 256) - (X / 256 % 256) % 256) * 256 + ((X % 256) - (X % 256) % 256) * 1)) % 18446744073709551616 = 0) : (p - (x - x % 17179869184)) % 18446744073709551616 = 0 := by
  have h1 : 0 ≤ X := by omega
  have h2 : X < 18446744073709551616 := by omega
  have h3 : x % 17179869184 = X % 17179869184 := by omega
  obtain ⟨d0, d1, d2, d3, d4, d5, d6, d7, g0, g1, g2, g3, g4, g5, g6, g7, hd, hs⟩ := own_dig X h1 h2
  rw [g0, g1, g2, g3, g4, g5, g6, g7] at hp
  rw [h3]
  clear g0 g1 g2 g3 g4 g5 g6 g7 h3
  have u0 : d0 % 1 = 0 := by omega
  have u1 : d1 % 1 = 0 := by omega
  have u2 : d2 % 1 = 0 := by omega
  have u4 : d4 % 256 = d4 := by omega
  have u5 : d5 % 256 = d5 := by omega
  have u6 : d6 % 256 = d6 := by omega
  have u7 : d7 % 256 = d7 := by omega
  rw [u0] at hp
  clear u0
  rw [u1] at hp
  clear u1
  rw [u2] at hp
  clear u2
  rw [u4] at hp
  clear u4
  rw [u5] at hp
  clear u5
  rw [u6] at hp
  clear u6
  rw [u7] at hp
  clear u7
  have hl : X % 17179869184 = d3 % 4 * 4294967296 + d4 * 16777216 + d5 * 65536 + d6 * 256 + d7 * 1 := by
    clear hp hX h1 h2
    subst hs
    omega
  rw [hl]
  omega
theorem own_k8_31 (x X p : Int) (hX : x % 18446744073709551616 = X) (hp : (p - (((X / 72057594037927936 % 256) - (X / 72057594037927936 % 256) % 1) * 72057594037927936 + ((X / 281474976710656 % 256) - (X / 281474976710656 % 256) % 1) * 281474976710656 + ((X / 1099511627776 % 256) - (X / 1099511627776 % 256) % 1) * 1099511627776 + ((X / 4294967296 % 256) - (X / 4294967296 % 256) % 2) * 4294967296 + ((X / 16777216 % 256) - (X / 16777216 % 256) % 256) * 16777216 + ((X / 65536 % 256) - (X / 65536 % 256) % 256) * 65536 + ((X / 256 % 256) - (X / 256 % 256) % 256) * 256 + ((X % 256) - (X % 256) % 256) * 1)) % 18446744073709551616 = 0) : (p - (x - x % 8589934592)) % 18446744073709551616 = 0 := by
  have h1 : 0 ≤ X := by omega
  have h2 : X < 18446744073709551616 := by omega
  have h3 : x % 8589934592 = X % 8589934592 := by omega
  obtain ⟨d0, d1, d2, d3, d4, d5, d6, d7, g0, g1, g2, g3, g4, g5, g6, g7, hd, hs⟩ := own_dig X h1 h2
  rw [g0, g1, g2, g3, g4, g5, g6, g7] at hp
  rw [h3]
  clear g0 g1 g2 g3 g4 g5 g6 g7 h3
  have u0 : d0 % 1 = 0 := by omega
  have u1 : d1 % 1 = 0 := by omega
  have u2 : d2 % 1 = 0 := by omega
  have u4 : d4 % 256 = d4 := by omega
  have u5 : d5 % 256 = d5 := by omega
  have u6 : d6 % 256 = d6 := by omega
  have u7 : d7 % 256 = d7 := by omega
  rw [u0] at hp
  clear u0
  rw [u1] at hp
  clear u1
  rw [u2] at hp
  clear u2
  rw [u4] at hp
  clear u4
  rw [u5] at hp
  clear u5
  rw [u6] at hp
  clear u6
  rw [u7] at hp
  clear u7
  have hl : X % 8589934592 = d3 % 2 * 4294967296 + d4 * 16777216 + d5 * 65536 + d6 * 256 + d7 * 1 := by
    clear hp hX h1 h2
    subst hs
    omega
  rw [hl]
  omega
theorem own_k8_32 (x X p : Int) (hX : x % 18446744073709551616 = X) (hp : (p - (((X / 72057594037927936 % 256) - (X / 72057594037927936 % 256) % 1) * 72057594037927936 + ((X / 281474976710656 % 256) - (X / 281474976710656 % 256) % 1) * 281474976710656 + ((X / 1099511627776 % 256) - (X / 1099511627776 % 256) % 1) * 1099511627776 + ((X / 4294967296 % 256) - (X / 4294967296 % 256) % 1) * 4294967296 + ((X / 16777216 % 256) - (X / 16777216 % 256) % 256) * 16777216 + ((X / 65536 % 256) - (X / 65536 % 256) % 256) * 65536 + ((X / 256 % 256) - (X / 256 % 256) % 256) * 256 + ((X % 256) - (X % 256) % 256) * 1)) % 18446744073709551616 = 0) : (p - (x - x % 4294967296)) % 18446744073709551616 = 0 := by
  have h1 : 0 ≤ X := by omega
  have h2 : X < 18446744073709551616 := by omega
  have h3 : x % 4294967296 = X % 4294967296 := by omega
  obtain ⟨d0, d1, d2, d3, d4, d5, d6, d7, g0, g1, g2, g3, g4, g5, g6, g7, hd, hs⟩ := own_dig X h1 h2
  rw [g0, g1, g2, g3, g4, g5, g6, g7] at hp
  rw [h3]
  clear g0 g1 g2 g3 g4 g5 g6 g7 h3
  have u0 : d0 % 1 = 0 := by omega
  have u1 : d1 % 1 = 0 := by omega
  have u2 : d2 % 1 = 0 := by omega
  have u3 : d3 % 1 = 0 := by omega
  have u4 : d4 % 256 = d4 := by omega
  have u5 : d5 % 256 = d5 := by omega
  have u6 : d6 % 256 = d6 := by omega
  have u7 : d7 % 256 = d7 := by omega
  rw [u0] at hp
  clear u0
  rw [u1] at hp
  clear u1
  rw [u2] at hp
  clear u2
  rw [u3] at hp
  clear u3
  rw [u4] at hp
  clear u4
  rw [u5] at hp
  clear u5
  rw [u6] at hp
  clear u6
  rw [u7] at hp
  clear u7
  have hl : X % 4294967296 = d4 * 16777216 + d5 * 65536 + d6 * 256 + d7 * 1 := by
    clear hp hX h1 h2
    subst hs
    omega
  rw [hl]
  omega
theorem own_k8_33 (x X p : Int) (hX : x % 18446744073709551616 = X) (hp : (p - (((X / 72057594037927936 % 256) - (X / 72057594037927936 % 256) % 1) * 72057594037927936 + ((X / 281474976710656 % 256) - (X / 281474976710656 % 256) % 1) * 281474976710656 + ((X / 1099511627776 % 256) - (X / 1099511627776 % 256) % 1) * 1099511627776 + ((X / 4294967296 % 256) - (X / 4294967296 % 256) % 1) * 4294967296 + ((X / 16777216 % 256) - (X / 16777216 % 256) % 128) * 16777216 + ((X / 65536 % 256) - (X / 65536 % 256) % 256) * 65536 + ((X / 256 % 256) - (X / 256 % 256) % 256) * 256 + ((X % 256) - (X % 256) % 256) * 1)) % 18446744073709551616 = 0) : (p - (x - x % 2147483648)) % 18446744073709551616 = 0 := by
  have h1 : 0 ≤ X := by omega
  have h2 : X < 18446744073709551616 := by omega
  have h3 : x % 2147483648 = X % 2147483648 := by omega
  obtain ⟨d0, d1, d2, d3, d4, d5, d6, d7, g0, g1, g2, g3, g4, g5, g6, g7, hd, hs⟩ := own_dig X h1 h2
  rw [g0, g1, g2, g3, g4, g5, g6, g7] at hp
  rw [h3]
  clear g0 g1 g2 g3 g4 g5 g6 g7 h3
  have u0 : d0 % 1 = 0 := by omega
  have u1 : d1 % 1 = 0 := by omega
  have u2 : d2 % 1 = 0 := by omega
  have u3 : d3 % 1 = 0 := by omega
  have u5 : d5 % 256 = d5 := by omega
  have u6 : d6 % 256 = d6 := by omega
  have u7 : d7 % 256 = d7 := by omega
  rw [u0] at hp
  clear u0
  rw [u1] at hp
  clear u1
  rw [u2] at hp
  clear u2
  rw [u3] at hp
  clear u3
  rw [u5] at hp
  clear u5
  rw [u6] at hp
  clear u6
  rw [u7] at hp
  clear u7
  have hl : X % 2147483648 = d4 % 128 * 16777216 + d5 * 65536 + d6 * 256 + d7 * 1 := by
    clear hp hX h1 h2
    subst hs
    omega
  rw [hl]
  omega
theorem own_k8_34 (x X p : Int) (hX : x % 18446744073709551616 = X) (hp : (p - (((X / 72057594037927936 % 256) - (X / 72057594037927936 % 256) % 1) * 72057594037927936 + ((X / 281474976710656 % 256) - (X / 281474976710656 % 256) % 1) * 281474976710656 + ((X / 1099511627776 % 256) - (X / 1099511627776 % 256) % 1) * 1099511627776 + ((X / 4294967296 % 256) - (X / 4294967296 % 256) % 1) * 4294967296 + ((X / 16777216 % 256) - (X / 16777216 % 256) % 64) * 16777216 + ((X / 65536 % 256) - (X / 65536 % 256) % 256) * 65536 + ((X / 256 % 256) - (X / 256 % 256) % 256) * 256 + ((X % 256) - (X % 256) % 256) * 1)) % 18446744073709551616 = 0) : (p - (x - x % 1073741824)) % 18446744073709551616 = 0 := by
  have h1 : 0 ≤ X := by omega
  have h2 : X < 18446744073709551616 := by omega
  have h3 : x % 1073741824 = X % 1073741824 := by omega
  obtain ⟨d0, d1, d2, d3, d4, d5, d6, d7, g0, g1, g2, g3, g4, g5, g6, g7, hd, hs⟩ := own_dig X h1 h2
  rw [g0, g1, g2, g3, g4, g5, g6, g7] at hp
  rw [h3]
  clear g0 g1 g2 g3 g4 g5 g6 g7 h3
  have u0 : d0 % 1 = 0 := by omega
  have u1 : d1 % 1 = 0 := by omega
  have u2 : d2 % 1 = 0 := by omega
  have u3 : d3 % 1 = 0 := by omega
  have u5 : d5 % 256 = d5 := by omega
  have u6 : d6 % 256 = d6 := by omega
  have u7 : d7 % 256 = d7 := by omega
  rw [u0] at hp
  clear u0
  rw [u1] at hp
  clear u1
  rw [u2] at hp
  clear u2
  rw [u3] at hp
  clear u3
  rw [u5] at hp
  clear u5
  rw [u6] at hp
  clear u6
  rw [u7] at hp
  clear u7
  have hl : X % 1073741824 = d4 % 64 * 16777216 + d5 * 65536 + d6 * 256 + d7 * 1 := by
    clear hp hX h1 h2
    subst hs
    omega
  rw [hl]
  omega
theorem own_k8_35 (x X p : Int) (hX : x % 18446744073709551616 = X) (hp : (p - (((X / 72057594037927936 % 256) - (X / 72057594037927936 % 256) % 1) * 72057594037927936 + ((X / 281474976710656 % 256) - (X / 281474976710656 % 256) % 1) * 281474976710656 + ((X / 1099511627776 % 256) - (X / 1099511627776 % 256) % 1) * 1099511627776 + ((X / 4294967296 % 256) - (X / 4294967296 % 256) % 1) * 4294967296 + ((X / 16777216 % 256) - (X / 16777216 % 256) % 32) * 16777216 + ((X / 65536 % 256) - (X / 65536 % 256) % 256) * 65536 + ((X / 256 % 256) - (X / 256 % 256) % 256) * 256 + ((X % 256) - (X % 256) % 256) * 1)) % 18446744073709551616 = 0) : (p - (x - x % 536870912)) % 18446744073709551616 = 0 := by
  have h1 : 0 ≤ X := by omega
  have h2 : X < 18446744073709551616 := by omega
  have h3 : x % 536870912 = X % 536870912 := by omega
  obtain ⟨d0, d1, d2, d3, d4, d5, d6, d7, g0, g1, g2, g3, g4, g5, g6, g7, hd, hs⟩ := own_dig X h1 h2
  rw [g0, g1, g2, g3, g4, g5, g6, g7] at hp
  rw [h3]
  clear g0 g1 g2 g3 g4 g5 g6 g7 h3
  have u0 : d0 % 1 = 0 := by omega
  have u1 : d1 % 1 = 0 := by omega
  have u2 : d2 % 1 = 0 := by omega
  have u3 : d3 % 1 = 0 := by omega
  have u5 : d5 % 256 = d5 := by omega
  have u6 : d6 % 256 = d6 := by omega
  have u7 : d7 % 256 = d7 := by omega
  rw [u0] at hp
  clear u0
  rw [u1] at hp
  clear u1
  rw [u2] at hp
  clear u2
  rw [u3] at hp
  clear u3
  rw [u5] at hp
  clear u5
  rw [u6] at hp
  clear u6
  rw [u7] at hp
  clear u7
  have hl : X % 536870912 = d4 % 32 * 16777216 + d5 * 65536 + d6 * 256 + d7 * 1 := by
    clear hp hX h1 h2
    subst hs
    omega
  rw [hl]
  omega
theorem own_k8_36 (x X p : Int) (hX : x % 18446744073709551616 = X) (hp : (p - (((X / 72057594037927936 % 256) - (X / 72057594037927936 % 256) % 1) * 72057594037927936 + ((X / 281474976710656 % 256) - (X / 281474976710656 % 256) % 1) * 281474976710656 + ((X / 1099511627776 % 256) - (X / 1099511627776 % 256) % 1) * 1099511627776 + ((X / 4294967296 % 256) - (X / 4294967296 % 256) % 1) * 4294967296 + ((X / 16777216 % 256) - (X / 16777216 % 256) % 16) * 16777216 + ((X / 65536 % 256) - (X / 65536 % 256) % 256) * 65536 + ((X / 256 % 256) - (X / 256 % 256) % 256) * 256 + ((X % 256) - (X % 256) % 256) * 1)) % 18446744073709551616 = 0) : (p - (x - x % 268435456)) % 18446744073709551616 = 0 := by
  have h1 : 0 ≤ X := by omega
  have h2 : X < 18446744073709551616 := by omega
  have h3 : x % 268435456 = X % 268435456 := by omega
  obtain ⟨d0, d1, d2, d3, d4, d5, d6, d7, g0, g1, g2, g3, g4, g5, g6, g7, hd, hs⟩ := own_dig X h1 h2
  rw [g0, g1, g2, g3, g4, g5, g6, g7] at hp
  rw [h3]
  clear g0 g1 g2 g3 g4 g5 g6 g7 h3
  have u0 : d0 % 1 = 0 := by omega
  have u1 : d1 % 1 = 0 := by omega
  have u2 : d2 % 1 = 0 := by omega
  have u3 : d3 % 1 = 0 := by omega
  have u5 : d5 % 256 = d5 := by omega
  have u6 : d6 % 256 = d6 := by omega
  have u7 : d7 % 256 = d7 := by omega
  rw [u0] at hp
  clear u0
  rw [u1] at hp
  clear u1
  rw [u2] at hp
  clear u2
  rw [u3] at hp
  clear u3
  rw [u5] at hp
  clear u5
  rw [u6] at hp
  clear u6
  rw [u7] at hp
  clear u7
  have hl : X % 268435456 = d4 % 16 * 16777216 + d5 * 65536 + d6 * 256 + d7 * 1 := by
    clear hp hX h1 h2
    subst hs
    omega
  rw [hl]
  omega
theorem own_k8_37 (x X p : Int) (hX : x % 18446744073709551616 = X) (hp : (p - (((X / 72057594037927936 % 256) - (X / 72057594037927936 % 256) % 1) * 72057594037927936 + ((X / 281474976710656 % 256) - (X / 281474976710656 % 256) % 1) * 281474976710656 + ((X / 1099511627776 % 256) - (X / 1099511627776 % 256) % 1) * 1099511627776 + ((X / 4294967296 % 256) - (X / 4294967296 % 256) % 1) * 4294967296 + ((X / 16777216 % 256) - (X / 16777216 % 256) % 8) * 16777216 + ((X / 65536 % 256) - (X / 65536 % 256) % 256) * 65536 + ((X / 256 % 256) - (X / 256 % 256) % 256) * 256 + ((X % 256) - (X % 256) % 256) * 1)) % 18446744073709551616 = 0) : (p - (x - x % 134217728)) % 18446744073709551616 = 0 := by
  have h1 : 0 ≤ X := by omega
  have h2 : X < 18446744073709551616 := by omega
  have h3 : x % 134217728 = X % 134217728 := by omega
  obtain ⟨d0, d1, d2, d3, d4, d5, d6, d7, g0, g1, g2, g3, g4, g5, g6, g7, hd, hs⟩ := own_dig X h1 h2
  rw [g0, g1, g2, g3, g4, g5, g6, g7] at hp
  rw [h3]
  clear g0 g1 g2 g3 g4 g5 g6 g7 h3
  have u0 : d0 % 1 = 0 := by omega
  have u1 : d1 % 1 = 0 := by omega
  have u2 : d2 % 1 = 0 := by omega
  have u3 : d3 % 1 = 0 := by omega
  have u5 : d5 % 256 = d5 := by omega
  have u6 : d6 % 256 = d6 := by omega
  have u7 : d7 % 256 = d7 := by omega
  rw [u0] at hp
  clear u0
  rw [u1] at hp
  clear u1
  rw [u2] at hp
  clear u2
  rw [u3] at hp
  clear u3
  rw [u5] at hp
  clear u5
  rw [u6] at hp
  clear u6
  rw [u7] at hp
  clear u7
  have hl : X % 134217728 = d4 % 8 * 16777216 + d5 * 65536 + d6 * 256 + d7 * 1 := by
    clear hp hX h1 h2
    subst hs
    omega
  rw [hl]
  omega
theorem own_k8_38 (x X p : Int) (hX : x % 18446744073709551616 = X) (hp : (p - (((X / 72057594037927936 % 256) - (X / 72057594037927936 % 256) % 1) * 72057594037927936 + ((X / 281474976710656 % 256) - (X / 281474976710656 % 256) % 1) * 281474976710656 + ((X / 1099511627776 % 256) - (X / 1099511627776 % 256) % 1) * 1099511627776 + ((X / 4294967296 % 256) - (X / 4294967296 % 256) % 1) * 4294967296 + ((X / 16777216 % 256) - (X / 16777216 % 256) % 4) * 16777216 + ((X / 65536 % 256) - (X / 65536 % 256) % 256) * 65536 + ((X / 256 % 256) - (X / 256 % 256) % 256) * 256 + ((X % 256) - (X % 256) % 256) * 1)) % 18446744073709551616 = 0) : (p - (x - x % 67108864)) % 18446744073709551616 = 0 := by
  have h1 : 0 ≤ X := by omega
  have h2 : X < 18446744073709551616 := by omega
  have h3 : x % 67108864 = X % 67108864 := by omega
  obtain ⟨d0, d1, d2, d3, d4, d5, d6, d7, g0, g1, g2, g3, g4, g5, g6, g7, hd, hs⟩ := own_dig X h1 h2
  rw [g0, g1, g2, g3, g4, g5, g6, g7] at hp
  rw [h3]
  clear g0 g1 g2 g3 g4 g5 g6 g7 h3
  have u0 : d0 % 1 = 0 := by omega
  have u1 : d1 % 1 = 0 := by omega
  have u2 : d2 % 1 = 0 := by omega
  have u3 : d3 % 1 = 0 := by omega
  have u5 : d5 % 256 = d5 := by omega
  have u6 : d6 % 256 = d6 := by omega
  have u7 : d7 % 256 = d7 := by omega
  rw [u0] at hp
  clear u0
  rw [u1] at hp
  clear u1
  rw [u2] at hp
  clear u2
  rw [u3] at hp
  clear u3
  rw [u5] at hp
  clear u5
  rw [u6] at hp
  clear u6
  rw [u7] at hp
  clear u7
  have hl : X % 67108864 = d4 % 4 * 16777216 + d5 * 65536 + d6 * 256 + d7 * 1 := by
    clear hp hX h1 h2
    subst hs
    omega
  rw [hl]
  omega
theorem own_k8_39 (x X p : Int) (hX : x % 18446744073709551616 = X) (hp : (p - (((X / 72057594037927936 % 256) - (X / 72057594037927936 % 256) % 1) * 72057594037927936 + ((X / 281474976710656 % 256) - (X / 281474976710656 % 256) % 1) * 281474976710656 + ((X / 1099511627776 % 256) - (X / 1099511627776 % 256) % 1) * 1099511627776 + ((X / 4294967296 % 256) - (X / 4294967296 % 256) % 1) * 4294967296 + ((X / 16777216 % 256) - (X / 16777216 % 256) % 2) * 16777216 + ((X / 65536 % 256) - (X / 65536 % 256) % 256) * 65536 + ((X / 256 % 256) - (X / 256 % 256) % 256) * 256 + ((X % 256) - (X % 256) % 256) * 1)) % 18446744073709551616 = 0) : (p - (x - x % 33554432)) % 18446744073709551616 = 0 := by
  have h1 : 0 ≤ X := by omega
  have h2 : X < 18446744073709551616 := by omega
  have h3 : x % 33554432 = X % 33554432 := by omega
  obtain ⟨d0, d1, d2, d3, d4, d5, d6, d7, g0, g1, g2, g3, g4, g5, g6, g7, hd, hs⟩ := own_dig X h1 h2
  rw [g0, g1, g2, g3, g4, g5, g6, g7] at hp
  rw [h3]
  clear g0 g1 g2 g3 g4 g5 g6 g7 h3
  have u0 : d0 % 1 = 0 := by omega
  have u1 : d1 % 1 = 0 := by omega
  have u2 : d2 % 1 = 0 := by omega
  have u3 : d3 % 1 = 0 := by omega
  have u5 : d5 % 256 = d5 := by omega
  have u6 : d6 % 256 = d6 := by omega
  have u7 : d7 % 256 = d7 := by omega
  rw [u0] at hp
  clear u0
  rw [u1] at hp
  clear u1
  rw [u2] at hp
  clear u2
  rw [u3] at hp
  clear u3
  rw [u5] at hp
  clear u5
  rw [u6] at hp
  clear u6
  rw [u7] at hp
  clear u7
  have hl : X % 33554432 = d4 % 2 * 16777216 + d5 * 65536 + d6 * 256 + d7 * 1 := by
    clear hp hX h1 h2
    subst hs
    omega
  rw [hl]
  omega
theorem own_k8_40 (x X p : Int) (hX : x % 18446744073709551616 = X) (hp : (p - (((X / 72057594037927936 % 256) - (X / 72057594037927936 % 256) % 1) * 72057594037927936 + ((X / 281474976710656 % 256) - (X / 281474976710656 % 256) % 1) * 281474976710656 + ((X / 1099511627776 % 256) - (X / 1099511627776 % 256) % 1) * 1099511627776 + ((X / 4294967296 % 256) - (X / 4294967296 % 256) % 1) * 4294967296 + ((X / 16777216 % 256) - (X / 16777216 % 256) % 1) * 16777216 + ((X / 65536 % 256) - (X / 65536 % 256) % 256) * 65536 + ((X / 256 % 256) - (X / 256 % 256) % 256) * 256 + ((X % 256) - (X % 256) % 256) * 1)) % 18446744073709551616 = 0) : (p - (x - x % 16777216)) % 18446744073709551616 = 0 := by
  have h1 : 0 ≤ X := by omega
  have h2 : X < 18446744073709551616 := by omega
  have h3 : x % 16777216 = X % 16777216 := by omega
  obtain ⟨d0, d1, d2, d3, d4, d5, d6, d7, g0, g1, g2, g3, g4, g5, g6, g7, hd, hs⟩ := own_dig X h1 h2
  rw [g0, g1, g2, g3, g4, g5, g6, g7] at hp
  rw [h3]
  clear g0 g1 g2 g3 g4 g5 g6 g7 h3
  have u0 : d0 % 1 = 0 := by omega
  have u1 : d1 % 1 = 0 := by omega
  have u2 : d2 % 1 = 0 := by omega
  have u3 : d3 % 1 = 0 := by omega
  have u4 : d4 % 1 = 0 := by omega
  have u5 : d5 % 256 = d5 := by omega
  have u6 : d6 % 256 = d6 := by omega
  have u7 : d7 % 256 = d7 := by omega
  rw [u0] at hp
  clear u0
  rw [u1] at hp
  clear u1
  rw [u2] at hp
  clear u2
  rw [u3] at hp
  clear u3
  rw [u4] at hp
  clear u4
  rw [u5] at hp
  clear u5
  rw [u6] at hp
  clear u6
  rw [u7] at hp
  clear u7
  have hl : X % 16777216 = d5 * 65536 + d6 * 256 + d7 * 1 := by
    clear hp hX h1 h2
    subst hs
    omega
  rw [hl]
  omega
theorem own_k8_41 (x X p : Int) (hX : x % 18446744073709551616 = X) (hp : (p - (((X / 72057594037927936 % 256) - (X / 72057594037927936 % 256) % 1) * 72057594037927936 + ((X / 281474976710656 % 256) - (X / 281474976710656 % 256) % 1) * 281474976710656 + ((X / 1099511627776 % 256) - (X / 1099511627776 % 256) % 1) * 1099511627776 + ((X / 4294967296 % 256) - (X / 4294967296 % 256) % 1) * 4294967296 + ((X / 16777216 % 256) - (X / 16777216 % 256) % 1) * 16777216 + ((X / 65536 % 256) - (X / 65536 % 256) % 128) * 65536 + ((X / 256 % 256) - (X / 256 % 256) % 256) * 256 + ((X % 256) - (X % 256) % 256) * 1)) % 18446744073709551616 = 0) : (p - (x - x % 8388608)) % 18446744073709551616 = 0 := by
  have h1 : 0 ≤ X := by omega
  have h2 : X < 18446744073709551616 := by omega
  have h3 : x % 8388608 = X % 8388608 := by omega
  obtain ⟨d0, d1, d2, d3, d4, d5, d6, d7, g0, g1, g2, g3, g4, g5, g6, g7, hd, hs⟩ := own_dig X h1 h2
  rw [g0, g1, g2, g3, g4, g5, g6, g7] at hp
  rw [h3]
  clear g0 g1 g2 g3 g4 g5 g6 g7 h3
  have u0 : d0 % 1 = 0 := by omega
  have u1 : d1 % 1 = 0 := by omega
  have u2 : d2 % 1 = 0 := by omega
  have u3 : d3 % 1 = 0 := by omega
  have u4 : d4 % 1 = 0 := by omega
  have u6 : d6 % 256 = d6 := by omega
  have u7 : d7 % 256 = d7 := by omega
  rw [u0] at hp
  clear u0
  rw [u1] at hp
  clear u1
  rw [u2] at hp
  clear u2
  rw [u3] at hp
  clear u3
  rw [u4] at hp
  clear u4
  rw [u6] at hp
  clear u6
  rw [u7] at hp
  clear u7
  have hl : X % 8388608 = d5 % 128 * 65536 + d6 * 256 + d7 * 1 := by
    clear hp hX h1 h2
    subst hs
    omega
  rw [hl]
  omega
theorem own_k8_42 (x X p : Int) (hX : x % 18446744073709551616 = X) (hp : (p - (((X / 72057594037927936 % 256) - (X / 72057594037927936 % 256) % 1) * 72057594037927936 + ((X / 281474976710656 % 256) - (X / 281474976710656 % 256) % 1) * 281474976710656 + ((X / 1099511627776 % 256) - (X / 1099511627776 % 256) % 1) * 1099511627776 + ((X / 4294967296 % 256) - (X / 4294967296 % 256) % 1) * 4294967296 + ((X / 16777216 % 256) - (X / 16777216 % 256) % 1) * 16777216 + ((X / 65536 % 256) - (X / 65536 % 256) % 64) * 65536 + ((X / 256 % 256) - (X / 256 % 256) % 256) * 256 + ((X % 256) - (X % 256) % 256) * 1)) % 18446744073709551616 = 0) : (p - (x - x % 4194304)) % 18446744073709551616 = 0 := by
  have h1 : 0 ≤ X := by omega
  have h2 : X < 18446744073709551616 := by omega
  have h3 : x % 4194304 = X % 4194304 := by omega
  obtain ⟨d0, d1, d2, d3, d4, d5, d6, d7, g0, g1, g2, g3, g4, g5, g6, g7, hd, hs⟩ := own_dig X h1 h2
  rw [g0, g1, g2, g3, g4, g5, g6, g7] at hp
  rw [h3]
  clear g0 g1 g2 g3 g4 g5 g6 g7 h3
  have u0 : d0 % 1 = 0 := by omega
  have u1 : d1 % 1 = 0 := by omega
  have u2 : d2 % 1 = 0 := by omega
  have u3 : d3 % 1 = 0 := by omega
  have u4 : d4 % 1 = 0 := by omega
  have u6 : d6 % 256 = d6 := by omega
  have u7 : d7 % 256 = d7 := by omega
  rw [u0] at hp
  clear u0
  rw [u1] at hp
  clear u1
  rw [u2] at hp
  clear u2
  rw [u3] at hp
  clear u3
  rw [u4] at hp
  clear u4
  rw [u6] at hp
  clear u6
  rw [u7] at hp
  clear u7
  have hl : X % 4194304 = d5 % 64 * 65536 + d6 * 256 + d7 * 1 := by
    clear hp hX h1 h2
    subst hs
    omega
  rw [hl]
  omega
theorem own_k8_43 (x X p : Int) (hX : x % 18446744073709551616 = X) (hp : (p - (((X / 72057594037927936 % 256) - (X / 72057594037927936 % 256) % 1) * 72057594037927936 + ((X / 281474976710656 % 256) - (X / 281474976710656 % 256) % 1) * 281474976710656 + ((X / 1099511627776 % 256) - (X / 1099511627776 % 256) % 1) * 1099511627776 + ((X / 4294967296 % 256) - (X / 4294967296 % 256) % 1) * 4294967296 + ((X / 16777216 % 256) - (X / 16777216 % 256) % 1) * 16777216 + ((X / 65536 % 256) - (X / 65536 % 256) % 32) * 65536 + ((X / 256 % 256) - (X / 256 % 256) % 256) * 256 + ((X % 256) - (X % 256) % 256) * 1)) % 18446744073709551616 = 0) : (p - (x - x % 2097152)) % 18446744073709551616 = 0 := by
  have h1 : 0 ≤ X := by omega
  have h2 : X < 18446744073709551616 := by omega
  have h3 : x % 2097152 = X % 2097152 := by omega
  obtain ⟨d0, d1, d2, d3, d4, d5, d6, d7, g0, g1, g2, g3, g4, g5, g6, g7, hd, hs⟩ := own_dig X h1 h2
  rw [g0, g1, g2, g3, g4, g5, g6, g7] at hp
  rw [h3]
  clear g0 g1 g2 g3 g4 g5 g6 g7 h3
  have u0 : d0 % 1 = 0 := by omega
  have u1 : d1 % 1 = 0 := by omega
  have u2 : d2 % 1 = 0 := by omega
  have u3 : d3 % 1 = 0 := by omega
  have u4 : d4 % 1 = 0 := by omega
  have u6 : d6 % 256 = d6 := by omega
  have u7 : d7 % 256 = d7 := by omega
  rw [u0] at hp
  clear u0
  rw [u1] at hp
  clear u1
  rw [u2] at hp
  clear u2
  rw [u3] at hp
  clear u3
  rw [u4] at hp
  clear u4
  rw [u6] at hp
  clear u6
  rw [u7] at hp
  clear u7
  have hl : X % 2097152 = d5 % 32 * 65536 + d6 * 256 + d7 * 1 := by
    clear hp hX h1 h2
    subst hs
    omega
  rw [hl]
  omega
theorem own_k8_44 (x X p : Int) (hX : x % 18446744073709551616 = X) (hp : (p - (((X / 72057594037927936 % 256) - (X / 72057594037927936 % 256) % 1) * 72057594037927936 + ((X / 281474976710656 % 256) - (X / 281474976710656 % 256) % 1) * 281474976710656 + ((X / 1099511627776 % 256) - (X / 1099511627776 % 256) % 1) * 1099511627776 + ((X / 4294967296 % 256) - (X / 4294967296 % 256) % 1) * 4294967296 + ((X / 16777216 % 256) - (X / 16777216 % 256) % 1) * 16777216 + ((X / 65536 % 256) - (X / 65536 % 256) % 16) * 65536 + ((X / 256 % 256) - (X / 256 % 256) % 256) * 256 + ((X % 256) - (X % 256) % 256) * 1)) % 18446744073709551616 = 0) : (p - (x - x % 1048576)) % 18446744073709551616 = 0 := by
  have h1 : 0 ≤ X := by omega
  have h2 : X < 18446744073709551616 := by omega
  have h3 : x % 1048576 = X % 1048576 := by omega
  obtain ⟨d0, d1, d2, d3, d4, d5, d6, d7, g0, g1, g2, g3, g4, g5, g6, g7, hd, hs⟩ := own_dig X h1 h2
  rw [g0, g1, g2, g3, g4, g5, g6, g7] at hp
  rw [h3]
  clear g0 g1 g2 g3 g4 g5 g6 g7 h3
  have u0 : d0 % 1 = 0 := by omega
  have u1 : d1 % 1 = 0 := by omega
  have u2 : d2 % 1 = 0 := by omega
  have u3 : d3 % 1 = 0 := by omega
  have u4 : d4 % 1 = 0 := by omega
  have u6 : d6 % 256 = d6 := by omega
  have u7 : d7 % 256 = d7 := by omega
  rw [u0] at hp
  clear u0
  rw [u1] at hp
  clear u1
  rw [u2] at hp
  clear u2
  rw [u3] at hp
  clear u3
  rw [u4] at hp
  clear u4
  rw [u6] at hp
  clear u6
  rw [u7] at hp
  clear u7
  have hl : X % 1048576 = d5 % 16 * 65536 + d6 * 256 + d7 * 1 := by
    clear hp hX h1 h2
    subst hs
    omega
  rw [hl]
  omega
theorem own_k8_45 (x X p : Int) (hX : x % 18446744073709551616 = X) (hp : (p - (((X / 72057594037927936 % 256) - (X / 72057594037927936 % 256) % 1) * 72057594037927936 + ((X / 281474976710656 % 256) - (X / 281474976710656 % 256) % 1) * 281474976710656 + ((X / 1099511627776 % 256) - (X / 1099511627776 % 256) % 1) * 1099511627776 + ((X / 4294967296 % 256) - (X / 4294967296 % 256) % 1) * 4294967296 + ((X / 16777216 % 256) - (X / 16777216 % 256) % 1) * 16777216 + ((X / 65536 % 256) - (X / 65536 % 256) % 8) * 65536 + ((X / 256 % 256) - (X / 256 % 256) % 256) * 256 + ((X % 256) - (X % 256) % 256) * 1)) % 18446744073709551616 = 0) : (p - (x - x % 524288)) % 18446744073709551616 = 0 := by
  have h1 : 0 ≤ X := by omega
  have h2 : X < 18446744073709551616 := by omega
  have h3 : x % 524288 = X % 524288 := by omega
  obtain ⟨d0, d1, d2, d3, d4, d5, d6, d7, g0, g1, g2, g3, g4, g5, g6, g7, hd, hs⟩ := own_dig X h1 h2
  rw [g0, g1, g2, g3, g4, g5, g6, g7] at hp
  rw [h3]
  clear g0 g1 g2 g3 g4 g5 g6 g7 h3
  have u0 : d0 % 1 = 0 := by omega
  have u1 : d1 % 1 = 0 := by omega
  have u2 : d2 % 1 = 0 := by omega
  have u3 : d3 % 1 = 0 := by omega
  have u4 : d4 % 1 = 0 := by omega
  have u6 : d6 % 256 = d6 := by omega
  have u7 : d7 % 256 = d7 := by omega
  rw [u0] at hp
  clear u0
  rw [u1] at hp
  clear u1
  rw [u2] at hp
  clear u2
  rw [u3] at hp
  clear u3
  rw [u4] at hp
  clear u4
  rw [u6] at hp
  clear u6
  rw [u7] at hp
  clear u7
  have hl : X % 524288 = d5 % 8 * 65536 + d6 * 256 + d7 * 1 := by
    clear hp hX h1 h2
    subst hs
    omega
  rw [hl]
  omega
theorem own_k8_46 (x X p : Int) (hX : x % 18446744073709551616 = X) (hp : (p - (((X / 72057594037927936 % 256) - (X / 72057594037927936 % 256) % 1) * 72057594037927936 + ((X / 281474976710656 % 256) - (X / 281474976710656 % 256) % 1) * 281474976710656 + ((X / 1099511627776 % 256) - (X / 1099511627776 % 256) % 1) * 1099511627776 + ((X / 4294967296 % 256) - (X / 4294967296 % 256) % 1) * 4294967296 + ((X / 16777216 % 256) - (X / 16777216 % 256) % 1) * 16777216 + ((X / 65536 % 256) - (X / 65536 % 256) % 4) * 65536 + ((X / 256 % 256) - (X / 256 % 256) % 256) * 256 + ((X % 256) - (X % 256) % 256) * 1)) % 18446744073709551616 = 0) : (p - (x - x % 262144)) % 18446744073709551616 = 0 := by
  have h1 : 0 ≤ X := by omega
  have h2 : X < 18446744073709551616 := by omega
  have h3 : x % 262144 = X % 262144 := by omega
  obtain ⟨d0, d1, d2, d3, d4, d5, d6, d7, g0, g1, g2, g3, g4, g5, g6, g7, hd, hs⟩ := own_dig X h1 h2
  rw [g0, g1, g2, g3, g4, g5, g6, g7] at hp
  rw [h3]
  clear g0 g1 g2 g3 g4 g5 g6 g7 h3
  have u0 : d0 % 1 = 0 := by omega
  have u1 : d1 % 1 = 0 := by omega
  have u2 : d2 % 1 = 0 := by omega
  have u3 : d3 % 1 = 0 := by omega
  have u4 : d4 % 1 = 0 := by omega
  have u6 : d6 % 256 = d6 := by omega
  have u7 : d7 % 256 = d7 := by omega
  rw [u0] at hp
  clear u0
  rw [u1] at hp
  clear u1
  rw [u2] at hp
  clear u2
  rw [u3] at hp
  clear u3
  rw [u4] at hp
  clear u4
  rw [u6] at hp
  clear u6
  rw [u7] at hp
  clear u7
  have hl : X % 262144 = d5 % 4 * 65536 + d6 * 256 + d7 * 1 := by
    clear hp hX h1 h2
    subst hs
    omega
  rw [hl]
  omega
theorem own_k8_47 (x X p : Int) (hX : x % 18446744073709551616 = X) (hp : (p - (((X / 72057594037927936 % 256) - (X / 72057594037927936 % 256) % 1) * 72057594037927936 + ((X / 281474976710656 % 256) - (X / 281474976710656 % 256) % 1) * 281474976710656 + ((X / 1099511627776 % 256) - (X / 1099511627776 % 256) % 1) * 1099511627776 + ((X / 4294967296 % 256) - (X / 4294967296 % 256) % 1) * 4294967296 + ((X / 16777216 % 256) - (X / 16777216 % 256) % 1) * 16777216 + ((X / 65536 % 256) - (X / 65536 % 256) % 2) * 65536 + ((X / 256 % 256) - (X / 256 % 256) % 256) * 256 + ((X % 256) - (X % 256) % 256) * 1)) % 18446744073709551616 = 0) : (p - (x - x % 131072)) % 18446744073709551616 = 0 := by
  have h1 : 0 ≤ X := by omega
  have h2 : X < 18446744073709551616 := by omega
  have h3 : x % 131072 = X % 131072 := by omega
  obtain ⟨d0, d1, d2, d3, d4, d5, d6, d7, g0, g1, g2, g3, g4, g5, g6, g7, hd, hs⟩ := own_dig X h1 h2
  rw [g0, g1, g2, g3, g4, g5, g6, g7] at hp
  rw [h3]
  clear g0 g1 g2 g3 g4 g5 g6 g7 h3
  have u0 : d0 % 1 = 0 := by omega
  have u1 : d1 % 1 = 0 := by omega
  have u2 : d2 % 1 = 0 := by omega
  have u3 : d3 % 1 = 0 := by omega
  have u4 : d4 % 1 = 0 := by omega
  have u6 : d6 % 256 = d6 := by omega
  have u7 : d7 % 256 = d7 := by omega
  rw [u0] at hp
  clear u0
  rw [u1] at hp
  clear u1
  rw [u2] at hp
  clear u2
  rw [u3] at hp
  clear u3
  rw [u4] at hp
  clear u4
  rw [u6] at hp
  clear u6
  rw [u7] at hp
  clear u7
  have hl : X % 131072 = d5 % 2 * 65536 + d6 * 256 + d7 * 1 := by
    clear hp hX h1 h2
    subst hs
    omega
  rw [hl]
  omega
theorem own_k8_48 (x X p : Int) (hX : x % 18446744073709551616 = X) (hp : (p - (((X / 72057594037927936 % 256) - (X / 72057594037927936 % 256) % 1) * 72057594037927936 + ((X / 281474976710656 % 256) - (X / 281474976710656 % 256) % 1) * 281474976710656 + ((X / 1099511627776 % 256) - (X / 1099511627776 % 256) % 1) * 1099511627776 + ((X / 4294967296 % 256) - (X / 4294967296 % 256) % 1) * 4294967296 + ((X / 16777216 % 256) - (X / 16777216 % 256) % 1) * 16777216 + ((X / 65536 % 256) - (X / 65536 % 256) % 1) * 65536 + ((X / 256 % 256) - (X / 256 % 256) % 256) * 256 + ((X % 256) - (X % 256) % 256) * 1)) % 18446744073709551616 = 0) : (p - (x - x % 65536)) % 18446744073709551616 = 0 := by
  have h1 : 0 ≤ X := by omega
  have h2 : X < 18446744073709551616 := by omega
  have h3 : x % 65536 = X % 65536 := by omega
  obtain ⟨d0, d1, d2, d3, d4, d5, d6, d7, g0, g1, g2, g3, g4, g5, g6, g7, hd, hs⟩ := own_dig X h1 h2
  rw [g0, g1, g2, g3, g4, g5, g6, g7] at hp
  rw [h3]
  clear g0 g1 g2 g3 g4 g5 g6 g7 h3
  have u0 : d0 % 1 = 0 := by omega
  have u1 : d1 % 1 = 0 := by omega
  have u2 : d2 % 1 = 0 := by omega
  have u3 : d3 % 1 = 0 := by omega
  have u4 : d4 % 1 = 0 := by omega
  have u5 : d5 % 1 = 0 := by omega
  have u6 : d6 % 256 = d6 := by omega
  have u7 : d7 % 256 = d7 := by omega
  rw [u0] at hp
  clear u0
  rw [u1] at hp
  clear u1
  rw [u2] at hp
  clear u2
  rw [u3] at hp
  clear u3
  rw [u4] at hp
  clear u4
  rw [u5] at hp
  clear u5
  rw [u6] at hp
  clear u6
  rw [u7] at hp
  clear u7
  have hl : X % 65536 = d6 * 256 + d7 * 1 := by
    clear hp hX h1 h2
    subst hs
    omega
  rw [hl]
  omega
theorem own_k8_49 (x X p : Int) (hX : x % 18446744073709551616 = X) (hp : (p - (((X / 72057594037927936 % 256) - (X / 72057594037927936 % 256) % 1) * 72057594037927936 + ((X / 281474976710656 % 256) - (X / 281474976710656 % 256) % 1) * 281474976710656 + ((X / 1099511627776 % 256) - (X / 1099511627776 % 256) % 1) * 1099511627776 + ((X / 4294967296 % 256) - (X / 4294967296 % 256) % 1) * 4294967296 + ((X / 16777216 % 256) - (X / 16777216 % 256) % 1) * 16777216 + ((X / 65536 % 256) - (X / 65536 % 256) % 1) * 65536 + ((X / 256 % 256) - (X / 256 % 256) % 128) * 256 + ((X % 256) - (X % 256) % 256) * 1)) % 18446744073709551616 = 0) : (p - (x - x % 32768)) % 18446744073709551616 = 0 := by
  have h1 : 0 ≤ X := by omega
  have h2 : X < 18446744073709551616 := by omega
  have h3 : x % 32768 = X % 32768 := by omega
  obtain ⟨d0, d1, d2, d3, d4, d5, d6, d7, g0, g1, g2, g3, g4, g5, g6, g7, hd, hs⟩ := own_dig X h1 h2
  rw [g0, g1, g2, g3, g4, g5, g6, g7] at hp
  rw [h3]
  clear g0 g1 g2 g3 g4 g5 g6 g7 h3
  have u0 : d0 % 1 = 0 := by omega
  have u1 : d1 % 1 = 0 := by omega
  have u2 : d2 % 1 = 0 := by omega
  have u3 : d3 % 1 = 0 := by omega
  have u4 : d4 % 1 = 0 := by omega
  have u5 : d5 % 1 = 0 := by omega
  have u7 : d7 % 256 = d7 := by omega
  rw [u0] at hp
  clear u0
  rw [u1] at hp
  clear u1
  rw [u2] at hp
  clear u2
  rw [u3] at hp
  clear u3
  rw [u4] at hp
  clear u4
  rw [u5] at hp
  clear u5
  rw [u7] at hp
  clear u7
  have hl : X % 32768 = d6 % 128 * 256 + d7 * 1 := by
    clear hp hX h1 h2
    subst hs
    omega
  rw [hl]
  omega
theorem own_k8_50 (x X p : Int) (hX : x % 18446744073709551616 = X) (hp : (p - (((X / 72057594037927936 % 256) - (X / 72057594037927936 % 256) % 1) * 72057594037927936 + ((X / 281474976710656 % 256) - (X / 281474976710656 % 256) % 1) * 281474976710656 + ((X / 1099511627776 % 256) - (X / 1099511627776 % 256) % 1) * 1099511627776 + ((X / 4294967296 % 256) - (X / 4294967296 % 256) % 1) * 4294967296 + ((X / 16777216 % 256) - (X / 16777216 % 256) % 1) * 16777216 + ((X / 65536 % 256) - (X / 65536 % 256) % 1) * 65536 + ((X / 256 % 256) - (X / 256 % 256) % 64) * 256 + ((X % 256) - (X % 256) % 256) * 1)) % 18446744073709551616 = 0) : (p - (x - x % 16384)) % 18446744073709551616 = 0 := by
  have h1 : 0 ≤ X := by omega
  have h2 : X < 18446744073709551616 := by omega
  have h3 : x % 16384 = X % 16384 := by omega
  obtain ⟨d0, d1, d2, d3, d4, d5, d6, d7, g0, g1, g2, g3, g4, g5, g6, g7, hd, hs⟩ := own_dig X h1 h2
  rw [g0, g1, g2, g3, g4, g5, g6, g7] at hp
  rw [h3]
  clear g0 g1 g2 g3 g4 g5 g6 g7 h3
  have u0 : d0 % 1 = 0 := by omega
  have u1 : d1 % 1 = 0 := by omega
  have u2 : d2 % 1 = 0 := by omega
  have u3 : d3 % 1 = 0 := by omega
  have u4 : d4 % 1 = 0 := by omega
  have u5 : d5 % 1 = 0 := by omega
  have u7 : d7 % 256 = d7 := by omega
  rw [u0] at hp
  clear u0
  rw [u1] at hp
  clear u1
  rw [u2] at hp
  clear u2
  rw [u3] at hp
  clear u3
  rw [u4] at hp
  clear u4
  rw [u5] at hp
  clear u5
  rw [u7] at hp
  clear u7
  have hl : X % 16384 = d6 % 64 * 256 + d7 * 1 := by
    clear hp hX h1 h2
    subst hs
    omega
  rw [hl]
  omega
theorem own_k8_51 (x X p : Int) (hX : x % 18446744073709551616 = X) (hp : (p - (((X / 72057594037927936 % 256) - (X / 72057594037927936 % 256) % 1) * 72057594037927936 + ((X / 281474976710656 % 256) - (X / 281474976710656 % 256) % 1) * 281474976710656 + ((X / 1099511627776 % 256) - (X / 1099511627776 % 256) % 1) * 1099511627776 + ((X / 4294967296 % 256) - (X / 4294967296 % 256) % 1) * 4294967296 + ((X / 16777216 % 256) - (X / 16777216 % 256) % 1) * 16777216 + ((X / 65536 % 256) - (X / 65536 % 256) % 1) * 65536 + ((X / 256 % 256) - (X / 256 % 256) % 32) * 256 + ((X % 256) - (X % 256) % 256) * 1)) % 18446744073709551616 = 0) : (p - (x - x % 8192)) % 18446744073709551616 = 0 := by
  have h1 : 0 ≤ X := by omega
  have h2 : X < 18446744073709551616 := by omega
  have h3 : x % 8192 = X % 8192 := by omega
  obtain ⟨d0, d1, d2, d3, d4, d5, d6, d7, g0, g1, g2, g3, g4, g5, g6, g7, hd, hs⟩ := own_dig X h1 h2
  rw [g0, g1, g2, g3, g4, g5, g6, g7] at hp
  rw [h3]
  clear g0 g1 g2 g3 g4 g5 g6 g7 h3
  have u0 : d0 % 1 = 0 := by omega
  have u1 : d1 % 1 = 0 := by omega
  have u2 : d2 % 1 = 0 := by omega
  have u3 : d3 % 1 = 0 := by omega
  have u4 : d4 % 1 = 0 := by omega
  have u5 : d5 % 1 = 0 := by omega
  have u7 : d7 % 256 = d7 := by omega
  rw [u0] at hp
  clear u0
  rw [u1] at hp
  clear u1
  rw [u2] at hp
  clear u2
  rw [u3] at hp
  clear u3
  rw [u4] at hp
  clear u4
  rw [u5] at hp
  clear u5
  rw [u7] at hp
  clear u7
  have hl : X % 8192 = d6 % 32 * 256 + d7 * 1 := by
    clear hp hX h1 h2
    subst hs
    omega
  rw [hl]
  omega
theorem own_k8_52 (x X p : Int) (hX : x % 18446744073709551616 = X) (hp : (p - (((X / 72057594037927936 % 256) - (X / 72057594037927936 % 256) % 1) * 72057594037927936 + ((X / 281474976710656 % 256) - (X / 281474976710656 % 256) % 1) * 281474976710656 + ((X / 1099511627776 % 256) - (X / 1099511627776 % 256) % 1) * 1099511627776 + ((X / 4294967296 % 256) - (X / 4294967296 % 256) % 1) * 4294967296 + ((X / 16777216 % 256) - (X / 16777216 % 256) % 1) * 16777216 + ((X / 65536 % 256) - (X / 65536 % 256) % 1) * 65536 + ((X / 256 % 256) - (X / 256 % 256) % 16) * 256 + ((X % 256) - (X % 256) % 256) * 1)) % 18446744073709551616 = 0) : (p - (x - x % 4096)) % 18446744073709551616 = 0 := by
  have h1 : 0 ≤ X := by omega
  have h2 : X < 18446744073709551616 := by omega
  have h3 : x % 4096 = X % 4096 := by omega
  obtain ⟨d0, d1, d2, d3, d4, d5, d6, d7, g0, g1, g2, g3, g4, g5, g6, g7, hd, hs⟩ := own_dig X h1 h2
  rw [g0, g1, g2, g3, g4, g5, g6, g7] at hp
  rw [h3]
  clear g0 g1 g2 g3 g4 g5 g6 g7 h3
  have u0 : d0 % 1 = 0 := by omega
  have u1 : d1 % 1 = 0 := by omega
  have u2 : d2 % 1 = 0 := by omega
  have u3 : d3 % 1 = 0 := by omega
  have u4 : d4 % 1 = 0 := by omega
  have u5 : d5 % 1 = 0 := by omega
  have u7 : d7 % 256 = d7 := by omega
  rw [u0] at hp
  clear u0
  rw [u1] at hp
  clear u1
  rw [u2] at hp
  clear u2
  rw [u3] at hp
  clear u3
  rw [u4] at hp
  clear u4
  rw [u5] at hp
  clear u5
  rw [u7] at hp
  clear u7
  have hl : X % 4096 = d6 % 16 * 256 + d7 * 1 := by
    clear hp hX h1 h2
    subst hs
    omega
  rw [hl]
  omega
theorem own_k8_53 (x X p : Int) (hX : x % 18446744073709551616 = X) (hp : (p - (((X / 72057594037927936 % 256) - (X / 72057594037927936 % 256) % 1) * 72057594037927936 + ((X / 281474976710656 % 256) - (X / 281474976710656 % 256) % 1) * 281474976710656 + ((X / 1099511627776 % 256) - (X / 1099511627776 % 256) % 1) * 1099511627776 + ((X / 4294967296 % 256) - (X / 4294967296 % 256) % 1) * 4294967296 + ((X / 16777216 % 256) - (X / 16777216 % 256) % 1) * 16777216 + ((X / 65536 % 256) - (X / 65536 % 256) % 1) * 65536 + ((X / 256 % 256) - (X / 256 % 256) % 8) * 256 + ((X % 256) - (X % 256) % 256) * 1)) % 18446744073709551616 = 0) : (p - (x - x % 2048)) % 18446744073709551616 = 0 := by
  have h1 : 0 ≤ X := by omega
  have h2 : X < 18446744073709551616 := by omega
  have h3 : x % 2048 = X % 2048 := by omega
  obtain ⟨d0, d1, d2, d3, d4, d5, d6, d7, g0, g1, g2, g3, g4, g5, g6, g7, hd, hs⟩ := own_dig X h1 h2
  rw [g0, g1, g2, g3, g4, g5, g6, g7] at hp
  rw [h3]
  clear g0 g1 g2 g3 g4 g5 g6 g7 h3
  have u0 : d0 % 1 = 0 := by omega
  have u1 : d1 % 1 = 0 := by omega
  have u2 : d2 % 1 = 0 := by omega
  have u3 : d3 % 1 = 0 := by omega
  have u4 : d4 % 1 = 0 := by omega
  have u5 : d5 % 1 = 0 := by omega
  have u7 : d7 % 256 = d7 := by omega
  rw [u0] at hp
  clear u0
  rw [u1] at hp
  clear u1
  rw [u2] at hp
  clear u2
  rw [u3] at hp
  clear u3
  rw [u4] at hp
  clear u4
  rw [u5] at hp
  clear u5
  rw [u7] at hp
  clear u7
  have hl : X % 2048 = d6 % 8 * 256 + d7 * 1 := by
    clear hp hX h1 h2
    subst hs
    omega
  rw [hl]
  omega
theorem own_k8_54 (x X p : Int) (hX : x % 18446744073709551616 = X) (hp : (p - (((X / 72057594037927936 % 256) - (X / 72057594037927936 % 256) % 1) * 72057594037927936 + ((X / 281474976710656 % 256) - (X / 281474976710656 % 256) % 1) * 281474976710656 + ((X / 1099511627776 % 256) - (X / 1099511627776 % 256) % 1) * 1099511627776 + ((X / 4294967296 % 256) - (X / 4294967296 % 256) % 1) * 4294967296 + ((X / 16777216 % 256) - (X / 16777216 % 256) % 1) * 16777216 + ((X / 65536 % 256) - (X / 65536 % 256) % 1) * 65536 + ((X / 256 % 256) - (X / 256 % 256) % 4) * 256 + ((X % 256) - (X % 256) % 256) * 1)) % 18446744073709551616 = 0) : (p - (x - x % 1024)) % 18446744073709551616 = 0 := by
  have h1 : 0 ≤ X := by omega
  have h2 : X < 18446744073709551616 := by omega
  have h3 : x % 1024 = X % 1024 := by omega
  obtain ⟨d0, d1, d2, d3, d4, d5, d6, d7, g0, g1, g2, g3, g4, g5, g6, g7, hd, hs⟩ := own_dig X h1 h2
  rw [g0, g1, g2, g3, g4, g5, g6, g7] at hp
  rw [h3]
  clear g0 g1 g2 g3 g4 g5 g6 g7 h3
  have u0 : d0 % 1 = 0 := by omega
  have u1 : d1 % 1 = 0 := by omega
  have u2 : d2 % 1 = 0 := by omega
  have u3 : d3 % 1 = 0 := by omega
  have u4 : d4 % 1 = 0 := by omega
  have u5 : d5 % 1 = 0 := by omega
  have u7 : d7 % 256 = d7 := by omega
  rw [u0] at hp
  clear u0
  rw [u1] at hp
  clear u1
  rw [u2] at hp
  clear u2
  rw [u3] at hp
  clear u3
  rw [u4] at hp
  clear u4
  rw [u5] at hp
  clear u5
  rw [u7] at hp
  clear u7
  have hl : X % 1024 = d6 % 4 * 256 + d7 * 1 := by
    clear hp hX h1 h2
    subst hs
    omega
  rw [hl]
  omega
theorem own_k8_55 (x X p : Int) (hX : x % 18446744073709551616 = X) (hp : (p - (((X / 72057594037927936 % 256) - (X / 72057594037927936 % 256) % 1) * 72057594037927936 + ((X / 281474976710656 % 256) - (X / 281474976710656 % 256) % 1) * 281474976710656 + ((X / 1099511627776 % 256) - (X / 1099511627776 % 256) % 1) * 1099511627776 + ((X / 4294967296 % 256) - (X / 4294967296 % 256) % 1) * 4294967296 + ((X / 16777216 % 256) - (X / 16777216 % 256) % 1) * 16777216 + ((X / 65536 % 256) - (X / 65536 % 256) % 1) * 65536 + ((X / 256 % 256) - (X / 256 % 256) % 2) * 256 + ((X % 256) - (X % 256) % 256) * 1)) % 18446744073709551616 = 0) : (p - (x - x % 512)) % 18446744073709551616 = 0 := by
  have h1 : 0 ≤ X := by omega
  have h2 : X < 18446744073709551616 := by omega
  have h3 : x % 512 = X % 512 := by omega
  obtain ⟨d0, d1, d2, d3, d4, d5, d6, d7, g0, g1, g2, g3, g4, g5, g6, g7, hd, hs⟩ := own_dig X h1 h2
  rw [g0, g1, g2, g3, g4, g5, g6, g7] at hp
  rw [h3]
  clear g0 g1 g2 g3 g4 g5 g6 g7 h3
  have u0 : d0 % 1 = 0 := by omega
  have u1 : d1 % 1 = 0 := by omega
  have u2 : d2 % 1 = 0 := by omega
  have u3 : d3 % 1 = 0 := by omega
  have u4 : d4 % 1 = 0 := by omega
  have u5 : d5 % 1 = 0 := by omega
  have u7 : d7 % 256 = d7 := by omega
  rw [u0] at hp
  clear u0
  rw [u1] at hp
  clear u1
  rw [u2] at hp
  clear u2
  rw [u3] at hp
  clear u3
  rw [u4] at hp
  clear u4
  rw [u5] at hp
  clear u5
  rw [u7] at hp
  clear u7
  have hl : X % 512 = d6 % 2 * 256 + d7 * 1 := by
    clear hp hX h1 h2
    subst hs
    omega
  rw [hl]
  omega
theorem own_k8_56 (x X p : Int) (hX : x % 18446744073709551616 = X) (hp : (p - (((X / 72057594037927936 % 256) - (X / 72057594037927936 % 256) % 1) * 72057594037927936 + ((X / 281474976710656 % 256) - (X / 281474976710656 % 256) % 1) * 281474976710656 + ((X / 1099511627776 % 256) - (X / 1099511627776 % 256) % 1) * 1099511627776 + ((X / 4294967296 % 256) - (X / 4294967296 % 256) % 1) * 4294967296 + ((X / 16777216 % 256) - (X / 16777216 % 256) % 1) * 16777216 + ((X / 65536 % 256) - (X / 65536 % 256) % 1) * 65536 + ((X / 256 % 256) - (X / 256 % 256) % 1) * 256 + ((X % 256) - (X % 256) % 256) * 1)) % 18446744073709551616 = 0) : (p - (x - x % 256)) % 18446744073709551616 = 0 := by
  have h1 : 0 ≤ X := by omega
  have h2 : X < 18446744073709551616 := by omega
  have h3 : x % 256 = X % 256 := by omega
  obtain ⟨d0, d1, d2, d3, d4, d5, d6, d7, g0, g1, g2, g3, g4, g5, g6, g7, hd, hs⟩ := own_dig X h1 h2
  rw [g0, g1, g2, g3, g4, g5, g6, g7] at hp
  rw [h3]
  clear g0 g1 g2 g3 g4 g5 g6 g7 h3
  have u0 : d0 % 1 = 0 := by omega
  have u1 : d1 % 1 = 0 := by omega
  have u2 : d2 % 1 = 0 := by omega
  have u3 : d3 % 1 = 0 := by omega
  have u4 : d4 % 1 = 0 := by omega
  have u5 : d5 % 1 = 0 := by omega
  have u6 : d6 % 1 = 0 := by omega
  have u7 : d7 % 256 = d7 := by omega
  rw [u0] at hp
  clear u0
  rw [u1] at hp
  clear u1
  rw [u2] at hp
  clear u2
  rw [u3] at hp
  clear u3
  rw [u4] at hp
  clear u4
  rw [u5] at hp
  clear u5
  rw [u6] at hp
  clear u6
  rw [u7] at hp
  clear u7
  have hl : X % 256 = d7 * 1 := by
    clear hp hX h1 h2
    subst hs
    omega
  rw [hl]
  omega
theorem own_k8_57 (x X p : Int) (hX : x % 18446744073709551616 = X) (hp : (p - (((X / 72057594037927936 % 256) - (X / 72057594037927936 % 256) % 1) * 72057594037927936 + ((X / 281474976710656 % 256) - (X / 281474976710656 % 256) % 1) * 281474976710656 + ((X / 1099511627776 % 256) - (X / 1099511627776 % 256) % 1) * 1099511627776 + ((X / 4294967296 % 256) - (X / 4294967296 % 256) % 1) * 4294967296 + ((X / 16777216 % 256) - (X / 16777216 % 256) % 1) * 16777216 + ((X / 65536 % 256) - (X / 65536 % 256) % 1) * 65536 + ((X / 256 % 256) - (X / 256 % 256) % 1) * 256 + ((X % 256) - (X % 256) % 128) * 1)) % 18446744073709551616 = 0) : (p - (x - x % 128)) % 18446744073709551616 = 0 := by
  have h1 : 0 ≤ X := by omega
  have h2 : X < 18446744073709551616 := by omega
  have h3 : x % 128 = X % 128 := by omega
  obtain ⟨d0, d1, d2, d3, d4, d5, d6, d7, g0, g1, g2, g3, g4, g5, g6, g7, hd, hs⟩ := own_dig X h1 h2
  rw [g0, g1, g2, g3, g4, g5, g6, g7] at hp
  rw [h3]
  clear g0 g1 g2 g3 g4 g5 g6 g7 h3
  have u0 : d0 % 1 = 0 := by omega
  have u1 : d1 % 1 = 0 := by omega
  have u2 : d2 % 1 = 0 := by omega
  have u3 : d3 % 1 = 0 := by omega
  have u4 : d4 % 1 = 0 := by omega
  have u5 : d5 % 1 = 0 := by omega
  have u6 : d6 % 1 = 0 := by omega
  rw [u0] at hp
  clear u0
  rw [u1] at hp
  clear u1
  rw [u2] at hp
  clear u2
  rw [u3] at hp
  clear u3
  rw [u4] at hp
  clear u4
  rw [u5] at hp
  clear u5
  rw [u6] at hp
  clear u6
  have hl : X % 128 = d7 % 128 * 1 := by
    clear hp hX h1 h2
    subst hs
    omega
  rw [hl]
  omega
theorem own_k8_58 (x X p : Int) (hX : x % 18446744073709551616 = X) (hp : (p - (((X / 72057594037927936 % 256) - (X / 72057594037927936 % 256) % 1) * 72057594037927936 + ((X / 281474976710656 % 256) - (X / 281474976710656 % 256) % 1) * 281474976710656 + ((X / 1099511627776 % 256) - (X / 1099511627776 % 256) % 1) * 1099511627776 + ((X / 4294967296 % 256) - (X / 4294967296 % 256) % 1) * 4294967296 + ((X / 16777216 % 256) - (X / 16777216 % 256) % 1) * 16777216 + ((X / 65536 % 256) - (X / 65536 % 256) % 1) * 65536 + ((X / 256 % 256) - (X / 256 % 256) % 1) * 256 + ((X % 256) - (X % 256) % 64) * 1)) % 18446744073709551616 = 0) : (p - (x - x % 64)) % 18446744073709551616 = 0 := by
  have h1 : 0 ≤ X := by omega
  have h2 : X < 18446744073709551616 := by omega
  have h3 : x % 64 = X % 64 := by omega
  obtain ⟨d0, d1, d2, d3, d4, d5, d6, d7, g0, g1, g2, g3, g4, g5, g6, g7, hd, hs⟩ := own_dig X h1 h2
  rw [g0, g1, g2, g3, g4, g5, g6, g7] at hp
  rw [h3]
  clear g0 g1 g2 g3 g4 g5 g6 g7 h3
  have u0 : d0 % 1 = 0 := by omega
  have u1 : d1 % 1 = 0 := by omega
  have u2 : d2 % 1 = 0 := by omega
  have u3 : d3 % 1 = 0 := by omega
  have u4 : d4 % 1 = 0 := by omega
  have u5 : d5 % 1 = 0 := by omega
  have u6 : d6 % 1 = 0 := by omega
  rw [u0] at hp
  clear u0
  rw [u1] at hp
  clear u1
  rw [u2] at hp
  clear u2
  rw [u3] at hp
  clear u3
  rw [u4] at hp
  clear u4
  rw [u5] at hp
  clear u5
  rw [u6] at hp
  clear u6
  have hl : X % 64 = d7 % 64 * 1 := by
    clear hp hX h1 h2
    subst hs
    omega
  rw [hl]
  omega
theorem own_k8_59 (x X p : Int) (hX : x % 18446744073709551616 = X) (hp : (p - (((X / 72057594037927936 % 256) - (X / 72057594037927936 % 256) % 1) * 72057594037927936 + ((X / 281474976710656 % 256) - (X / 281474976710656 % 256) % 1) * 281474976710656 + ((X / 1099511627776 % 256) - (X / 1099511627776 % 256) % 1) * 1099511627776 + ((X / 4294967296 % 256) - (X / 4294967296 % 256) % 1) * 4294967296 + ((X / 16777216 % 256) - (X / 16777216 % 256) % 1) * 16777216 + ((X / 65536 % 256) - (X / 65536 % 256) % 1) * 65536 + ((X / 256 % 256) - (X / 256 % 256) % 1) * 256 + ((X % 256) - (X % 256) % 32) * 1)) % 18446744073709551616 = 0) : (p - (x - x % 32)) % 18446744073709551616 = 0 := by
  have h1 : 0 ≤ X := by omega
  have h2 : X < 18446744073709551616 := by omega
  have h3 : x % 32 = X % 32 := by omega
  obtain ⟨d0, d1, d2, d3, d4, d5, d6, d7, g0, g1, g2, g3, g4, g5, g6, g7, hd, hs⟩ := own_dig X h1 h2
  rw [g0, g1, g2, g3, g4, g5, g6, g7] at hp
  rw [h3]
  clear g0 g1 g2 g3 g4 g5 g6 g7 h3
  have u0 : d0 % 1 = 0 := by omega
  have u1 : d1 % 1 = 0 := by omega
  have u2 : d2 % 1 = 0 := by omega
  have u3 : d3 % 1 = 0 := by omega
  have u4 : d4 % 1 = 0 := by omega
  have u5 : d5 % 1 = 0 := by omega
  have u6 : d6 % 1 = 0 := by omega
  rw [u0] at hp
  clear u0
  rw [u1] at hp
  clear u1
  rw [u2] at hp
  clear u2
  rw [u3] at hp
  clear u3
  rw [u4] at hp
  clear u4
  rw [u5] at hp
  clear u5
  rw [u6] at hp
  clear u6
  have hl : X % 32 = d7 % 32 * 1 := by
    clear hp hX h1 h2
    subst hs
    omega
  rw [hl]
  omega
theorem own_k8_60 (x X p : Int) (hX : x % 18446744073709551616 = X) (hp : (p - (((X / 72057594037927936 % 256) - (X / 72057594037927936 % 256) % 1) * 72057594037927936 + ((X / 281474976710656 % 256) - (X / 281474976710656 % 256) % 1) * 281474976710656 + ((X / 1099511627776 % 256) - (X / 1099511627776 % 256) % 1) * 1099511627776 + ((X / 4294967296 % 256) - (X / 4294967296 % 256) % 1) * 4294967296 + ((X / 16777216 % 256) - (X / 16777216 % 256) % 1) * 16777216 + ((X / 65536 % 256) - (X / 65536 % 256) % 1) * 65536 + ((X / 256 % 256) - (X / 256 % 256) % 1) * 256 + ((X % 256) - (X % 256) % 16) * 1)) % 18446744073709551616 = 0) : (p - (x - x % 16)) % 18446744073709551616 = 0 := by
  have h1 : 0 ≤ X := by omega
  have h2 : X < 18446744073709551616 := by omega
  have h3 : x % 16 = X % 16 := by omega
  obtain ⟨d0, d1, d2, d3, d4, d5, d6, d7, g0, g1, g2, g3, g4, g5, g6, g7, hd, hs⟩ := own_dig X h1 h2
  rw [g0, g1, g2, g3, g4, g5, g6, g7] at hp
  rw [h3]
  clear g0 g1 g2 g3 g4 g5 g6 g7 h3
  have u0 : d0 % 1 = 0 := by omega
  have u1 : d1 % 1 = 0 := by omega
  have u2 : d2 % 1 = 0 := by omega
  have u3 : d3 % 1 = 0 := by omega
  have u4 : d4 % 1 = 0 := by omega
  have u5 : d5 % 1 = 0 := by omega
  have u6 : d6 % 1 = 0 := by omega
  rw [u0] at hp
  clear u0
  rw [u1] at hp
  clear u1
  rw [u2] at hp
  clear u2
  rw [u3] at hp
  clear u3
  rw [u4] at hp
  clear u4
  rw [u5] at hp
  clear u5
  rw [u6] at hp
  clear u6
  have hl : X % 16 = d7 % 16 * 1 := by
    clear hp hX h1 h2
    subst hs
    omega
  rw [hl]
  omega
theorem own_k8_61 (x X p : Int) (hX : x % 18446744073709551616 = X) (hp : (p - (((X / 72057594037927936 % 256) - (X / 72057594037927936 % 256) % 1) * 72057594037927936 + ((X / 281474976710656 % 256) - (X / 281474976710656 % 256) % 1) * 281474976710656 + ((X / 1099511627776 % 256) - (X / 1099511627776 % 256) % 1) * 1099511627776 + ((X / 4294967296 % 256) - (X / 4294967296 % 256) % 1) * 4294967296 + ((X / 16777216 % 256) - (X / 16777216 % 256) % 1) * 16777216 + ((X / 65536 % 256) - (X / 65536 % 256) % 1) * 65536 + ((X / 256 % 256) - (X / 256 % 256) % 1) * 256 + ((X % 256) - (X % 256) % 8) * 1)) % 18446744073709551616 = 0) : (p - (x - x % 8)) % 18446744073709551616 = 0 := by
  have h1 : 0 ≤ X := by omega
  have h2 : X < 18446744073709551616 := by omega
  have h3 : x % 8 = X % 8 := by omega
  obtain ⟨d0, d1, d2, d3, d4, d5, d6, d7, g0, g1, g2, g3, g4, g5, g6, g7, hd, hs⟩ := own_dig X h1 h2
  rw [g0, g1, g2, g3, g4, g5, g6, g7] at hp
  rw [h3]
  clear g0 g1 g2 g3 g4 g5 g6 g7 h3
  have u0 : d0 % 1 = 0 := by omega
  have u1 : d1 % 1 = 0 := by omega
  have u2 : d2 % 1 = 0 := by omega
  have u3 : d3 % 1 = 0 := by omega
  have u4 : d4 % 1 = 0 := by omega
  have u5 : d5 % 1 = 0 := by omega
  have u6 : d6 % 1 = 0 := by omega
  rw [u0] at hp
  clear u0
  rw [u1] at hp
  clear u1
  rw [u2] at hp
  clear u2
  rw [u3] at hp
  clear u3
  rw [u4] at hp
  clear u4
  rw [u5] at hp
  clear u5
  rw [u6] at hp
  clear u6
  have hl : X % 8 = d7 % 8 * 1 := by
    clear hp hX h1 h2
    subst hs
    omega
  rw [hl]
  omega
theorem own_k8_62 (x X p : Int) (hX : x % 18446744073709551616 = X) (hp : (p - (((X / 72057594037927936 % 256) - (X / 72057594037927936 % 256) % 1) * 72057594037927936 + ((X / 281474976710656 % 256) - (X / 281474976710656 % 256) % 1) * 281474976710656 + ((X / 1099511627776 % 256) - (X / 1099511627776 % 256) % 1) * 1099511627776 + ((X / 4294967296 % 256) - (X / 4294967296 % 256) % 1) * 4294967296 + ((X / 16777216 % 256) - (X / 16777216 % 256) % 1) * 16777216 + ((X / 65536 % 256) - (X / 65536 % 256) % 1) * 65536 + ((X / 256 % 256) - (X / 256 % 256) % 1) * 256 + ((X % 256) - (X % 256) % 4) * 1)) % 18446744073709551616 = 0) : (p - (x - x % 4)) % 18446744073709551616 = 0 := by
  have h1 : 0 ≤ X := by omega
  have h2 : X < 18446744073709551616 := by omega
  have h3 : x % 4 = X % 4 := by omega
  obtain ⟨d0, d1, d2, d3, d4, d5, d6, d7, g0, g1, g2, g3, g4, g5, g6, g7, hd, hs⟩ := own_dig X h1 h2
  rw [g0, g1, g2, g3, g4, g5, g6, g7] at hp
  rw [h3]
  clear g0 g1 g2 g3 g4 g5 g6 g7 h3
  have u0 : d0 % 1 = 0 := by omega
  have u1 : d1 % 1 = 0 := by omega
  have u2 : d2 % 1 = 0 := by omega
  have u3 : d3 % 1 = 0 := by omega
  have u4 : d4 % 1 = 0 := by omega
  have u5 : d5 % 1 = 0 := by omega
  have u6 : d6 % 1 = 0 := by omega
  rw [u0] at hp
  clear u0
  rw [u1] at hp
  clear u1
  rw [u2] at hp
  clear u2
  rw [u3] at hp
  clear u3
  rw [u4] at hp
  clear u4
  rw [u5] at hp
  clear u5
  rw [u6] at hp
  clear u6
  have hl : X % 4 = d7 % 4 * 1 := by
    clear hp hX h1 h2
    subst hs
    omega
  rw [hl]
  omega
theorem own_k8_63 (x X p : Int) (hX : x % 18446744073709551616 = X) (hp : (p - (((X / 72057594037927936 % 256) - (X / 72057594037927936 % 256) % 1) * 72057594037927936 + ((X / 281474976710656 % 256) - (X / 281474976710656 % 256) % 1) * 281474976710656 + ((X / 1099511627776 % 256) - (X / 1099511627776 % 256) % 1) * 1099511627776 + ((X / 4294967296 % 256) - (X / 4294967296 % 256) % 1) * 4294967296 + ((X / 16777216 % 256) - (X / 16777216 % 256) % 1) * 16777216 + ((X / 65536 % 256) - (X / 65536 % 256) % 1) * 65536 + ((X / 256 % 256) - (X / 256 % 256) % 1) * 256 + ((X % 256) - (X % 256) % 2) * 1)) % 18446744073709551616 = 0) : (p - (x - x % 2)) % 18446744073709551616 = 0 := by
  have h1 : 0 ≤ X := by omega
  have h2 : X < 18446744073709551616 := by omega
  have h3 : x % 2 = X % 2 := by omega
  obtain ⟨d0, d1, d2, d3, d4, d5, d6, d7, g0, g1, g2, g3, g4, g5, g6, g7, hd, hs⟩ := own_dig X h1 h2
  rw [g0, g1, g2, g3, g4, g5, g6, g7] at hp
  rw [h3]
  clear g0 g1 g2 g3 g4 g5 g6 g7 h3
  have u0 : d0 % 1 = 0 := by omega
  have u1 : d1 % 1 = 0 := by omega
  have u2 : d2 % 1 = 0 := by omega
  have u3 : d3 % 1 = 0 := by omega
  have u4 : d4 % 1 = 0 := by omega
  have u5 : d5 % 1 = 0 := by omega
  have u6 : d6 % 1 = 0 := by omega
  rw [u0] at hp
  clear u0
  rw [u1] at hp
  clear u1
  rw [u2] at hp
  clear u2
  rw [u3] at hp
  clear u3
  rw [u4] at hp
  clear u4
  rw [u5] at hp
  clear u5
  rw [u6] at hp
  clear u6
  have hl : X % 2 = d7 % 2 * 1 := by
    clear hp hX h1 h2
    subst hs
    omega
  rw [hl]
  omega
theorem own_k8_64 (x X p : Int) (hX : x % 18446744073709551616 = X) (hp : (p - (((X / 72057594037927936 % 256) - (X / 72057594037927936 % 256) % 1) * 72057594037927936 + ((X / 281474976710656 % 256) - (X / 281474976710656 % 256) % 1) * 281474976710656 + ((X / 1099511627776 % 256) - (X / 1099511627776 % 256) % 1) * 1099511627776 + ((X / 4294967296 % 256) - (X / 4294967296 % 256) % 1) * 4294967296 + ((X / 16777216 % 256) - (X / 16777216 % 256) % 1) * 16777216 + ((X / 65536 % 256) - (X / 65536 % 256) % 1) * 65536 + ((X / 256 % 256) - (X / 256 % 256) % 1) * 256 + ((X % 256) - (X % 256) % 1) * 1)) % 18446744073709551616 = 0) : (p - (x - x % 1)) % 18446744073709551616 = 0 := by
  have h1 : 0 ≤ X := by omega
  have h2 : X < 18446744073709551616 := by omega
  have h3 : x % 1 = X % 1 := by omega
  obtain ⟨d0, d1, d2, d3, d4, d5, d6, d7, g0, g1, g2, g3, g4, g5, g6, g7, hd, hs⟩ := own_dig X h1 h2
  rw [g0, g1, g2, g3, g4, g5, g6, g7] at hp
  rw [h3]
  clear g0 g1 g2 g3 g4 g5 g6 g7 h3
  have u0 : d0 % 1 = 0 := by omega
  have u1 : d1 % 1 = 0 := by omega
  have u2 : d2 % 1 = 0 := by omega
  have u3 : d3 % 1 = 0 := by omega
  have u4 : d4 % 1 = 0 := by omega
  have u5 : d5 % 1 = 0 := by omega
  have u6 : d6 % 1 = 0 := by omega
  have u7 : d7 % 1 = 0 := by omega
  rw [u0] at hp
  clear u0
  rw [u1] at hp
  clear u1
  rw [u2] at hp
  clear u2
  rw [u3] at hp
  clear u3
  rw [u4] at hp
  clear u4
  rw [u5] at hp
  clear u5
  rw [u6] at hp
  clear u6
  rw [u7] at hp
  clear u7
  have hl : X % 1 = 0 := by
    clear hp hX h1 h2
    subst hs
    omega
  rw [hl]
  omega
theorem own_sum (x X p : Int) (hX : x % 18446744073709551616 = X) (hp : (p - ((X / 72057594037927936 % 256) * 72057594037927936 + (X / 281474976710656 % 256) * 281474976710656 + (X / 1099511627776 % 256) * 1099511627776 + (X / 4294967296 % 256) * 4294967296 + (X / 16777216 % 256) * 16777216 + (X / 65536 % 256) * 65536 + (X / 256 % 256) * 256 + (X % 256) * 1)) % 18446744073709551616 = 0) : (p - x) % 18446744073709551616 = 0 := by
  have h1 : 0 ≤ X := by omega
  have h2 : X < 18446744073709551616 := by omega
  obtain ⟨d0, d1, d2, d3, d4, d5, d6, d7, g0, g1, g2, g3, g4, g5, g6, g7, hd, hs⟩ := own_dig X h1 h2
  rw [g0, g1, g2, g3, g4, g5, g6, g7] at hp
  clear g0 g1 g2 g3 g4 g5 g6 g7
  rw [← hs] at hp
  omega
theorem own_g8_0 (x n : Int64) (B o0 o1 o2 o3 o4 o5 o6 o7 : Int32) (h0 : own_max (0 : Int32) (own_min (8 : Int32) (B - o0)) = Int32.ofInt ((0 : Nat) : Int)) (h1 : own_max (0 : Int32) (own_min (8 : Int32) (B - o1)) = Int32.ofInt ((0 : Nat) : Int)) (h2 : own_max (0 : Int32) (own_min (8 : Int32) (B - o2)) = Int32.ofInt ((0 : Nat) : Int)) (h3 : own_max (0 : Int32) (own_min (8 : Int32) (B - o3)) = Int32.ofInt ((0 : Nat) : Int)) (h4 : own_max (0 : Int32) (own_min (8 : Int32) (B - o4)) = Int32.ofInt ((0 : Nat) : Int)) (h5 : own_max (0 : Int32) (own_min (8 : Int32) (B - o5)) = Int32.ofInt ((0 : Nat) : Int)) (h6 : own_max (0 : Int32) (own_min (8 : Int32) (B - o6)) = Int32.ofInt ((0 : Nat) : Int)) (h7 : own_max (0 : Int32) (own_min (8 : Int32) (B - o7)) = Int32.ofInt ((0 : Nat) : Int)) (hn : n = 0) : own_p8 (own_nb (own_by x 56) B o0) (own_nb (own_by x 48) B o1) (own_nb (own_by x 40) B o2) (own_nb (own_by x 32) B o3) (own_nb (own_by x 24) B o4) (own_nb (own_by x 16) B o5) (own_nb (own_by x 8) B o6) (own_nb (own_b0 x) B o7) = x &&& n := by
  have b0 := own_byv x 56 56 (by decide) (by decide)
  have n0 := own_nbv (own_by x 56) B o0 0 (by decide) b0.2.1 b0.2.2 h0
  have b1 := own_byv x 48 48 (by decide) (by decide)
  have n1 := own_nbv (own_by x 48) B o1 0 (by decide) b1.2.1 b1.2.2 h1
  have b2 := own_byv x 40 40 (by decide) (by decide)
  have n2 := own_nbv (own_by x 40) B o2 0 (by decide) b2.2.1 b2.2.2 h2
  have b3 := own_byv x 32 32 (by decide) (by decide)
  have n3 := own_nbv (own_by x 32) B o3 0 (by decide) b3.2.1 b3.2.2 h3
  have b4 := own_byv x 24 24 (by decide) (by decide)
  have n4 := own_nbv (own_by x 24) B o4 0 (by decide) b4.2.1 b4.2.2 h4
  have b5 := own_byv x 16 16 (by decide) (by decide)
  have n5 := own_nbv (own_by x 16) B o5 0 (by decide) b5.2.1 b5.2.2 h5
  have b6 := own_byv x 8 8 (by decide) (by decide)
  have n6 := own_nbv (own_by x 8) B o6 0 (by decide) b6.2.1 b6.2.2 h6
  have b7 := own_b0v x
  have n7 := own_nbv (own_b0 x) B o7 0 (by decide) b7.2.1 b7.2.2 h7
  have P := own_p8v (own_nb (own_by x 56) B o0) (own_nb (own_by x 48) B o1) (own_nb (own_by x 40) B o2) (own_nb (own_by x 32) B o3) (own_nb (own_by x 24) B o4) (own_nb (own_by x 16) B o5) (own_nb (own_by x 8) B o6) (own_nb (own_b0 x) B o7)
  have R1 := rng64 (own_p8 (own_nb (own_by x 56) B o0) (own_nb (own_by x 48) B o1) (own_nb (own_by x 40) B o2) (own_nb (own_by x 32) B o3) (own_nb (own_by x 24) B o4) (own_nb (own_by x 16) B o5) (own_nb (own_by x 8) B o6) (own_nb (own_b0 x) B o7))
  rw [n0, n1, n2, n3, n4, n5, n6, n7] at P
  rw [b0.1, b1.1, b2.1, b3.1, b4.1, b5.1, b6.1, b7.1] at P
  have K := own_k8_0 x.toInt (x.toInt % 18446744073709551616) _ rfl P
  clear P n0 n1 n2 n3 n4 n5 n6 n7 b0 b1 b2 b3 b4 b5 b6 b7 h0 h1 h2 h3 h4 h5 h6 h7
  apply Int64.toInt_inj.mp
  generalize own_p8 (own_nb (own_by x 56) B o0) (own_nb (own_by x 48) B o1) (own_nb (own_by x 40) B o2) (own_nb (own_by x 32) B o3) (own_nb (own_by x 24) B o4) (own_nb (own_by x 16) B o5) (own_nb (own_by x 8) B o6) (own_nb (own_b0 x) B o7) = p at *
  subst hn
  have z : (x &&& (0 : Int64)).toInt = 0 := by rw [Int64.and_zero]; rfl
  rw [z]
  omega
theorem own_g8_1 (x n : Int64) (B o0 o1 o2 o3 o4 o5 o6 o7 : Int32) (h0 : own_max (0 : Int32) (own_min (8 : Int32) (B - o0)) = Int32.ofInt ((1 : Nat) : Int)) (h1 : own_max (0 : Int32) (own_min (8 : Int32) (B - o1)) = Int32.ofInt ((0 : Nat) : Int)) (h2 : own_max (0 : Int32) (own_min (8 : Int32) (B - o2)) = Int32.ofInt ((0 : Nat) : Int)) (h3 : own_max (0 : Int32) (own_min (8 : Int32) (B - o3)) = Int32.ofInt ((0 : Nat) : Int)) (h4 : own_max (0 : Int32) (own_min (8 : Int32) (B - o4)) = Int32.ofInt ((0 : Nat) : Int)) (h5 : own_max (0 : Int32) (own_min (8 : Int32) (B - o5)) = Int32.ofInt ((0 : Nat) : Int)) (h6 : own_max (0 : Int32) (own_min (8 : Int32) (B - o6)) = Int32.ofInt ((0 : Nat) : Int)) (h7 : own_max (0 : Int32) (own_min (8 : Int32) (B - o7)) = Int32.ofInt ((0 : Nat) : Int)) (hn : n = ~~~(9223372036854775807 : Int64)) : own_p8 (own_nb (own_by x 56) B o0) (own_nb (own_by x 48) B o1) (own_nb (own_by x 40) B o2) (own_nb (own_by x 32) B o3) (own_nb (own_by x 24) B o4) (own_nb (own_by x 16) B o5) (own_nb (own_by x 8) B o6) (own_nb (own_b0 x) B o7) = x &&& n := by
  have b0 := own_byv x 56 56 (by decide) (by decide)
  have n0 := own_nbv (own_by x 56) B o0 1 (by decide) b0.2.1 b0.2.2 h0
  have b1 := own_byv x 48 48 (by decide) (by decide)
  have n1 := own_nbv (own_by x 48) B o1 0 (by decide) b1.2.1 b1.2.2 h1
  have b2 := own_byv x 40 40 (by decide) (by decide)
  have n2 := own_nbv (own_by x 40) B o2 0 (by decide) b2.2.1 b2.2.2 h2
  have b3 := own_byv x 32 32 (by decide) (by decide)
  have n3 := own_nbv (own_by x 32) B o3 0 (by decide) b3.2.1 b3.2.2 h3
  have b4 := own_byv x 24 24 (by decide) (by decide)
  have n4 := own_nbv (own_by x 24) B o4 0 (by decide) b4.2.1 b4.2.2 h4
  have b5 := own_byv x 16 16 (by decide) (by decide)
  have n5 := own_nbv (own_by x 16) B o5 0 (by decide) b5.2.1 b5.2.2 h5
  have b6 := own_byv x 8 8 (by decide) (by decide)
  have n6 := own_nbv (own_by x 8) B o6 0 (by decide) b6.2.1 b6.2.2 h6
  have b7 := own_b0v x
  have n7 := own_nbv (own_b0 x) B o7 0 (by decide) b7.2.1 b7.2.2 h7
  have P := own_p8v (own_nb (own_by x 56) B o0) (own_nb (own_by x 48) B o1) (own_nb (own_by x 40) B o2) (own_nb (own_by x 32) B o3) (own_nb (own_by x 24) B o4) (own_nb (own_by x 16) B o5) (own_nb (own_by x 8) B o6) (own_nb (own_b0 x) B o7)
  have R1 := rng64 (own_p8 (own_nb (own_by x 56) B o0) (own_nb (own_by x 48) B o1) (own_nb (own_by x 40) B o2) (own_nb (own_by x 32) B o3) (own_nb (own_by x 24) B o4) (own_nb (own_by x 16) B o5) (own_nb (own_by x 8) B o6) (own_nb (own_b0 x) B o7))
  rw [n0, n1, n2, n3, n4, n5, n6, n7] at P
  rw [b0.1, b1.1, b2.1, b3.1, b4.1, b5.1, b6.1, b7.1] at P
  have K := own_k8_1 x.toInt (x.toInt % 18446744073709551616) _ rfl P
  clear P n0 n1 n2 n3 n4 n5 n6 n7 b0 b1 b2 b3 b4 b5 b6 b7 h0 h1 h2 h3 h4 h5 h6 h7
  apply Int64.toInt_inj.mp
  generalize own_p8 (own_nb (own_by x 56) B o0) (own_nb (own_by x 48) B o1) (own_nb (own_by x 40) B o2) (own_nb (own_by x 32) B o3) (own_nb (own_by x 24) B o4) (own_nb (own_by x 16) B o5) (own_nb (own_by x 8) B o6) (own_nb (own_b0 x) B o7) = p at *
  have H : ((x &&& n).toInt - (x.toInt - x.toInt % 9223372036854775808)) % 18446744073709551616 = 0 := own_hmL x (9223372036854775807 : Int64) n 63 (by decide) (by decide) hn
  have R2 := rng64 (x &&& n)
  generalize (x &&& n).toInt = r at *
  generalize x.toInt % 9223372036854775808 = z at *
  omega
theorem own_g8_2 (x n : Int64) (B o0 o1 o2 o3 o4 o5 o6 o7 : Int32) (h0 : own_max (0 : Int32) (own_min (8 : Int32) (B - o0)) = Int32.ofInt ((2 : Nat) : Int)) (h1 : own_max (0 : Int32) (own_min (8 : Int32) (B - o1)) = Int32.ofInt ((0 : Nat) : Int)) (h2 : own_max (0 : Int32) (own_min (8 : Int32) (B - o2)) = Int32.ofInt ((0 : Nat) : Int)) (h3 : own_max (0 : Int32) (own_min (8 : Int32) (B - o3)) = Int32.ofInt ((0 : Nat) : Int)) (h4 : own_max (0 : Int32) (own_min (8 : Int32) (B - o4)) = Int32.ofInt ((0 : Nat) : Int)) (h5 : own_max (0 : Int32) (own_min (8 : Int32) (B - o5)) = Int32.ofInt ((0 : Nat) : Int)) (h6 : own_max (0 : Int32) (own_min (8 : Int32) (B - o6)) = Int32.ofInt ((0 : Nat) : Int)) (h7 : own_max (0 : Int32) (own_min (8 : Int32) (B - o7)) = Int32.ofInt ((0 : Nat) : Int)) (hn : n = ~~~(4611686018427387903 : Int64)) : own_p8 (own_nb (own_by x 56) B o0) (own_nb (own_by x 48) B o1) (own_nb (own_by x 40) B o2) (own_nb (own_by x 32) B o3) (own_nb (own_by x 24) B o4) (own_nb (own_by x 16) B o5) (own_nb (own_by x 8) B o6) (own_nb (own_b0 x) B o7) = x &&& n := by
  have b0 := own_byv x 56 56 (by decide) (by decide)
  have n0 := own_nbv (own_by x 56) B o0 2 (by decide) b0.2.1 b0.2.2 h0
  have b1 := own_byv x 48 48 (by decide) (by decide)
  have n1 := own_nbv (own_by x 48) B o1 0 (by decide) b1.2.1 b1.2.2 h1
  have b2 := own_byv x 40 40 (by decide) (by decide)
  have n2 := own_nbv (own_by x 40) B o2 0 (by decide) b2.2.1 b2.2.2 h2
  have b3 := own_byv x 32 32 (by decide) (by decide)
  have n3 := own_nbv (own_by x 32) B o3 0 (by decide) b3.2.1 b3.2.2 h3
  have b4 := own_byv x 24 24 (by decide) (by decide)
  have n4 := own_nbv (own_by x 24) B o4 0 (by decide) b4.2.1 b4.2.2 h4
  have b5 := own_byv x 16 16 (by decide) (by decide)
  have n5 := own_nbv (own_by x 16) B o5 0 (by decide) b5.2.1 b5.2.2 h5
  have b6 := own_byv x 8 8 (by decide) (by decide)
  have n6 := own_nbv (own_by x 8) B o6 0 (by decide) b6.2.1 b6.2.2 h6
  have b7 := own_b0v x
  have n7 := own_nbv (own_b0 x) B o7 0 (by decide) b7.2.1 b7.2.2 h7
  have P := own_p8v (own_nb (own_by x 56) B o0) (own_nb (own_by x 48) B o1) (own_nb (own_by x 40) B o2) (own_nb (own_by x 32) B o3) (own_nb (own_by x 24) B o4) (own_nb (own_by x 16) B o5) (own_nb (own_by x 8) B o6) (own_nb (own_b0 x) B o7)
  have R1 := rng64 (own_p8 (own_nb (own_by x 56) B o0) (own_nb (own_by x 48) B o1) (own_nb (own_by x 40) B o2) (own_nb (own_by x 32) B o3) (own_nb (own_by x 24) B o4) (own_nb (own_by x 16) B o5) (own_nb (own_by x 8) B o6) (own_nb (own_b0 x) B o7))
  rw [n0, n1, n2, n3, n4, n5, n6, n7] at P
  rw [b0.1, b1.1, b2.1, b3.1, b4.1, b5.1, b6.1, b7.1] at P
  have K := own_k8_2 x.toInt (x.toInt % 18446744073709551616) _ rfl P
  clear P n0 n1 n2 n3 n4 n5 n6 n7 b0 b1 b2 b3 b4 b5 b6 b7 h0 h1 h2 h3 h4 h5 h6 h7
  apply Int64.toInt_inj.mp
  generalize own_p8 (own_nb (own_by x 56) B o0) (own_nb (own_by x 48) B o1) (own_nb (own_by x 40) B o2) (own_nb (own_by x 32) B o3) (own_nb (own_by x 24) B o4) (own_nb (own_by x 16) B o5) (own_nb (own_by x 8) B o6) (own_nb (own_b0 x) B o7) = p at *
  have H : ((x &&& n).toInt - (x.toInt - x.toInt % 4611686018427387904)) % 18446744073709551616 = 0 := own_hmL x (4611686018427387903 : Int64) n 62 (by decide) (by decide) hn
  have R2 := rng64 (x &&& n)
  generalize (x &&& n).toInt = r at *
  generalize x.toInt % 4611686018427387904 = z at *
  omega
theorem own_g8_3 (x n : Int64) (B o0 o1 o2 o3 o4 o5 o6 o7 : Int32) (h0 : own_max (0 : Int32) (own_min (8 : Int32) (B - o0)) = Int32.ofInt ((3 : Nat) : Int)) (h1 : own_max (0 : Int32) (own_min (8 : Int32) (B - o1)) = Int32.ofInt ((0 : Nat) : Int)) (h2 : own_max (0 : Int32) (own_min (8 : Int32) (B - o2)) = Int32.ofInt ((0 : Nat) : Int)) (h3 : own_max (0 : Int32) (own_min (8 : Int32) (B - o3)) = Int32.ofInt ((0 : Nat) : Int)) (h4 : own_max (0 : Int32) (own_min (8 : Int32) (B - o4)) = Int32.ofInt ((0 : Nat) : Int)) (h5 : own_max (0 : Int32) (own_min (8 : Int32) (B - o5)) = Int32.ofInt ((0 : Nat) : Int)) (h6 : own_max (0 : Int32) (own_min (8 : Int32) (B - o6)) = Int32.ofInt ((0 : Nat) : Int)) (h7 : own_max (0 : Int32) (own_min (8 : Int32) (B - o7)) = Int32.ofInt ((0 : Nat) : Int)) (hn : n = ~~~(2305843009213693951 : Int64)) : own_p8 (own_nb (own_by x 56) B o0) (own_nb (own_by x 48) B o1) (own_nb (own_by x 40) B o2) (own_nb (own_by x 32) B o3) (own_nb (own_by x 24) B o4) (own_nb (own_by x 16) B o5) (own_nb (own_by x 8) B o6) (own_nb (own_b0 x) B o7) = x &&& n := by
  have b0 := own_byv x 56 56 (by decide) (by decide)
  have n0 := own_nbv (own_by x 56) B o0 3 (by decide) b0.2.1 b0.2.2 h0
  have b1 := own_byv x 48 48 (by decide) (by decide)
  have n1 := own_nbv (own_by x 48) B o1 0 (by decide) b1.2.1 b1.2.2 h1
  have b2 := own_byv x 40 40 (by decide) (by decide)
  have n2 := own_nbv (own_by x 40) B o2 0 (by decide) b2.2.1 b2.2.2 h2
  have b3 := own_byv x 32 32 (by decide) (by decide)
  have n3 := own_nbv (own_by x 32) B o3 0 (by decide) b3.2.1 b3.2.2 h3
  have b4 := own_byv x 24 24 (by decide) (by decide)
  have n4 := own_nbv (own_by x 24) B o4 0 (by decide) b4.2.1 b4.2.2 h4
  have b5 := own_byv x 16 16 (by decide) (by decide)
  have n5 := own_nbv (own_by x 16) B o5 0 (by decide) b5.2.1 b5.2.2 h5
  have b6 := own_byv x 8 8 (by decide) (by decide)
  have n6 := own_nbv (own_by x 8) B o6 0 (by decide) b6.2.1 b6.2.2 h6
  have b7 := own_b0v x
  have n7 := own_nbv (own_b0 x) B o7 0 (by decide) b7.2.1 b7.2.2 h7
  have P := own_p8v (own_nb (own_by x 56) B o0) (own_nb (own_by x 48) B o1) (own_nb (own_by x 40) B o2) (own_nb (own_by x 32) B o3) (own_nb (own_by x 24) B o4) (own_nb (own_by x 16) B o5) (own_nb (own_by x 8) B o6) (own_nb (own_b0 x) B o7)
  have R1 := rng64 (own_p8 (own_nb (own_by x 56) B o0) (own_nb (own_by x 48) B o1) (own_nb (own_by x 40) B o2) (own_nb (own_by x 32) B o3) (own_nb (own_by x 24) B o4) (own_nb (own_by x 16) B o5) (own_nb (own_by x 8) B o6) (own_nb (own_b0 x) B o7))
  rw [n0, n1, n2, n3, n4, n5, n6, n7] at P
  rw [b0.1, b1.1, b2.1, b3.1, b4.1, b5.1, b6.1, b7.1] at P
  have K := own_k8_3 x.toInt (x.toInt % 18446744073709551616) _ rfl P
  clear P n0 n1 n2 n3 n4 n5 n6 n7 b0 b1 b2 b3 b4 b5 b6 b7 h0 h1 h2 h3 h4 h5 h6 h7
  apply Int64.toInt_inj.mp
  generalize own_p8 (own_nb (own_by x 56) B o0) (own_nb (own_by x 48) B o1) (own_nb (own_by x 40) B o2) (own_nb (own_by x 32) B o3) (own_nb (own_by x 24) B o4) (own_nb (own_by x 16) B o5) (own_nb (own_by x 8) B o6) (own_nb (own_b0 x) B o7) = p at *
  have H : ((x &&& n).toInt - (x.toInt - x.toInt % 2305843009213693952)) % 18446744073709551616 = 0 := own_hmL x (2305843009213693951 : Int64) n 61 (by decide) (by decide) hn
  have R2 := rng64 (x &&& n)
  generalize (x &&& n).toInt = r at *
  generalize x.toInt % 2305843009213693952 = z at *
  omega
theorem own_g8_4 (x n : Int64) (B o0 o1 o2 o3 o4 o5 o6 o7 : Int32) (h0 : own_max (0 : Int32) (own_min (8 : Int32) (B - o0)) = Int32.ofInt ((4 : Nat) : Int)) (h1 : own_max (0 : Int32) (own_min (8 : Int32) (B - o1)) = Int32.ofInt ((0 : Nat) : Int)) (h2 : own_max (0 : Int32) (own_min (8 : Int32) (B - o2)) = Int32.ofInt ((0 : Nat) : Int)) (h3 : own_max (0 : Int32) (own_min (8 : Int32) (B - o3)) = Int32.ofInt ((0 : Nat) : Int)) (h4 : own_max (0 : Int32) (own_min (8 : Int32) (B - o4)) = Int32.ofInt ((0 : Nat) : Int)) (h5 : own_max (0 : Int32) (own_min (8 : Int32) (B - o5)) = Int32.ofInt ((0 : Nat) : Int)) (h6 : own_max (0 : Int32) (own_min (8 : Int32) (B - o6)) = Int32.ofInt ((0 : Nat) : Int)) (h7 : own_max (0 : Int32) (own_min (8 : Int32) (B - o7)) = Int32.ofInt ((0 : Nat) : Int)) (hn : n = ~~~(1152921504606846975 : Int64)) : own_p8 (own_nb (own_by x 56) B o0) (own_nb (own_by x 48) B o1) (own_nb (own_by x 40) B o2) (own_nb (own_by x 32) B o3) (own_nb (own_by x 24) B o4) (own_nb (own_by x 16) B o5) (own_nb (own_by x 8) B o6) (own_nb (own_b0 x) B o7) = x &&& n := by
  have b0 := own_byv x 56 56 (by decide) (by decide)
  have n0 := own_nbv (own_by x 56) B o0 4 (by decide) b0.2.1 b0.2.2 h0
  have b1 := own_byv x 48 48 (by decide) (by decide)
  have n1 := own_nbv (own_by x 48) B o1 0 (by decide) b1.2.1 b1.2.2 h1
  have b2 := own_byv x 40 40 (by decide) (by decide)
  have n2 := own_nbv (own_by x 40) B o2 0 (by decide) b2.2.1 b2.2.2 h2
  have b3 := own_byv x 32 32 (by decide) (by decide)
  have n3 := own_nbv (own_by x 32) B o3 0 (by decide) b3.2.1 b3.2.2 h3
  have b4 := own_byv x 24 24 (by decide) (by decide)
  have n4 := own_nbv (own_by x 24) B o4 0 (by decide) b4.2.1 b4.2.2 h4
  have b5 := own_byv x 16 16 (by decide) (by decide)
  have n5 := own_nbv (own_by x 16) B o5 0 (by decide) b5.2.1 b5.2.2 h5
  have b6 := own_byv x 8 8 (by decide) (by decide)
  have n6 := own_nbv (own_by x 8) B o6 0 (by decide) b6.2.1 b6.2.2 h6
  have b7 := own_b0v x
  have n7 := own_nbv (own_b0 x) B o7 0 (by decide) b7.2.1 b7.2.2 h7
  have P := own_p8v (own_nb (own_by x 56) B o0) (own_nb (own_by x 48) B o1) (own_nb (own_by x 40) B o2) (own_nb (own_by x 32) B o3) (own_nb (own_by x 24) B o4) (own_nb (own_by x 16) B o5) (own_nb (own_by x 8) B o6) (own_nb (own_b0 x) B o7)
  have R1 := rng64 (own_p8 (own_nb (own_by x 56) B o0) (own_nb (own_by x 48) B o1) (own_nb (own_by x 40) B o2) (own_nb (own_by x 32) B o3) (own_nb (own_by x 24) B o4) (own_nb (own_by x 16) B o5) (own_nb (own_by x 8) B o6) (own_nb (own_b0 x) B o7))
  rw [n0, n1, n2, n3, n4, n5, n6, n7] at P
  rw [b0.1, b1.1, b2.1, b3.1, b4.1, b5.1, b6.1, b7.1] at P
  have K := own_k8_4 x.toInt (x.toInt % 18446744073709551616) _ rfl P
  clear P n0 n1 n2 n3 n4 n5 n6 n7 b0 b1 b2 b3 b4 b5 b6 b7 h0 h1 h2 h3 h4 h5 h6 h7
  apply Int64.toInt_inj.mp
  generalize own_p8 (own_nb (own_by x 56) B o0) (own_nb (own_by x 48) B o1) (own_nb (own_by x 40) B o2) (own_nb (own_by x 32) B o3) (own_nb (own_by x 24) B o4) (own_nb (own_by x 16) B o5) (own_nb (own_by x 8) B o6) (own_nb (own_b0 x) B o7) = p at *
  have H : ((x &&& n).toInt - (x.toInt - x.toInt % 1152921504606846976)) % 18446744073709551616 = 0 := own_hmL x (1152921504606846975 : Int64) n 60 (by decide) (by decide) hn
  have R2 := rng64 (x &&& n)
  generalize (x &&& n).toInt = r at *
  generalize x.toInt % 1152921504606846976 = z at *
  omega
theorem own_g8_5 (x n : Int64) (B o0 o1 o2 o3 o4 o5 o6 o7 : Int32) (h0 : own_max (0 : Int32) (own_min (8 : Int32) (B - o0)) = Int32.ofInt ((5 : Nat) : Int)) (h1 : own_max (0 : Int32) (own_min (8 : Int32) (B - o1)) = Int32.ofInt ((0 : Nat) : Int)) (h2 : own_max (0 : Int32) (own_min (8 : Int32) (B - o2)) = Int32.ofInt ((0 : Nat) : Int)) (h3 : own_max (0 : Int32) (own_min (8 : Int32) (B - o3)) = Int32.ofInt ((0 : Nat) : Int)) (h4 : own_max (0 : Int32) (own_min (8 : Int32) (B - o4)) = Int32.ofInt ((0 : Nat) : Int)) (h5 : own_max (0 : Int32) (own_min (8 : Int32) (B - o5)) = Int32.ofInt ((0 : Nat) : Int)) (h6 : own_max (0 : Int32) (own_min (8 : Int32) (B - o6)) = Int32.ofInt ((0 : Nat) : Int)) (h7 : own_max (0 : Int32) (own_min (8 : Int32) (B - o7)) = Int32.ofInt ((0 : Nat) : Int)) (hn : n = ~~~(576460752303423487 : Int64)) : own_p8 (own_nb (own_by x 56) B o0) (own_nb (own_by x 48) B o1) (own_nb (own_by x 40) B o2) (own_nb (own_by x 32) B o3) (own_nb (own_by x 24) B o4) (own_nb (own_by x 16) B o5) (own_nb (own_by x 8) B o6) (own_nb (own_b0 x) B o7) = x &&& n := by
  have b0 := own_byv x 56 56 (by decide) (by decide)
  have n0 := own_nbv (own_by x 56) B o0 5 (by decide) b0.2.1 b0.2.2 h0
  have b1 := own_byv x 48 48 (by decide) (by decide)
  have n1 := own_nbv (own_by x 48) B o1 0 (by decide) b1.2.1 b1.2.2 h1
  have b2 := own_byv x 40 40 (by decide) (by decide)
  have n2 := own_nbv (own_by x 40) B o2 0 (by decide) b2.2.1 b2.2.2 h2
  have b3 := own_byv x 32 32 (by decide) (by decide)
  have n3 := own_nbv (own_by x 32) B o3 0 (by decide) b3.2.1 b3.2.2 h3
  have b4 := own_byv x 24 24 (by decide) (by decide)
  have n4 := own_nbv (own_by x 24) B o4 0 (by decide) b4.2.1 b4.2.2 h4
  have b5 := own_byv x 16 16 (by decide) (by decide)
  have n5 := own_nbv (own_by x 16) B o5 0 (by decide) b5.2.1 b5.2.2 h5
  have b6 := own_byv x 8 8 (by decide) (by decide)
  have n6 := own_nbv (own_by x 8) B o6 0 (by decide) b6.2.1 b6.2.2 h6
  have b7 := own_b0v x
  have n7 := own_nbv (own_b0 x) B o7 0 (by decide) b7.2.1 b7.2.2 h7
  have P := own_p8v (own_nb (own_by x 56) B o0) (own_nb (own_by x 48) B o1) (own_nb (own_by x 40) B o2) (own_nb (own_by x 32) B o3) (own_nb (own_by x 24) B o4) (own_nb (own_by x 16) B o5) (own_nb (own_by x 8) B o6) (own_nb (own_b0 x) B o7)
  have R1 := rng64 (own_p8 (own_nb (own_by x 56) B o0) (own_nb (own_by x 48) B o1) (own_nb (own_by x 40) B o2) (own_nb (own_by x 32) B o3) (own_nb (own_by x 24) B o4) (own_nb (own_by x 16) B o5) (own_nb (own_by x 8) B o6) (own_nb (own_b0 x) B o7))
  rw [n0, n1, n2, n3, n4, n5, n6, n7] at P
  rw [b0.1, b1.1, b2.1, b3.1, b4.1, b5.1, b6.1, b7.1] at P
  have K := own_k8_5 x.toInt (x.toInt % 18446744073709551616) _ rfl P
  clear P n0 n1 n2 n3 n4 n5 n6 n7 b0 b1 b2 b3 b4 b5 b6 b7 h0 h1 h2 h3 h4 h5 h6 h7
  apply Int64.toInt_inj.mp
  generalize own_p8 (own_nb (own_by x 56) B o0) (own_nb (own_by x 48) B o1) (own_nb (own_by x 40) B o2) (own_nb (own_by x 32) B o3) (own_nb (own_by x 24) B o4) (own_nb (own_by x 16) B o5) (own_nb (own_by x 8) B o6) (own_nb (own_b0 x) B o7) = p at *
  have H : ((x &&& n).toInt - (x.toInt - x.toInt % 576460752303423488)) % 18446744073709551616 = 0 := own_hmL x (576460752303423487 : Int64) n 59 (by decide) (by decide) hn
  have R2 := rng64 (x &&& n)
  generalize (x &&& n).toInt = r at *
  generalize x.toInt % 576460752303423488 = z at *
  omega
theorem own_g8_6 (x n : Int64) (B o0 o1 o2 o3 o4 o5 o6 o7 : Int32) (h0 : own_max (0 : Int32) (own_min (8 : Int32) (B - o0)) = Int32.ofInt ((6 : Nat) : Int)) (h1 : own_max (0 : Int32) (own_min (8 : Int32) (B - o1)) = Int32.ofInt ((0 : Nat) : Int)) (h2 : own_max (0 : Int32) (own_min (8 : Int32) (B - o2)) = Int32.ofInt ((0 : Nat) : Int)) (h3 : own_max (0 : Int32) (own_min (8 : Int32) (B - o3)) = Int32.ofInt ((0 : Nat) : Int)) (h4 : own_max (0 : Int32) (own_min (8 : Int32) (B - o4)) = Int32.ofInt ((0 : Nat) : Int)) (h5 : own_max (0 : Int32) (own_min (8 : Int32) (B - o5)) = Int32.ofInt ((0 : Nat) : Int)) (h6 : own_max (0 : Int32) (own_min (8 : Int32) (B - o6)) = Int32.ofInt ((0 : Nat) : Int)) (h7 : own_max (0 : Int32) (own_min (8 : Int32) (B - o7)) = Int32.ofInt ((0 : Nat) : Int)) (hn : n = ~~~(288230376151711743 : Int64)) : own_p8 (own_nb (own_by x 56) B o0) (own_nb (own_by x 48) B o1) (own_nb (own_by x 40) B o2) (own_nb (own_by x 32) B o3) (own_nb (own_by x 24) B o4) (own_nb (own_by x 16) B o5) (own_nb (own_by x 8) B o6) (own_nb (own_b0 x) B o7) = x &&& n := by
  have b0 := own_byv x 56 56 (by decide) (by decide)
  have n0 := own_nbv (own_by x 56) B o0 6 (by decide) b0.2.1 b0.2.2 h0
  have b1 := own_byv x 48 48 (by decide) (by decide)
  have n1 := own_nbv (own_by x 48) B o1 0 (by decide) b1.2.1 b1.2.2 h1
  have b2 := own_byv x 40 40 (by decide) (by decide)
  have n2 := own_nbv (own_by x 40) B o2 0 (by decide) b2.2.1 b2.2.2 h2
  have b3 := own_byv x 32 32 (by decide) (by decide)
  have n3 := own_nbv (own_by x 32) B o3 0 (by decide) b3.2.1 b3.2.2 h3
  have b4 := own_byv x 24 24 (by decide) (by decide)
  have n4 := own_nbv (own_by x 24) B o4 0 (by decide) b4.2.1 b4.2.2 h4
  have b5 := own_byv x 16 16 (by decide) (by decide)
  have n5 := own_nbv (own_by x 16) B o5 0 (by decide) b5.2.1 b5.2.2 h5
  have b6 := own_byv x 8 8 (by decide) (by decide)
  have n6 := own_nbv (own_by x 8) B o6 0 (by decide) b6.2.1 b6.2.2 h6
  have b7 := own_b0v x
  have n7 := own_nbv (own_b0 x) B o7 0 (by decide) b7.2.1 b7.2.2 h7
  have P := own_p8v (own_nb (own_by x 56) B o0) (own_nb (own_by x 48) B o1) (own_nb (own_by x 40) B o2) (own_nb (own_by x 32) B o3) (own_nb (own_by x 24) B o4) (own_nb (own_by x 16) B o5) (own_nb (own_by x 8) B o6) (own_nb (own_b0 x) B o7)
  have R1 := rng64 (own_p8 (own_nb (own_by x 56) B o0) (own_nb (own_by x 48) B o1) (own_nb (own_by x 40) B o2) (own_nb (own_by x 32) B o3) (own_nb (own_by x 24) B o4) (own_nb (own_by x 16) B o5) (own_nb (own_by x 8) B o6) (own_nb (own_b0 x) B o7))
  rw [n0, n1, n2, n3, n4, n5, n6, n7] at P
  rw [b0.1, b1.1, b2.1, b3.1, b4.1, b5.1, b6.1, b7.1] at P
  have K := own_k8_6 x.toInt (x.toInt % 18446744073709551616) _ rfl P
  clear P n0 n1 n2 n3 n4 n5 n6 n7 b0 b1 b2 b3 b4 b5 b6 b7 h0 h1 h2 h3 h4 h5 h6 h7
  apply Int64.toInt_inj.mp
  generalize own_p8 (own_nb (own_by x 56) B o0) (own_nb (own_by x 48) B o1) (own_nb (own_by x 40) B o2) (own_nb (own_by x 32) B o3) (own_nb (own_by x 24) B o4) (own_nb (own_by x 16) B o5) (own_nb (own_by x 8) B o6) (own_nb (own_b0 x) B o7) = p at *
  have H : ((x &&& n).toInt - (x.toInt - x.toInt % 288230376151711744)) % 18446744073709551616 = 0 := own_hmL x (288230376151711743 : Int64) n 58 (by decide) (by decide) hn
  have R2 := rng64 (x &&& n)
  generalize (x &&& n).toInt = r at *
  generalize x.toInt % 288230376151711744 = z at *
  omega
theorem own_g8_7 (x n : Int64) (B o0 o1 o2 o3 o4 o5 o6 o7 : Int32) (h0 : own_max (0 : Int32) (own_min (8 : Int32) (B - o0)) = Int32.ofInt ((7 : Nat) : Int)) (h1 : own_max (0 : Int32) (own_min (8 : Int32) (B - o1)) = Int32.ofInt ((0 : Nat) : Int)) (h2 : own_max (0 : Int32) (own_min (8 : Int32) (B - o2)) = Int32.ofInt ((0 : Nat) : Int)) (h3 : own_max (0 : Int32) (own_min (8 : Int32) (B - o3)) = Int32.ofInt ((0 : Nat) : Int)) (h4 : own_max (0 : Int32) (own_min (8 : Int32) (B - o4)) = Int32.ofInt ((0 : Nat) : Int)) (h5 : own_max (0 : Int32) (own_min (8 : Int32) (B - o5)) = Int32.ofInt ((0 : Nat) : Int)) (h6 : own_max (0 : Int32) (own_min (8 : Int32) (B - o6)) = Int32.ofInt ((0 : Nat) : Int)) (h7 : own_max (0 : Int32) (own_min (8 : Int32) (B - o7)) = Int32.ofInt ((0 : Nat) : Int)) (hn : n = ~~~(144115188075855871 : Int64)) : own_p8 (own_nb (own_by x 56) B o0) (own_nb (own_by x 48) B o1) (own_nb (own_by x 40) B o2) (own_nb (own_by x 32) B o3) (own_nb (own_by x 24) B o4) (own_nb (own_by x 16) B o5) (own_nb (own_by x 8) B o6) (own_nb (own_b0 x) B o7) = x &&& n := by
  have b0 := own_byv x 56 56 (by decide) (by decide)
  have n0 := own_nbv (own_by x 56) B o0 7 (by decide) b0.2.1 b0.2.2 h0
  have b1 := own_byv x 48 48 (by decide) (by decide)
  have n1 := own_nbv (own_by x 48) B o1 0 (by decide) b1.2.1 b1.2.2 h1
  have b2 := own_byv x 40 40 (by decide) (by decide)
  have n2 := own_nbv (own_by x 40) B o2 0 (by decide) b2.2.1 b2.2.2 h2
  have b3 := own_byv x 32 32 (by decide) (by decide)
  have n3 := own_nbv (own_by x 32) B o3 0 (by decide) b3.2.1 b3.2.2 h3
  have b4 := own_byv x 24 24 (by decide) (by decide)
  have n4 := own_nbv (own_by x 24) B o4 0 (by decide) b4.2.1 b4.2.2 h4
  have b5 := own_byv x 16 16 (by decide) (by decide)
  have n5 := own_nbv (own_by x 16) B o5 0 (by decide) b5.2.1 b5.2.2 h5
  have b6 := own_byv x 8 8 (by decide) (by decide)
  have n6 := own_nbv (own_by x 8) B o6 0 (by decide) b6.2.1 b6.2.2 h6
  have b7 := own_b0v x
  have n7 := own_nbv (own_b0 x) B o7 0 (by decide) b7.2.1 b7.2.2 h7
  have P := own_p8v (own_nb (own_by x 56) B o0) (own_nb (own_by x 48) B o1) (own_nb (own_by x 40) B o2) (own_nb (own_by x 32) B o3) (own_nb (own_by x 24) B o4) (own_nb (own_by x 16) B o5) (own_nb (own_by x 8) B o6) (own_nb (own_b0 x) B o7)
  have R1 := rng64 (own_p8 (own_nb (own_by x 56) B o0) (own_nb (own_by x 48) B o1) (own_nb (own_by x 40) B o2) (own_nb (own_by x 32) B o3) (own_nb (own_by x 24) B o4) (own_nb (own_by x 16) B o5) (own_nb (own_by x 8) B o6) (own_nb (own_b0 x) B o7))
  rw [n0, n1, n2, n3, n4, n5, n6, n7] at P
  rw [b0.1, b1.1, b2.1, b3.1, b4.1, b5.1, b6.1, b7.1] at P
  have K := own_k8_7 x.toInt (x.toInt % 18446744073709551616) _ rfl P
  clear P n0 n1 n2 n3 n4 n5 n6 n7 b0 b1 b2 b3 b4 b5 b6 b7 h0 h1 h2 h3 h4 h5 h6 h7
  apply Int64.toInt_inj.mp
  generalize own_p8 (own_nb (own_by x 56) B o0) (own_nb (own_by x 48) B o1) (own_nb (own_by x 40) B o2) (own_nb (own_by x 32) B o3) (own_nb (own_by x 24) B o4) (own_nb (own_by x 16) B o5) (own_nb (own_by x 8) B o6) (own_nb (own_b0 x) B o7) = p at *
  have H : ((x &&& n).toInt - (x.toInt - x.toInt % 144115188075855872)) % 18446744073709551616 = 0 := own_hmL x (144115188075855871 : Int64) n 57 (by decide) (by decide) hn
  have R2 := rng64 (x &&& n)
  generalize (x &&& n).toInt = r at *
  generalize x.toInt % 144115188075855872 = z at *
  omega
theorem own_g8_8 (x n : Int64) (B o0 o1 o2 o3 o4 o5 o6 o7 : Int32) (h0 : own_max (0 : Int32) (own_min (8 : Int32) (B - o0)) = Int32.ofInt ((8 : Nat) : Int)) (h1 : own_max (0 : Int32) (own_min (8 : Int32) (B - o1)) = Int32.ofInt ((0 : Nat) : Int)) (h2 : own_max (0 : Int32) (own_min (8 : Int32) (B - o2)) = Int32.ofInt ((0 : Nat) : Int)) (h3 : own_max (0 : Int32) (own_min (8 : Int32) (B - o3)) = Int32.ofInt ((0 : Nat) : Int)) (h4 : own_max (0 : Int32) (own_min (8 : Int32) (B - o4)) = Int32.ofInt ((0 : Nat) : Int)) (h5 : own_max (0 : Int32) (own_min (8 : Int32) (B - o5)) = Int32.ofInt ((0 : Nat) : Int)) (h6 : own_max (0 : Int32) (own_min (8 : Int32) (B - o6)) = Int32.ofInt ((0 : Nat) : Int)) (h7 : own_max (0 : Int32) (own_min (8 : Int32) (B - o7)) = Int32.ofInt ((0 : Nat) : Int)) (hn : n = ~~~(72057594037927935 : Int64)) : own_p8 (own_nb (own_by x 56) B o0) (own_nb (own_by x 48) B o1) (own_nb (own_by x 40) B o2) (own_nb (own_by x 32) B o3) (own_nb (own_by x 24) B o4) (own_nb (own_by x 16) B o5) (own_nb (own_by x 8) B o6) (own_nb (own_b0 x) B o7) = x &&& n := by
  have b0 := own_byv x 56 56 (by decide) (by decide)
  have n0 := own_nbv (own_by x 56) B o0 8 (by decide) b0.2.1 b0.2.2 h0
  have b1 := own_byv x 48 48 (by decide) (by decide)
  have n1 := own_nbv (own_by x 48) B o1 0 (by decide) b1.2.1 b1.2.2 h1
  have b2 := own_byv x 40 40 (by decide) (by decide)
  have n2 := own_nbv (own_by x 40) B o2 0 (by decide) b2.2.1 b2.2.2 h2
  have b3 := own_byv x 32 32 (by decide) (by decide)
  have n3 := own_nbv (own_by x 32) B o3 0 (by decide) b3.2.1 b3.2.2 h3
  have b4 := own_byv x 24 24 (by decide) (by decide)
  have n4 := own_nbv (own_by x 24) B o4 0 (by decide) b4.2.1 b4.2.2 h4
  have b5 := own_byv x 16 16 (by decide) (by decide)
  have n5 := own_nbv (own_by x 16) B o5 0 (by decide) b5.2.1 b5.2.2 h5
  have b6 := own_byv x 8 8 (by decide) (by decide)
  have n6 := own_nbv (own_by x 8) B o6 0 (by decide) b6.2.1 b6.2.2 h6
  have b7 := own_b0v x
  have n7 := own_nbv (own_b0 x) B o7 0 (by decide) b7.2.1 b7.2.2 h7
  have P := own_p8v (own_nb (own_by x 56) B o0) (own_nb (own_by x 48) B o1) (own_nb (own_by x 40) B o2) (own_nb (own_by x 32) B o3) (own_nb (own_by x 24) B o4) (own_nb (own_by x 16) B o5) (own_nb (own_by x 8) B o6) (own_nb (own_b0 x) B o7)
  have R1 := rng64 (own_p8 (own_nb (own_by x 56) B o0) (own_nb (own_by x 48) B o1) (own_nb (own_by x 40) B o2) (own_nb (own_by x 32) B o3) (own_nb (own_by x 24) B o4) (own_nb (own_by x 16) B o5) (own_nb (own_by x 8) B o6) (own_nb (own_b0 x) B o7))
  rw [n0, n1, n2, n3, n4, n5, n6, n7] at P
  rw [b0.1, b1.1, b2.1, b3.1, b4.1, b5.1, b6.1, b7.1] at P
  have K := own_k8_8 x.toInt (x.toInt % 18446744073709551616) _ rfl P
  clear P n0 n1 n2 n3 n4 n5 n6 n7 b0 b1 b2 b3 b4 b5 b6 b7 h0 h1 h2 h3 h4 h5 h6 h7
  apply Int64.toInt_inj.mp
  generalize own_p8 (own_nb (own_by x 56) B o0) (own_nb (own_by x 48) B o1) (own_nb (own_by x 40) B o2) (own_nb (own_by x 32) B o3) (own_nb (own_by x 24) B o4) (own_nb (own_by x 16) B o5) (own_nb (own_by x 8) B o6) (own_nb (own_b0 x) B o7) = p at *
  have H : ((x &&& n).toInt - (x.toInt - x.toInt % 72057594037927936)) % 18446744073709551616 = 0 := own_hmL x (72057594037927935 : Int64) n 56 (by decide) (by decide) hn
  have R2 := rng64 (x &&& n)
  generalize (x &&& n).toInt = r at *
  generalize x.toInt % 72057594037927936 = z at *
  omega
theorem own_g8_9 (x n : Int64) (B o0 o1 o2 o3 o4 o5 o6 o7 : Int32) (h0 : own_max (0 : Int32) (own_min (8 : Int32) (B - o0)) = Int32.ofInt ((8 : Nat) : Int)) (h1 : own_max (0 : Int32) (own_min (8 : Int32) (B - o1)) = Int32.ofInt ((1 : Nat) : Int)) (h2 : own_max (0 : Int32) (own_min (8 : Int32) (B - o2)) = Int32.ofInt ((0 : Nat) : Int)) (h3 : own_max (0 : Int32) (own_min (8 : Int32) (B - o3)) = Int32.ofInt ((0 : Nat) : Int)) (h4 : own_max (0 : Int32) (own_min (8 : Int32) (B - o4)) = Int32.ofInt ((0 : Nat) : Int)) (h5 : own_max (0 : Int32) (own_min (8 : Int32) (B - o5)) = Int32.ofInt ((0 : Nat) : Int)) (h6 : own_max (0 : Int32) (own_min (8 : Int32) (B - o6)) = Int32.ofInt ((0 : Nat) : Int)) (h7 : own_max (0 : Int32) (own_min (8 : Int32) (B - o7)) = Int32.ofInt ((0 : Nat) : Int)) (hn : n = ~~~(36028797018963967 : Int64)) : own_p8 (own_nb (own_by x 56) B o0) (own_nb (own_by x 48) B o1) (own_nb (own_by x 40) B o2) (own_nb (own_by x 32) B o3) (own_nb (own_by x 24) B o4) (own_nb (own_by x 16) B o5) (own_nb (own_by x 8) B o6) (own_nb (own_b0 x) B o7) = x &&& n := by
  have b0 := own_byv x 56 56 (by decide) (by decide)
  have n0 := own_nbv (own_by x 56) B o0 8 (by decide) b0.2.1 b0.2.2 h0
  have b1 := own_byv x 48 48 (by decide) (by decide)
  have n1 := own_nbv (own_by x 48) B o1 1 (by decide) b1.2.1 b1.2.2 h1
  have b2 := own_byv x 40 40 (by decide) (by decide)
  have n2 := own_nbv (own_by x 40) B o2 0 (by decide) b2.2.1 b2.2.2 h2
  have b3 := own_byv x 32 32 (by decide) (by decide)
  have n3 := own_nbv (own_by x 32) B o3 0 (by decide) b3.2.1 b3.2.2 h3
  have b4 := own_byv x 24 24 (by decide) (by decide)
  have n4 := own_nbv (own_by x 24) B o4 0 (by decide) b4.2.1 b4.2.2 h4
  have b5 := own_byv x 16 16 (by decide) (by decide)
  have n5 := own_nbv (own_by x 16) B o5 0 (by decide) b5.2.1 b5.2.2 h5
  have b6 := own_byv x 8 8 (by decide) (by decide)
  have n6 := own_nbv (own_by x 8) B o6 0 (by decide) b6.2.1 b6.2.2 h6
  have b7 := own_b0v x
  have n7 := own_nbv (own_b0 x) B o7 0 (by decide) b7.2.1 b7.2.2 h7
  have P := own_p8v (own_nb (own_by x 56) B o0) (own_nb (own_by x 48) B o1) (own_nb (own_by x 40) B o2) (own_nb (own_by x 32) B o3) (own_nb (own_by x 24) B o4) (own_nb (own_by x 16) B o5) (own_nb (own_by x 8) B o6) (own_nb (own_b0 x) B o7)
  have R1 := rng64 (own_p8 (own_nb (own_by x 56) B o0) (own_nb (own_by x 48) B o1) (own_nb (own_by x 40) B o2) (own_nb (own_by x 32) B o3) (own_nb (own_by x 24) B o4) (own_nb (own_by x 16) B o5) (own_nb (own_by x 8) B o6) (own_nb (own_b0 x) B o7))
  rw [n0, n1, n2, n3, n4, n5, n6, n7] at P
  rw [b0.1, b1.1, b2.1, b3.1, b4.1, b5.1, b6.1, b7.1] at P
  have K := own_k8_9 x.toInt (x.toInt % 18446744073709551616) _ rfl P
  clear P n0 n1 n2 n3 n4 n5 n6 n7 b0 b1 b2 b3 b4 b5 b6 b7 h0 h1 h2 h3 h4 h5 h6 h7
  apply Int64.toInt_inj.mp
  generalize own_p8 (own_nb (own_by x 56) B o0) (own_nb (own_by x 48) B o1) (own_nb (own_by x 40) B o2) (own_nb (own_by x 32) B o3) (own_nb (own_by x 24) B o4) (own_nb (own_by x 16) B o5) (own_nb (own_by x 8) B o6) (own_nb (own_b0 x) B o7) = p at *
  have H : ((x &&& n).toInt - (x.toInt - x.toInt % 36028797018963968)) % 18446744073709551616 = 0 := own_hmL x (36028797018963967 : Int64) n 55 (by decide) (by decide) hn
  have R2 := rng64 (x &&& n)
  generalize (x &&& n).toInt = r at *
  generalize x.toInt % 36028797018963968 = z at *
  omega
theorem own_g8_10 (x n : Int64) (B o0 o1 o2 o3 o4 o5 o6 o7 : Int32) (h0 : own_max (0 : Int32) (own_min (8 : Int32) (B - o0)) = Int32.ofInt ((8 : Nat) : Int)) (h1 : own_max (0 : Int32) (own_min (8 : Int32) (B - o1)) = Int32.ofInt ((2 : Nat) : Int)) (h2 : own_max (0 : Int32) (own_min (8 : Int32) (B - o2)) = Int32.ofInt ((0 : Nat) : Int)) (h3 : own_max (0 : Int32) (own_min (8 : Int32) (B - o3)) = Int32.ofInt ((0 : Nat) : Int)) (h4 : own_max (0 : Int32) (own_min (8 : Int32) (B - o4)) = Int32.ofInt ((0 : Nat) : Int)) (h5 : own_max (0 : Int32) (own_min (8 : Int32) (B - o5)) = Int32.ofInt ((0 : Nat) : Int)) (h6 : own_max (0 : Int32) (own_min (8 : Int32) (B - o6)) = Int32.ofInt ((0 : Nat) : Int)) (h7 : own_max (0 : Int32) (own_min (8 : Int32) (B - o7)) = Int32.ofInt ((0 : Nat) : Int)) (hn : n = ~~~(18014398509481983 : Int64)) : own_p8 (own_nb (own_by x 56) B o0) (own_nb (own_by x 48) B o1) (own_nb (own_by x 40) B o2) (own_nb (own_by x 32) B o3) (own_nb (own_by x 24) B o4) (own_nb (own_by x 16) B o5) (own_nb (own_by x 8) B o6) (own_nb (own_b0 x) B o7) = x &&& n := by
  have b0 := own_byv x 56 56 (by decide) (by decide)
  have n0 := own_nbv (own_by x 56) B o0 8 (by decide) b0.2.1 b0.2.2 h0
  have b1 := own_byv x 48 48 (by decide) (by decide)
  have n1 := own_nbv (own_by x 48) B o1 2 (by decide) b1.2.1 b1.2.2 h1
  have b2 := own_byv x 40 40 (by decide) (by decide)
  have n2 := own_nbv (own_by x 40) B o2 0 (by decide) b2.2.1 b2.2.2 h2
  have b3 := own_byv x 32 32 (by decide) (by decide)
  have n3 := own_nbv (own_by x 32) B o3 0 (by decide) b3.2.1 b3.2.2 h3
  have b4 := own_byv x 24 24 (by decide) (by decide)
  have n4 := own_nbv (own_by x 24) B o4 0 (by decide) b4.2.1 b4.2.2 h4
  have b5 := own_byv x 16 16 (by decide) (by decide)
  have n5 := own_nbv (own_by x 16) B o5 0 (by decide) b5.2.1 b5.2.2 h5
  have b6 := own_byv x 8 8 (by decide) (by decide)
  have n6 := own_nbv (own_by x 8) B o6 0 (by decide) b6.2.1 b6.2.2 h6
  have b7 := own_b0v x
  have n7 := own_nbv (own_b0 x) B o7 0 (by decide) b7.2.1 b7.2.2 h7
  have P := own_p8v (own_nb (own_by x 56) B o0) (own_nb (own_by x 48) B o1) (own_nb (own_by x 40) B o2) (own_nb (own_by x 32) B o3) (own_nb (own_by x 24) B o4) (own_nb (own_by x 16) B o5) (own_nb (own_by x 8) B o6) (own_nb (own_b0 x) B o7)
  have R1 := rng64 (own_p8 (own_nb (own_by x 56) B o0) (own_nb (own_by x 48) B o1) (own_nb (own_by x 40) B o2) (own_nb (own_by x 32) B o3) (own_nb (own_by x 24) B o4) (own_nb (own_by x 16) B o5) (own_nb (own_by x 8) B o6) (own_nb (own_b0 x) B o7))
  rw [n0, n1, n2, n3, n4, n5, n6, n7] at P
  rw [b0.1, b1.1, b2.1, b3.1, b4.1, b5.1, b6.1, b7.1] at P
  have K := own_k8_10 x.toInt (x.toInt % 18446744073709551616) _ rfl P
  clear P n0 n1 n2 n3 n4 n5 n6 n7 b0 b1 b2 b3 b4 b5 b6 b7 h0 h1 h2 h3 h4 h5 h6 h7
  apply Int64.toInt_inj.mp
  generalize own_p8 (own_nb (own_by x 56) B o0) (own_nb (own_by x 48) B o1) (own_nb (own_by x 40) B o2) (own_nb (own_by x 32) B o3) (own_nb (own_by x 24) B o4) (own_nb (own_by x 16) B o5) (own_nb (own_by x 8) B o6) (own_nb (own_b0 x) B o7) = p at *
  have H : ((x &&& n).toInt - (x.toInt - x.toInt % 18014398509481984)) % 18446744073709551616 = 0 := own_hmL x (18014398509481983 : Int64) n 54 (by decide) (by decide) hn
  have R2 := rng64 (x &&& n)
  generalize (x &&& n).toInt = r at *
  generalize x.toInt % 18014398509481984 = z at *
  omega
theorem own_g8_11 (x n : Int64) (B o0 o1 o2 o3 o4 o5 o6 o7 : Int32) (h0 : own_max (0 : Int32) (own_min (8 : Int32) (B - o0)) = Int32.ofInt ((8 : Nat) : Int)) (h1 : own_max (0 : Int32) (own_min (8 : Int32) (B - o1)) = Int32.ofInt ((3 : Nat) : Int)) (h2 : own_max (0 : Int32) (own_min (8 : Int32) (B - o2)) = Int32.ofInt ((0 : Nat) : Int)) (h3 : own_max (0 : Int32) (own_min (8 : Int32) (B - o3)) = Int32.ofInt ((0 : Nat) : Int)) (h4 : own_max (0 : Int32) (own_min (8 : Int32) (B - o4)) = Int32.ofInt ((0 : Nat) : Int)) (h5 : own_max (0 : Int32) (own_min (8 : Int32) (B - o5)) = Int32.ofInt ((0 : Nat) : Int)) (h6 : own_max (0 : Int32) (own_min (8 : Int32) (B - o6)) = Int32.ofInt ((0 : Nat) : Int)) (h7 : own_max (0 : Int32) (own_min (8 : Int32) (B - o7)) = Int32.ofInt ((0 : Nat) : Int)) (hn : n = ~~~(9007199254740991 : Int64)) : own_p8 (own_nb (own_by x 56) B o0) (own_nb (own_by x 48) B o1) (own_nb (own_by x 40) B o2) (own_nb (own_by x 32) B o3) (own_nb (own_by x 24) B o4) (own_nb (own_by x 16) B o5) (own_nb (own_by x 8) B o6) (own_nb (own_b0 x) B o7) = x &&& n := by
  have b0 := own_byv x 56 56 (by decide) (by decide)
  have n0 := own_nbv (own_by x 56) B o0 8 (by decide) b0.2.1 b0.2.2 h0
  have b1 := own_byv x 48 48 (by decide) (by decide)
  have n1 := own_nbv (own_by x 48) B o1 3 (by decide) b1.2.1 b1.2.2 h1
  have b2 := own_byv x 40 40 (by decide) (by decide)
  have n2 := own_nbv (own_by x 40) B o2 0 (by decide) b2.2.1 b2.2.2 h2
  have b3 := own_byv x 32 32 (by decide) (by decide)
  have n3 := own_nbv (own_by x 32) B o3 0 (by decide) b3.2.1 b3.2.2 h3
  have b4 := own_byv x 24 24 (by decide) (by decide)
  have n4 := own_nbv (own_by x 24) B o4 0 (by decide) b4.2.1 b4.2.2 h4
  have b5 := own_byv x 16 16 (by decide) (by decide)
  have n5 := own_nbv (own_by x 16) B o5 0 (by decide) b5.2.1 b5.2.2 h5
  have b6 := own_byv x 8 8 (by decide) (by decide)
  have n6 := own_nbv (own_by x 8) B o6 0 (by decide) b6.2.1 b6.2.2 h6
  have b7 := own_b0v x
  have n7 := own_nbv (own_b0 x) B o7 0 (by decide) b7.2.1 b7.2.2 h7
  have P := own_p8v (own_nb (own_by x 56) B o0) (own_nb (own_by x 48) B o1) (own_nb (own_by x 40) B o2) (own_nb (own_by x 32) B o3) (own_nb (own_by x 24) B o4) (own_nb (own_by x 16) B o5) (own_nb (own_by x 8) B o6) (own_nb (own_b0 x) B o7)
  have R1 := rng64 (own_p8 (own_nb (own_by x 56) B o0) (own_nb (own_by x 48) B o1) (own_nb (own_by x 40) B o2) (own_nb (own_by x 32) B o3) (own_nb (own_by x 24) B o4) (own_nb (own_by x 16) B o5) (own_nb (own_by x 8) B o6) (own_nb (own_b0 x) B o7))
  rw [n0, n1, n2, n3, n4, n5, n6, n7] at P
  rw [b0.1, b1.1, b2.1, b3.1, b4.1, b5.1, b6.1, b7.1] at P
  have K := own_k8_11 x.toInt (x.toInt % 18446744073709551616) _ rfl P
  clear P n0 n1 n2 n3 n4 n5 n6 n7 b0 b1 b2 b3 b4 b5 b6 b7 h0 h1 h2 h3 h4 h5 h6 h7
  apply Int64.toInt_inj.mp
  generalize own_p8 (own_nb (own_by x 56) B o0) (own_nb (own_by x 48) B o1) (own_nb (own_by x 40) B o2) (own_nb (own_by x 32) B o3) (own_nb (own_by x 24) B o4) (own_nb (own_by x 16) B o5) (own_nb (own_by x 8) B o6) (own_nb (own_b0 x) B o7) = p at *
  have H : ((x &&& n).toInt - (x.toInt - x.toInt % 9007199254740992)) % 18446744073709551616 = 0 := own_hmL x (9007199254740991 : Int64) n 53 (by decide) (by decide) hn
  have R2 := rng64 (x &&& n)
  generalize (x &&& n).toInt = r at *
  generalize x.toInt % 9007199254740992 = z at *
  omega
theorem own_g8_12 (x n : Int64) (B o0 o1 o2 o3 o4 o5 o6 o7 : Int32) (h0 : own_max (0 : Int32) (own_min (8 : Int32) (B - o0)) = Int32.ofInt ((8 : Nat) : Int)) (h1 : own_max (0 : Int32) (own_min (8 : Int32) (B - o1)) = Int32.ofInt ((4 : Nat) : Int)) (h2 : own_max (0 : Int32) (own_min (8 : Int32) (B - o2)) = Int32.ofInt ((0 : Nat) : Int)) (h3 : own_max (0 : Int32) (own_min (8 : Int32) (B - o3)) = Int32.ofInt ((0 : Nat) : Int)) (h4 : own_max (0 : Int32) (own_min (8 : Int32) (B - o4)) = Int32.ofInt ((0 : Nat) : Int)) (h5 : own_max (0 : Int32) (own_min (8 : Int32) (B - o5)) = Int32.ofInt ((0 : Nat) : Int)) (h6 : own_max (0 : Int32) (own_min (8 : Int32) (B - o6)) = Int32.ofInt ((0 : Nat) : Int)) (h7 : own_max (0 : Int32) (own_min (8 : Int32) (B - o7)) = Int32.ofInt ((0 : Nat) : Int)) (hn : n = ~~~(4503599627370495 : Int64)) : own_p8 (own_nb (own_by x 56) B o0) (own_nb (own_by x 48) B o1) (own_nb (own_by x 40) B o2) (own_nb (own_by x 32) B o3) (own_nb (own_by x 24) B o4) (own_nb (own_by x 16) B o5) (own_nb (own_by x 8) B o6) (own_nb (own_b0 x) B o7) = x &&& n := by
  have b0 := own_byv x 56 56 (by decide) (by decide)
  have n0 := own_nbv (own_by x 56) B o0 8 (by decide) b0.2.1 b0.2.2 h0
  have b1 := own_byv x 48 48 (by decide) (by decide)
  have n1 := own_nbv (own_by x 48) B o1 4 (by decide) b1.2.1 b1.2.2 h1
  have b2 := own_byv x 40 40 (by decide) (by decide)
  have n2 := own_nbv (own_by x 40) B o2 0 (by decide) b2.2.1 b2.2.2 h2
  have b3 := own_byv x 32 32 (by decide) (by decide)
  have n3 := own_nbv (own_by x 32) B o3 0 (by decide) b3.2.1 b3.2.2 h3
  have b4 := own_byv x 24 24 (by decide) (by decide)
  have n4 := own_nbv (own_by x 24) B o4 0 (by decide) b4.2.1 b4.2.2 h4
  have b5 := own_byv x 16 16 (by decide) (by decide)
  have n5 := own_nbv (own_by x 16) B o5 0 (by decide) b5.2.1 b5.2.2 h5
  have b6 := own_byv x 8 8 (by decide) (by decide)
  have n6 := own_nbv (own_by x 8) B o6 0 (by decide) b6.2.1 b6.2.2 h6
  have b7 := own_b0v x
  have n7 := own_nbv (own_b0 x) B o7 0 (by decide) b7.2.1 b7.2.2 h7
  have P := own_p8v (own_nb (own_by x 56) B o0) (own_nb (own_by x 48) B o1) (own_nb (own_by x 40) B o2) (own_nb (own_by x 32) B o3) (own_nb (own_by x 24) B o4) (own_nb (own_by x 16) B o5) (own_nb (own_by x 8) B o6) (own_nb (own_b0 x) B o7)
  have R1 := rng64 (own_p8 (own_nb (own_by x 56) B o0) (own_nb (own_by x 48) B o1) (own_nb (own_by x 40) B o2) (own_nb (own_by x 32) B o3) (own_nb (own_by x 24) B o4) (own_nb (own_by x 16) B o5) (own_nb (own_by x 8) B o6) (own_nb (own_b0 x) B o7))
  rw [n0, n1, n2, n3, n4, n5, n6, n7] at P
  rw [b0.1, b1.1, b2.1, b3.1, b4.1, b5.1, b6.1, b7.1] at P
  have K := own_k8_12 x.toInt (x.toInt % 18446744073709551616) _ rfl P
  clear P n0 n1 n2 n3 n4 n5 n6 n7 b0 b1 b2 b3 b4 b5 b6 b7 h0 h1 h2 h3 h4 h5 h6 h7
  apply Int64.toInt_inj.mp
  generalize own_p8 (own_nb (own_by x 56) B o0) (own_nb (own_by x 48) B o1) (own_nb (own_by x 40) B o2) (own_nb (own_by x 32) B o3) (own_nb (own_by x 24) B o4) (own_nb (own_by x 16) B o5) (own_nb (own_by x 8) B o6) (own_nb (own_b0 x) B o7) = p at *
  have H : ((x &&& n).toInt - (x.toInt - x.toInt % 4503599627370496)) % 18446744073709551616 = 0 := own_hmL x (4503599627370495 : Int64) n 52 (by decide) (by decide) hn
  have R2 := rng64 (x &&& n)
  generalize (x &&& n).toInt = r at *
  generalize x.toInt % 4503599627370496 = z at *
  omega
theorem own_g8_13 (x n : Int64) (B o0 o1 o2 o3 o4 o5 o6 o7 : Int32) (h0 : own_max (0 : Int32) (own_min (8 : Int32) (B - o0)) = Int32.ofInt ((8 : Nat) : Int)) (h1 : own_max (0 : Int32) (own_min (8 : Int32) (B - o1)) = Int32.ofInt ((5 : Nat) : Int)) (h2 : own_max (0 : Int32) (own_min (8 : Int32) (B - o2)) = Int32.ofInt ((0 : Nat) : Int)) (h3 : own_max (0 : Int32) (own_min (8 : Int32) (B - o3)) = Int32.ofInt ((0 : Nat) : Int)) (h4 : own_max (0 : Int32) (own_min (8 : Int32) (B - o4)) = Int32.ofInt ((0 : Nat) : Int)) (h5 : own_max (0 : Int32) (own_min (8 : Int32) (B - o5)) = Int32.ofInt ((0 : Nat) : Int)) (h6 : own_max (0 : Int32) (own_min (8 : Int32) (B - o6)) = Int32.ofInt ((0 : Nat) : Int)) (h7 : own_max (0 : Int32) (own_min (8 : Int32) (B - o7)) = Int32.ofInt ((0 : Nat) : Int)) (hn : n = ~~~(2251799813685247 : Int64)) : own_p8 (own_nb (own_by x 56) B o0) (own_nb (own_by x 48) B o1) (own_nb (own_by x 40) B o2) (own_nb (own_by x 32) B o3) (own_nb (own_by x 24) B o4) (own_nb (own_by x 16) B o5) (own_nb (own_by x 8) B o6) (own_nb (own_b0 x) B o7) = x &&& n := by
  have b0 := own_byv x 56 56 (by decide) (by decide)
  have n0 := own_nbv (own_by x 56) B o0 8 (by decide) b0.2.1 b0.2.2 h0
  have b1 := own_byv x 48 48 (by decide) (by decide)
  have n1 := own_nbv (own_by x 48) B o1 5 (by decide) b1.2.1 b1.2.2 h1
  have b2 := own_byv x 40 40 (by decide) (by decide)
  have n2 := own_nbv (own_by x 40) B o2 0 (by decide) b2.2.1 b2.2.2 h2
  have b3 := own_byv x 32 32 (by decide) (by decide)
  have n3 := own_nbv (own_by x 32) B o3 0 (by decide) b3.2.1 b3.2.2 h3
  have b4 := own_byv x 24 24 (by decide) (by decide)
  have n4 := own_nbv (own_by x 24) B o4 0 (by decide) b4.2.1 b4.2.2 h4
  have b5 := own_byv x 16 16 (by decide) (by decide)
  have n5 := own_nbv (own_by x 16) B o5 0 (by decide) b5.2.1 b5.2.2 h5
  have b6 := own_byv x 8 8 (by decide) (by decide)
  have n6 := own_nbv (own_by x 8) B o6 0 (by decide) b6.2.1 b6.2.2 h6
  have b7 := own_b0v x
  have n7 := own_nbv (own_b0 x) B o7 0 (by decide) b7.2.1 b7.2.2 h7
  have P := own_p8v (own_nb (own_by x 56) B o0) (own_nb (own_by x 48) B o1) (own_nb (own_by x 40) B o2) (own_nb (own_by x 32) B o3) (own_nb (own_by x 24) B o4) (own_nb (own_by x 16) B o5) (own_nb (own_by x 8) B o6) (own_nb (own_b0 x) B o7)
  have R1 := rng64 (own_p8 (own_nb (own_by x 56) B o0) (own_nb (own_by x 48) B o1) (own_nb (own_by x 40) B o2) (own_nb (own_by x 32) B o3) (own_nb (own_by x 24) B o4) (own_nb (own_by x 16) B o5) (own_nb (own_by x 8) B o6) (own_nb (own_b0 x) B o7))
  rw [n0, n1, n2, n3, n4, n5, n6, n7] at P
  rw [b0.1, b1.1, b2.1, b3.1, b4.1, b5.1, b6.1, b7.1] at P
  have K := own_k8_13 x.toInt (x.toInt % 18446744073709551616) _ rfl P
  clear P n0 n1 n2 n3 n4 n5 n6 n7 b0 b1 b2 b3 b4 b5 b6 b7 h0 h1 h2 h3 h4 h5 h6 h7
  apply Int64.toInt_inj.mp
  generalize own_p8 (own_nb (own_by x 56) B o0) (own_nb (own_by x 48) B o1) (own_nb (own_by x 40) B o2) (own_nb (own_by x 32) B o3) (own_nb (own_by x 24) B o4) (own_nb (own_by x 16) B o5) (own_nb (own_by x 8) B o6) (own_nb (own_b0 x) B o7) = p at *
  have H : ((x &&& n).toInt - (x.toInt - x.toInt % 2251799813685248)) % 18446744073709551616 = 0 := own_hmL x (2251799813685247 : Int64) n 51 (by decide) (by decide) hn
  have R2 := rng64 (x &&& n)
  generalize (x &&& n).toInt = r at *
  generalize x.toInt % 2251799813685248 = z at *
  omega
theorem own_g8_14 (x n : Int64) (B o0 o1 o2 o3 o4 o5 o6 o7 : Int32) (h0 : own_max (0 : Int32) (own_min (8 : Int32) (B - o0)) = Int32.ofInt ((8 : Nat) : Int)) (h1 : own_max (0 : Int32) (own_min (8 : Int32) (B - o1)) = Int32.ofInt ((6 : Nat) : Int)) (h2 : own_max (0 : Int32) (own_min (8 : Int32) (B - o2)) = Int32.ofInt ((0 : Nat) : Int)) (h3 : own_max (0 : Int32) (own_min (8 : Int32) (B - o3)) = Int32.ofInt ((0 : Nat) : Int)) (h4 : own_max (0 : Int32) (own_min (8 : Int32) (B - o4)) = Int32.ofInt ((0 : Nat) : Int)) (h5 : own_max (0 : Int32) (own_min (8 : Int32) (B - o5)) = Int32.ofInt ((0 : Nat) : Int)) (h6 : own_max (0 : Int32) (own_min (8 : Int32) (B - o6)) = Int32.ofInt ((0 : Nat) : Int)) (h7 : own_max (0 : Int32) (own_min (8 : Int32) (B - o7)) = Int32.ofInt ((0 : Nat) : Int)) (hn : n = ~~~(1125899906842623 : Int64)) : own_p8 (own_nb (own_by x 56) B o0) (own_nb (own_by x 48) B o1) (own_nb (own_by x 40) B o2) (own_nb (own_by x 32) B o3) (own_nb (own_by x 24) B o4) (own_nb (own_by x 16) B o5) (own_nb (own_by x 8) B o6) (own_nb (own_b0 x) B o7) = x &&& n := by
  have b0 := own_byv x 56 56 (by decide) (by decide)
  have n0 := own_nbv (own_by x 56) B o0 8 (by decide) b0.2.1 b0.2.2 h0
  have b1 := own_byv x 48 48 (by decide) (by decide)
  have n1 := own_nbv (own_by x 48) B o1 6 (by decide) b1.2.1 b1.2.2 h1
  have b2 := own_byv x 40 40 (by decide) (by decide)
  have n2 := own_nbv (own_by x 40) B o2 0 (by decide) b2.2.1 b2.2.2 h2
  have b3 := own_byv x 32 32 (by decide) (by decide)
  have n3 := own_nbv (own_by x 32) B o3 0 (by decide) b3.2.1 b3.2.2 h3
  have b4 := own_byv x 24 24 (by decide) (by decide)
  have n4 := own_nbv (own_by x 24) B o4 0 (by decide) b4.2.1 b4.2.2 h4
  have b5 := own_byv x 16 16 (by decide) (by decide)
  have n5 := own_nbv (own_by x 16) B o5 0 (by decide) b5.2.1 b5.2.2 h5
  have b6 := own_byv x 8 8 (by decide) (by decide)
  have n6 := own_nbv (own_by x 8) B o6 0 (by decide) b6.2.1 b6.2.2 h6
  have b7 := own_b0v x
  have n7 := own_nbv (own_b0 x) B o7 0 (by decide) b7.2.1 b7.2.2 h7
  have P := own_p8v (own_nb (own_by x 56) B o0) (own_nb (own_by x 48) B o1) (own_nb (own_by x 40) B o2) (own_nb (own_by x 32) B o3) (own_nb (own_by x 24) B o4) (own_nb (own_by x 16) B o5) (own_nb (own_by x 8) B o6) (own_nb (own_b0 x) B o7)
  have R1 := rng64 (own_p8 (own_nb (own_by x 56) B o0) (own_nb (own_by x 48) B o1) (own_nb (own_by x 40) B o2) (own_nb (own_by x 32) B o3) (own_nb (own_by x 24) B o4) (own_nb (own_by x 16) B o5) (own_nb (own_by x 8) B o6) (own_nb (own_b0 x) B o7))
  rw [n0, n1, n2, n3, n4, n5, n6, n7] at P
  rw [b0.1, b1.1, b2.1, b3.1, b4.1, b5.1, b6.1, b7.1] at P
  have K := own_k8_14 x.toInt (x.toInt % 18446744073709551616) _ rfl P
  clear P n0 n1 n2 n3 n4 n5 n6 n7 b0 b1 b2 b3 b4 b5 b6 b7 h0 h1 h2 h3 h4 h5 h6 h7
  apply Int64.toInt_inj.mp
  generalize own_p8 (own_nb (own_by x 56) B o0) (own_nb (own_by x 48) B o1) (own_nb (own_by x 40) B o2) (own_nb (own_by x 32) B o3) (own_nb (own_by x 24) B o4) (own_nb (own_by x 16) B o5) (own_nb (own_by x 8) B o6) (own_nb (own_b0 x) B o7) = p at *
  have H : ((x &&& n).toInt - (x.toInt - x.toInt % 1125899906842624)) % 18446744073709551616 = 0 := own_hmL x (1125899906842623 : Int64) n 50 (by decide) (by decide) hn
  have R2 := rng64 (x &&& n)
  generalize (x &&& n).toInt = r at *
  generalize x.toInt % 1125899906842624 = z at *
  omega
theorem own_g8_15 (x n : Int64) (B o0 o1 o2 o3 o4 o5 o6 o7 : Int32) (h0 : own_max (0 : Int32) (own_min (8 : Int32) (B - o0)) = Int32.ofInt ((8 : Nat) : Int)) (h1 : own_max (0 : Int32) (own_min (8 : Int32) (B - o1)) = Int32.ofInt ((7 : Nat) : Int)) (h2 : own_max (0 : Int32) (own_min (8 : Int32) (B - o2)) = Int32.ofInt ((0 : Nat) : Int)) (h3 : own_max (0 : Int32) (own_min (8 : Int32) (B - o3)) = Int32.ofInt ((0 : Nat) : Int)) (h4 : own_max (0 : Int32) (own_min (8 : Int32) (B - o4)) = Int32.ofInt ((0 : Nat) : Int)) (h5 : own_max (0 : Int32) (own_min (8 : Int32) (B - o5)) = Int32.ofInt ((0 : Nat) : Int)) (h6 : own_max (0 : Int32) (own_min (8 : Int32) (B - o6)) = Int32.ofInt ((0 : Nat) : Int)) (h7 : own_max (0 : Int32) (own_min (8 : Int32) (B - o7)) = Int32.ofInt ((0 : Nat) : Int)) (hn : n = ~~~(562949953421311 : Int64)) : own_p8 (own_nb (own_by x 56) B o0) (own_nb (own_by x 48) B o1) (own_nb (own_by x 40) B o2) (own_nb (own_by x 32) B o3) (own_nb (own_by x 24) B o4) (own_nb (own_by x 16) B o5) (own_nb (own_by x 8) B o6) (own_nb (own_b0 x) B o7) = x &&& n := by
  have b0 := own_byv x 56 56 (by decide) (by decide)
  have n0 := own_nbv (own_by x 56) B o0 8 (by decide) b0.2.1 b0.2.2 h0
  have b1 := own_byv x 48 48 (by decide) (by decide)
  have n1 := own_nbv (own_by x 48) B o1 7 (by decide) b1.2.1 b1.2.2 h1
  have b2 := own_byv x 40 40 (by decide) (by decide)
  have n2 := own_nbv (own_by x 40) B o2 0 (by decide) b2.2.1 b2.2.2 h2
  have b3 := own_byv x 32 32 (by decide) (by decide)
  have n3 := own_nbv (own_by x 32) B o3 0 (by decide) b3.2.1 b3.2.2 h3
  have b4 := own_byv x 24 24 (by decide) (by decide)
  have n4 := own_nbv (own_by x 24) B o4 0 (by decide) b4.2.1 b4.2.2 h4
  have b5 := own_byv x 16 16 (by decide) (by decide)
  have n5 := own_nbv (own_by x 16) B o5 0 (by decide) b5.2.1 b5.2.2 h5
  have b6 := own_byv x 8 8 (by decide) (by decide)
  have n6 := own_nbv (own_by x 8) B o6 0 (by decide) b6.2.1 b6.2.2 h6
  have b7 := own_b0v x
  have n7 := own_nbv (own_b0 x) B o7 0 (by decide) b7.2.1 b7.2.2 h7
  have P := own_p8v (own_nb (own_by x 56) B o0) (own_nb (own_by x 48) B o1) (own_nb (own_by x 40) B o2) (own_nb (own_by x 32) B o3) (own_nb (own_by x 24) B o4) (own_nb (own_by x 16) B o5) (own_nb (own_by x 8) B o6) (own_nb (own_b0 x) B o7)
  have R1 := rng64 (own_p8 (own_nb (own_by x 56) B o0) (own_nb (own_by x 48) B o1) (own_nb (own_by x 40) B o2) (own_nb (own_by x 32) B o3) (own_nb (own_by x 24) B o4) (own_nb (own_by x 16) B o5) (own_nb (own_by x 8) B o6) (own_nb (own_b0 x) B o7))
  rw [n0, n1, n2, n3, n4, n5, n6, n7] at P
  rw [b0.1, b1.1, b2.1, b3.1, b4.1, b5.1, b6.1, b7.1] at P
  have K := own_k8_15 x.toInt (x.toInt % 18446744073709551616) _ rfl P
  clear P n0 n1 n2 n3 n4 n5 n6 n7 b0 b1 b2 b3 b4 b5 b6 b7 h0 h1 h2 h3 h4 h5 h6 h7
  apply Int64.toInt_inj.mp
  generalize own_p8 (own_nb (own_by x 56) B o0) (own_nb (own_by x 48) B o1) (own_nb (own_by x 40) B o2) (own_nb (own_by x 32) B o3) (own_nb (own_by x 24) B o4) (own_nb (own_by x 16) B o5) (own_nb (own_by x 8) B o6) (own_nb (own_b0 x) B o7) = p at *
  have H : ((x &&& n).toInt - (x.toInt - x.toInt % 562949953421312)) % 18446744073709551616 = 0 := own_hmL x (562949953421311 : Int64) n 49 (by decide) (by decide) hn
  have R2 := rng64 (x &&& n)
  generalize (x &&& n).toInt = r at *
  generalize x.toInt % 562949953421312 = z at *
  omega
theorem own_g8_16 (x n : Int64) (B o0 o1 o2 o3 o4 o5 o6 o7 : Int32) (h0 : own_max (0 : Int32) (own_min (8 : Int32) (B - o0)) = Int32.ofInt ((8 : Nat) : Int)) (h1 : own_max (0 : Int32) (own_min (8 : Int32) (B - o1)) = Int32.ofInt ((8 : Nat) : Int)) (h2 : own_max (0 : Int32) (own_min (8 : Int32) (B - o2)) = Int32.ofInt ((0 : Nat) : Int)) (h3 : own_max (0 : Int32) (own_min (8 : Int32) (B - o3)) = Int32.ofInt ((0 : Nat) : Int)) (h4 : own_max (0 : Int32) (own_min (8 : Int32) (B - o4)) = Int32.ofInt ((0 : Nat) : Int)) (h5 : own_max (0 : Int32) (own_min (8 : Int32) (B - o5)) = Int32.ofInt ((0 : Nat) : Int)) (h6 : own_max (0 : Int32) (own_min (8 : Int32) (B - o6)) = Int32.ofInt ((0 : Nat) : Int)) (h7 : own_max (0 : Int32) (own_min (8 : Int32) (B - o7)) = Int32.ofInt ((0 : Nat) : Int)) (hn : n = ~~~(281474976710655 : Int64)) : own_p8 (own_nb (own_by x 56) B o0) (own_nb (own_by x 48) B o1) (own_nb (own_by x 40) B o2) (own_nb (own_by x 32) B o3) (own_nb (own_by x 24) B o4) (own_nb (own_by x 16) B o5) (own_nb (own_by x 8) B o6) (own_nb (own_b0 x) B o7) = x &&& n := by
  have b0 := own_byv x 56 56 (by decide) (by decide)
  have n0 := own_nbv (own_by x 56) B o0 8 (by decide) b0.2.1 b0.2.2 h0
  have b1 := own_byv x 48 48 (by decide) (by decide)
  have n1 := own_nbv (own_by x 48) B o1 8 (by decide) b1.2.1 b1.2.2 h1
  have b2 := own_byv x 40 40 (by decide) (by decide)
  have n2 := own_nbv (own_by x 40) B o2 0 (by decide) b2.2.1 b2.2.2 h2
  have b3 := own_byv x 32 32 (by decide) (by decide)
  have n3 := own_nbv (own_by x 32) B o3 0 (by decide) b3.2.1 b3.2.2 h3
  have b4 := own_byv x 24 24 (by decide) (by decide)
  have n4 := own_nbv (own_by x 24) B o4 0 (by decide) b4.2.1 b4.2.2 h4
  have b5 := own_byv x 16 16 (by decide) (by decide)
  have n5 := own_nbv (own_by x 16) B o5 0 (by decide) b5.2.1 b5.2.2 h5
  have b6 := own_byv x 8 8 (by decide) (by decide)
  have n6 := own_nbv (own_by x 8) B o6 0 (by decide) b6.2.1 b6.2.2 h6
  have b7 := own_b0v x
  have n7 := own_nbv (own_b0 x) B o7 0 (by decide) b7.2.1 b7.2.2 h7
  have P := own_p8v (own_nb (own_by x 56) B o0) (own_nb (own_by x 48) B o1) (own_nb (own_by x 40) B o2) (own_nb (own_by x 32) B o3) (own_nb (own_by x 24) B o4) (own_nb (own_by x 16) B o5) (own_nb (own_by x 8) B o6) (own_nb (own_b0 x) B o7)
  have R1 := rng64 (own_p8 (own_nb (own_by x 56) B o0) (own_nb (own_by x 48) B o1) (own_nb (own_by x 40) B o2) (own_nb (own_by x 32) B o3) (own_nb (own_by x 24) B o4) (own_nb (own_by x 16) B o5) (own_nb (own_by x 8) B o6) (own_nb (own_b0 x) B o7))
  rw [n0, n1, n2, n3, n4, n5, n6, n7] at P
  rw [b0.1, b1.1, b2.1, b3.1, b4.1, b5.1, b6.1, b7.1] at P
  have K := own_k8_16 x.toInt (x.toInt % 18446744073709551616) _ rfl P
  clear P n0 n1 n2 n3 n4 n5 n6 n7 b0 b1 b2 b3 b4 b5 b6 b7 h0 h1 h2 h3 h4 h5 h6 h7
  apply Int64.toInt_inj.mp
  generalize own_p8 (own_nb (own_by x 56) B o0) (own_nb (own_by x 48) B o1) (own_nb (own_by x 40) B o2) (own_nb (own_by x 32) B o3) (own_nb (own_by x 24) B o4) (own_nb (own_by x 16) B o5) (own_nb (own_by x 8) B o6) (own_nb (own_b0 x) B o7) = p at *
  have H : ((x &&& n).toInt - (x.toInt - x.toInt % 281474976710656)) % 18446744073709551616 = 0 := own_hmL x (281474976710655 : Int64) n 48 (by decide) (by decide) hn
  have R2 := rng64 (x &&& n)
  generalize (x &&& n).toInt = r at *
  generalize x.toInt % 281474976710656 = z at *
  omega
theorem own_g8_17 (x n : Int64) (B o0 o1 o2 o3 o4 o5 o6 o7 : Int32) (h0 : own_max (0 : Int32) (own_min (8 : Int32) (B - o0)) = Int32.ofInt ((8 : Nat) : Int)) (h1 : own_max (0 : Int32) (own_min (8 : Int32) (B - o1)) = Int32.ofInt ((8 : Nat) : Int)) (h2 : own_max (0 : Int32) (own_min (8 : Int32) (B - o2)) = Int32.ofInt ((1 : Nat) : Int)) (h3 : own_max (0 : Int32) (own_min (8 : Int32) (B - o3)) = Int32.ofInt ((0 : Nat) : Int)) (h4 : own_max (0 : Int32) (own_min (8 : Int32) (B - o4)) = Int32.ofInt ((0 : Nat) : Int)) (h5 : own_max (0 : Int32) (own_min (8 : Int32) (B - o5)) = Int32.ofInt ((0 : Nat) : Int)) (h6 : own_max (0 : Int32) (own_min (8 : Int32) (B - o6)) = Int32.ofInt ((0 : Nat) : Int)) (h7 : own_max (0 : Int32) (own_min (8 : Int32) (B - o7)) = Int32.ofInt ((0 : Nat) : Int)) (hn : n = ~~~(140737488355327 : Int64)) : own_p8 (own_nb (own_by x 56) B o0) (own_nb (own_by x 48) B o1) (own_nb (own_by x 40) B o2) (own_nb (own_by x 32) B o3) (own_nb (own_by x 24) B o4) (own_nb (own_by x 16) B o5) (own_nb (own_by x 8) B o6) (own_nb (own_b0 x) B o7) = x &&& n := by
  have b0 := own_byv x 56 56 (by decide) (by decide)
  have n0 := own_nbv (own_by x 56) B o0 8 (by decide) b0.2.1 b0.2.2 h0
  have b1 := own_byv x 48 48 (by decide) (by decide)
  have n1 := own_nbv (own_by x 48) B o1 8 (by decide) b1.2.1 b1.2.2 h1
  have b2 := own_byv x 40 40 (by decide) (by decide)
  have n2 := own_nbv (own_by x 40) B o2 1 (by decide) b2.2.1 b2.2.2 h2
  have b3 := own_byv x 32 32 (by decide) (by decide)
  have n3 := own_nbv (own_by x 32) B o3 0 (by decide) b3.2.1 b3.2.2 h3
  have b4 := own_byv x 24 24 (by decide) (by decide)
  have n4 := own_nbv (own_by x 24) B o4 0 (by decide) b4.2.1 b4.2.2 h4
  have b5 := own_byv x 16 16 (by decide) (by decide)
  have n5 := own_nbv (own_by x 16) B o5 0 (by decide) b5.2.1 b5.2.2 h5
  have b6 := own_byv x 8 8 (by decide) (by decide)
  have n6 := own_nbv (own_by x 8) B o6 0 (by decide) b6.2.1 b6.2.2 h6
  have b7 := own_b0v x
  have n7 := own_nbv (own_b0 x) B o7 0 (by decide) b7.2.1 b7.2.2 h7
  have P := own_p8v (own_nb (own_by x 56) B o0) (own_nb (own_by x 48) B o1) (own_nb (own_by x 40) B o2) (own_nb (own_by x 32) B o3) (own_nb (own_by x 24) B o4) (own_nb (own_by x 16) B o5) (own_nb (own_by x 8) B o6) (own_nb (own_b0 x) B o7)
  have R1 := rng64 (own_p8 (own_nb (own_by x 56) B o0) (own_nb (own_by x 48) B o1) (own_nb (own_by x 40) B o2) (own_nb (own_by x 32) B o3) (own_nb (own_by x 24) B o4) (own_nb (own_by x 16) B o5) (own_nb (own_by x 8) B o6) (own_nb (own_b0 x) B o7))
  rw [n0, n1, n2, n3, n4, n5, n6, n7] at P
  rw [b0.1, b1.1, b2.1, b3.1, b4.1, b5.1, b6.1, b7.1] at P
  have K := own_k8_17 x.toInt (x.toInt % 18446744073709551616) _ rfl P
  clear P n0 n1 n2 n3 n4 n5 n6 n7 b0 b1 b2 b3 b4 b5 b6 b7 h0 h1 h2 h3 h4 h5 h6 h7
  apply Int64.toInt_inj.mp
  generalize own_p8 (own_nb (own_by x 56) B o0) (own_nb (own_by x 48) B o1) (own_nb (own_by x 40) B o2) (own_nb (own_by x 32) B o3) (own_nb (own_by x 24) B o4) (own_nb (own_by x 16) B o5) (own_nb (own_by x 8) B o6) (own_nb (own_b0 x) B o7) = p at *
  have H : ((x &&& n).toInt - (x.toInt - x.toInt % 140737488355328)) % 18446744073709551616 = 0 := own_hmL x (140737488355327 : Int64) n 47 (by decide) (by decide) hn
  have R2 := rng64 (x &&& n)
  generalize (x &&& n).toInt = r at *
  generalize x.toInt % 140737488355328 = z at *
  omega
theorem own_g8_18 (x n : Int64) (B o0 o1 o2 o3 o4 o5 o6 o7 : Int32) (h0 : own_max (0 : Int32) (own_min (8 : Int32) (B - o0)) = Int32.ofInt ((8 : Nat) : Int)) (h1 : own_max (0 : Int32) (own_min (8 : Int32) (B - o1)) = Int32.ofInt ((8 : Nat) : Int)) (h2 : own_max (0 : Int32) (own_min (8 : Int32) (B - o2)) = Int32.ofInt ((2 : Nat) : Int)) (h3 : own_max (0 : Int32) (own_min (8 : Int32) (B - o3)) = Int32.ofInt ((0 : Nat) : Int)) (h4 : own_max (0 : Int32) (own_min (8 : Int32) (B - o4)) = Int32.ofInt ((0 : Nat) : Int)) (h5 : own_max (0 : Int32) (own_min (8 : Int32) (B - o5)) = Int32.ofInt ((0 : Nat) : Int)) (h6 : own_max (0 : Int32) (own_min (8 : Int32) (B - o6)) = Int32.ofInt ((0 : Nat) : Int)) (h7 : own_max (0 : Int32) (own_min (8 : Int32) (B - o7)) = Int32.ofInt ((0 : Nat) : Int)) (hn : n = ~~~(70368744177663 : Int64)) : own_p8 (own_nb (own_by x 56) B o0) (own_nb (own_by x 48) B o1) (own_nb (own_by x 40) B o2) (own_nb (own_by x 32) B o3) (own_nb (own_by x 24) B o4) (own_nb (own_by x 16) B o5) (own_nb (own_by x 8) B o6) (own_nb (own_b0 x) B o7) = x &&& n := by
  have b0 := own_byv x 56 56 (by decide) (by decide)
  have n0 := own_nbv (own_by x 56) B o0 8 (by decide) b0.2.1 b0.2.2 h0
  have b1 := own_byv x 48 48 (by decide) (by decide)
  have n1 := own_nbv (own_by x 48) B o1 8 (by decide) b1.2.1 b1.2.2 h1
  have b2 := own_byv x 40 40 (by decide) (by decide)
  have n2 := own_nbv (own_by x 40) B o2 2 (by decide) b2.2.1 b2.2.2 h2
  have b3 := own_byv x 32 32 (by decide) (by decide)
  have n3 := own_nbv (own_by x 32) B o3 0 (by decide) b3.2.1 b3.2.2 h3
  have b4 := own_byv x 24 24 (by decide) (by decide)
  have n4 := own_nbv (own_by x 24) B o4 0 (by decide) b4.2.1 b4.2.2 h4
  have b5 := own_byv x 16 16 (by decide) (by decide)
  have n5 := own_nbv (own_by x 16) B o5 0 (by decide) b5.2.1 b5.2.2 h5
  have b6 := own_byv x 8 8 (by decide) (by decide)
  have n6 := own_nbv (own_by x 8) B o6 0 (by decide) b6.2.1 b6.2.2 h6
  have b7 := own_b0v x
  have n7 := own_nbv (own_b0 x) B o7 0 (by decide) b7.2.1 b7.2.2 h7
  have P := own_p8v (own_nb (own_by x 56) B o0) (own_nb (own_by x 48) B o1) (own_nb (own_by x 40) B o2) (own_nb (own_by x 32) B o3) (own_nb (own_by x 24) B o4) (own_nb (own_by x 16) B o5) (own_nb (own_by x 8) B o6) (own_nb (own_b0 x) B o7)
  have R1 := rng64 (own_p8 (own_nb (own_by x 56) B o0) (own_nb (own_by x 48) B o1) (own_nb (own_by x 40) B o2) (own_nb (own_by x 32) B o3) (own_nb (own_by x 24) B o4) (own_nb (own_by x 16) B o5) (own_nb (own_by x 8) B o6) (own_nb (own_b0 x) B o7))
  rw [n0, n1, n2, n3, n4, n5, n6, n7] at P
  rw [b0.1, b1.1, b2.1, b3.1, b4.1, b5.1, b6.1, b7.1] at P
  have K := own_k8_18 x.toInt (x.toInt % 18446744073709551616) _ rfl P
  clear P n0 n1 n2 n3 n4 n5 n6 n7 b0 b1 b2 b3 b4 b5 b6 b7 h0 h1 h2 h3 h4 h5 h6 h7
  apply Int64.toInt_inj.mp
  generalize own_p8 (own_nb (own_by x 56) B o0) (own_nb (own_by x 48) B o1) (own_nb (own_by x 40) B o2) (own_nb (own_by x 32) B o3) (own_nb (own_by x 24) B o4) (own_nb (own_by x 16) B o5) (own_nb (own_by x 8) B o6) (own_nb (own_b0 x) B o7) = p at *
  have H : ((x &&& n).toInt - (x.toInt - x.toInt % 70368744177664)) % 18446744073709551616 = 0 := own_hmL x (70368744177663 : Int64) n 46 (by decide) (by decide) hn
  have R2 := rng64 (x &&& n)
  generalize (x &&& n).toInt = r at *
  generalize x.toInt % 70368744177664 = z at *
  omega
theorem own_g8_19 (x n : Int64) (B o0 o1 o2 o3 o4 o5 o6 o7 : Int32) (h0 : own_max (0 : Int32) (own_min (8 : Int32) (B - o0)) = Int32.ofInt ((8 : Nat) : Int)) (h1 : own_max (0 : Int32) (own_min (8 : Int32) (B - o1)) = Int32.ofInt ((8 : Nat) : Int)) (h2 : own_max (0 : Int32) (own_min (8 : Int32) (B - o2)) = Int32.ofInt ((3 : Nat) : Int)) (h3 : own_max (0 : Int32) (own_min (8 : Int32) (B - o3)) = Int32.ofInt ((0 : Nat) : Int)) (h4 : own_max (0 : Int32) (own_min (8 : Int32) (B - o4)) = Int32.ofInt ((0 : Nat) : Int)) (h5 : own_max (0 : Int32) (own_min (8 : Int32) (B - o5)) = Int32.ofInt ((0 : Nat) : Int)) (h6 : own_max (0 : Int32) (own_min (8 : Int32) (B - o6)) = Int32.ofInt ((0 : Nat) : Int)) (h7 : own_max (0 : Int32) (own_min (8 : Int32) (B - o7)) = Int32.ofInt ((0 : Nat) : Int)) (hn : n = ~~~(35184372088831 : Int64)) : own_p8 (own_nb (own_by x 56) B o0) (own_nb (own_by x 48) B o1) (own_nb (own_by x 40) B o2) (own_nb (own_by x 32) B o3) (own_nb (own_by x 24) B o4) (own_nb (own_by x 16) B o5) (own_nb (own_by x 8) B o6) (own_nb (own_b0 x) B o7) = x &&& n := by
  have b0 := own_byv x 56 56 (by decide) (by decide)
  have n0 := own_nbv (own_by x 56) B o0 8 (by decide) b0.2.1 b0.2.2 h0
  have b1 := own_byv x 48 48 (by decide) (by decide)
  have n1 := own_nbv (own_by x 48) B o1 8 (by decide) b1.2.1 b1.2.2 h1
  have b2 := own_byv x 40 40 (by decide) (by decide)
  have n2 := own_nbv (own_by x 40) B o2 3 (by decide) b2.2.1 b2.2.2 h2
  have b3 := own_byv x 32 32 (by decide) (by decide)
  have n3 := own_nbv (own_by x 32) B o3 0 (by decide) b3.2.1 b3.2.2 h3
  have b4 := own_byv x 24 24 (by decide) (by decide)
  have n4 := own_nbv (own_by x 24) B o4 0 (by decide) b4.2.1 b4.2.2 h4
  have b5 := own_byv x 16 16 (by decide) (by decide)
  have n5 := own_nbv (own_by x 16) B o5 0 (by decide) b5.2.1 b5.2.2 h5
  have b6 := own_byv x 8 8 (by decide) (by decide)
  have n6 := own_nbv (own_by x 8) B o6 0 (by decide) b6.2.1 b6.2.2 h6
  have b7 := own_b0v x
  have n7 := own_nbv (own_b0 x) B o7 0 (by decide) b7.2.1 b7.2.2 h7
  have P := own_p8v (own_nb (own_by x 56) B o0) (own_nb (own_by x 48) B o1) (own_nb (own_by x 40) B o2) (own_nb (own_by x 32) B o3) (own_nb (own_by x 24) B o4) (own_nb (own_by x 16) B o5) (own_nb (own_by x 8) B o6) (own_nb (own_b0 x) B o7)
  have R1 := rng64 (own_p8 (own_nb (own_by x 56) B o0) (own_nb (own_by x 48) B o1) (own_nb (own_by x 40) B o2) (own_nb (own_by x 32) B o3) (own_nb (own_by x 24) B o4) (own_nb (own_by x 16) B o5) (own_nb (own_by x 8) B o6) (own_nb (own_b0 x) B o7))
  rw [n0, n1, n2, n3, n4, n5, n6, n7] at P
  rw [b0.1, b1.1, b2.1, b3.1, b4.1, b5.1, b6.1, b7.1] at P
  have K := own_k8_19 x.toInt (x.toInt % 18446744073709551616) _ rfl P
  clear P n0 n1 n2 n3 n4 n5 n6 n7 b0 b1 b2 b3 b4 b5 b6 b7 h0 h1 h2 h3 h4 h5 h6 h7
  apply Int64.toInt_inj.mp
  generalize own_p8 (own_nb (own_by x 56) B o0) (own_nb (own_by x 48) B o1) (own_nb (own_by x 40) B o2) (own_nb (own_by x 32) B o3) (own_nb (own_by x 24) B o4) (own_nb (own_by x 16) B o5) (own_nb (own_by x 8) B o6) (own_nb (own_b0 x) B o7) = p at *
  have H : ((x &&& n).toInt - (x.toInt - x.toInt % 35184372088832)) % 18446744073709551616 = 0 := own_hmL x (35184372088831 : Int64) n 45 (by decide) (by decide) hn
  have R2 := rng64 (x &&& n)
  generalize (x &&& n).toInt = r at *
  generalize x.toInt % 35184372088832 = z at *
  omega
theorem own_g8_20 (x n : Int64) (B o0 o1 o2 o3 o4 o5 o6 o7 : Int32) (h0 : own_max (0 : Int32) (own_min (8 : Int32) (B - o0)) = Int32.ofInt ((8 : Nat) : Int)) (h1 : own_max (0 : Int32) (own_min (8 : Int32) (B - o1)) = Int32.ofInt ((8 : Nat) : Int)) (h2 : own_max (0 : Int32) (own_min (8 : Int32) (B - o2)) = Int32.ofInt ((4 : Nat) : Int)) (h3 : own_max (0 : Int32) (own_min (8 : Int32) (B - o3)) = Int32.ofInt ((0 : Nat) : Int)) (h4 : own_max (0 : Int32) (own_min (8 : Int32) (B - o4)) = Int32.ofInt ((0 : Nat) : Int)) (h5 : own_max (0 : Int32) (own_min (8 : Int32) (B - o5)) = Int32.ofInt ((0 : Nat) : Int)) (h6 : own_max (0 : Int32) (own_min (8 : Int32) (B - o6)) = Int32.ofInt ((0 : Nat) : Int)) (h7 : own_max (0 : Int32) (own_min (8 : Int32) (B - o7)) = Int32.ofInt ((0 : Nat) : Int)) (hn : n = ~~~(17592186044415 : Int64)) : own_p8 (own_nb (own_by x 56) B o0) (own_nb (own_by x 48) B o1) (own_nb (own_by x 40) B o2) (own_nb (own_by x 32) B o3) (own_nb (own_by x 24) B o4) (own_nb (own_by x 16) B o5) (own_nb (own_by x 8) B o6) (own_nb (own_b0 x) B o7) = x &&& n := by
  have b0 := own_byv x 56 56 (by decide) (by decide)
  have n0 := own_nbv (own_by x 56) B o0 8 (by decide) b0.2.1 b0.2.2 h0
  have b1 := own_byv x 48 48 (by decide) (by decide)
  have n1 := own_nbv (own_by x 48) B o1 8 (by decide) b1.2.1 b1.2.2 h1
  have b2 := own_byv x 40 40 (by decide) (by decide)
  have n2 := own_nbv (own_by x 40) B o2 4 (by decide) b2.2.1 b2.2.2 h2
  have b3 := own_byv x 32 32 (by decide) (by decide)
  have n3 := own_nbv (own_by x 32) B o3 0 (by decide) b3.2.1 b3.2.2 h3
  have b4 := own_byv x 24 24 (by decide) (by decide)
  have n4 := own_nbv (own_by x 24) B o4 0 (by decide) b4.2.1 b4.2.2 h4
  have b5 := own_byv x 16 16 (by decide) (by decide)
  have n5 := own_nbv (own_by x 16) B o5 0 (by decide) b5.2.1 b5.2.2 h5
  have b6 := own_byv x 8 8 (by decide) (by decide)
  have n6 := own_nbv (own_by x 8) B o6 0 (by decide) b6.2.1 b6.2.2 h6
  have b7 := own_b0v x
  have n7 := own_nbv (own_b0 x) B o7 0 (by decide) b7.2.1 b7.2.2 h7
  have P := own_p8v (own_nb (own_by x 56) B o0) (own_nb (own_by x 48) B o1) (own_nb (own_by x 40) B o2) (own_nb (own_by x 32) B o3) (own_nb (own_by x 24) B o4) (own_nb (own_by x 16) B o5) (own_nb (own_by x 8) B o6) (own_nb (own_b0 x) B o7)
  have R1 := rng64 (own_p8 (own_nb (own_by x 56) B o0) (own_nb (own_by x 48) B o1) (own_nb (own_by x 40) B o2) (own_nb (own_by x 32) B o3) (own_nb (own_by x 24) B o4) (own_nb (own_by x 16) B o5) (own_nb (own_by x 8) B o6) (own_nb (own_b0 x) B o7))
  rw [n0, n1, n2, n3, n4, n5, n6, n7] at P
  rw [b0.1, b1.1, b2.1, b3.1, b4.1, b5.1, b6.1, b7.1] at P
  have K := own_k8_20 x.toInt (x.toInt % 18446744073709551616) _ rfl P
  clear P n0 n1 n2 n3 n4 n5 n6 n7 b0 b1 b2 b3 b4 b5 b6 b7 h0 h1 h2 h3 h4 h5 h6 h7
  apply Int64.toInt_inj.mp
  generalize own_p8 (own_nb (own_by x 56) B o0) (own_nb (own_by x 48) B o1) (own_nb (own_by x 40) B o2) (own_nb (own_by x 32) B o3) (own_nb (own_by x 24) B o4) (own_nb (own_by x 16) B o5) (own_nb (own_by x 8) B o6) (own_nb (own_b0 x) B o7) = p at *
  have H : ((x &&& n).toInt - (x.toInt - x.toInt % 17592186044416)) % 18446744073709551616 = 0 := own_hmL x (17592186044415 : Int64) n 44 (by decide) (by decide) hn
  have R2 := rng64 (x &&& n)
  generalize (x &&& n).toInt = r at *
  generalize x.toInt % 17592186044416 = z at *
  omega
theorem own_g8_21 (x n : Int64) (B o0 o1 o2 o3 o4 o5 o6 o7 : Int32) (h0 : own_max (0 : Int32) (own_min (8 : Int32) (B - o0)) = Int32.ofInt ((8 : Nat) : Int)) (h1 : own_max (0 : Int32) (own_min (8 : Int32) (B - o1)) = Int32.ofInt ((8 : Nat) : Int)) (h2 : own_max (0 : Int32) (own_min (8 : Int32) (B - o2)) = Int32.ofInt ((5 : Nat) : Int)) (h3 : own_max (0 : Int32) (own_min (8 : Int32) (B - o3)) = Int32.ofInt ((0 : Nat) : Int)) (h4 : own_max (0 : Int32) (own_min (8 : Int32) (B - o4)) = Int32.ofInt ((0 : Nat) : Int)) (h5 : own_max (0 : Int32) (own_min (8 : Int32) (B - o5)) = Int32.ofInt ((0 : Nat) : Int)) (h6 : own_max (0 : Int32) (own_min (8 : Int32) (B - o6)) = Int32.ofInt ((0 : Nat) : Int)) (h7 : own_max (0 : Int32) (own_min (8 : Int32) (B - o7)) = Int32.ofInt ((0 : Nat) : Int)) (hn : n = ~~~(8796093022207 : Int64)) : own_p8 (own_nb (own_by x 56) B o0) (own_nb (own_by x 48) B o1) (own_nb (own_by x 40) B o2) (own_nb (own_by x 32) B o3) (own_nb (own_by x 24) B o4) (own_nb (own_by x 16) B o5) (own_nb (own_by x 8) B o6) (own_nb (own_b0 x) B o7) = x &&& n := by
  have b0 := own_byv x 56 56 (by decide) (by decide)
  have n0 := own_nbv (own_by x 56) B o0 8 (by decide) b0.2.1 b0.2.2 h0
  have b1 := own_byv x 48 48 (by decide) (by decide)
  have n1 := own_nbv (own_by x 48) B o1 8 (by decide) b1.2.1 b1.2.2 h1
  have b2 := own_byv x 40 40 (by decide) (by decide)
  have n2 := own_nbv (own_by x 40) B o2 5 (by decide) b2.2.1 b2.2.2 h2
  have b3 := own_byv x 32 32 (by decide) (by decide)
  have n3 := own_nbv (own_by x 32) B o3 0 (by decide) b3.2.1 b3.2.2 h3
  have b4 := own_byv x 24 24 (by decide) (by decide)
  have n4 := own_nbv (own_by x 24) B o4 0 (by decide) b4.2.1 b4.2.2 h4
  have b5 := own_byv x 16 16 (by decide) (by decide)
  have n5 := own_nbv (own_by x 16) B o5 0 (by decide) b5.2.1 b5.2.2 h5
  have b6 := own_byv x 8 8 (by decide) (by decide)
  have n6 := own_nbv (own_by x 8) B o6 0 (by decide) b6.2.1 b6.2.2 h6
  have b7 := own_b0v x
  have n7 := own_nbv (own_b0 x) B o7 0 (by decide) b7.2.1 b7.2.2 h7
  have P := own_p8v (own_nb (own_by x 56) B o0) (own_nb (own_by x 48) B o1) (own_nb (own_by x 40) B o2) (own_nb (own_by x 32) B o3) (own_nb (own_by x 24) B o4) (own_nb (own_by x 16) B o5) (own_nb (own_by x 8) B o6) (own_nb (own_b0 x) B o7)
  have R1 := rng64 (own_p8 (own_nb (own_by x 56) B o0) (own_nb (own_by x 48) B o1) (own_nb (own_by x 40) B o2) (own_nb (own_by x 32) B o3) (own_nb (own_by x 24) B o4) (own_nb (own_by x 16) B o5) (own_nb (own_by x 8) B o6) (own_nb (own_b0 x) B o7))
  rw [n0, n1, n2, n3, n4, n5, n6, n7] at P
  rw [b0.1, b1.1, b2.1, b3.1, b4.1, b5.1, b6.1, b7.1] at P
  have K := own_k8_21 x.toInt (x.toInt % 18446744073709551616) _ rfl P
  clear P n0 n1 n2 n3 n4 n5 n6 n7 b0 b1 b2 b3 b4 b5 b6 b7 h0 h1 h2 h3 h4 h5 h6 h7
  apply Int64.toInt_inj.mp
  generalize own_p8 (own_nb (own_by x 56) B o0) (own_nb (own_by x 48) B o1) (own_nb (own_by x 40) B o2) (own_nb (own_by x 32) B o3) (own_nb (own_by x 24) B o4) (own_nb (own_by x 16) B o5) (own_nb (own_by x 8) B o6) (own_nb (own_b0 x) B o7) = p at *
  have H : ((x &&& n).toInt - (x.toInt - x.toInt % 8796093022208)) % 18446744073709551616 = 0 := own_hmL x (8796093022207 : Int64) n 43 (by decide) (by decide) hn
  have R2 := rng64 (x &&& n)
  generalize (x &&& n).toInt = r at *
  generalize x.toInt % 8796093022208 = z at *
  omega
theorem own_g8_22 (x n : Int64) (B o0 o1 o2 o3 o4 o5 o6 o7 : Int32) (h0 : own_max (0 : Int32) (own_min (8 : Int32) (B - o0)) = Int32.ofInt ((8 : Nat) : Int)) (h1 : own_max (0 : Int32) (own_min (8 : Int32) (B - o1)) = Int32.ofInt ((8 : Nat) : Int)) (h2 : own_max (0 : Int32) (own_min (8 : Int32) (B - o2)) = Int32.ofInt ((6 : Nat) : Int)) (h3 : own_max (0 : Int32) (own_min (8 : Int32) (B - o3)) = Int32.ofInt ((0 : Nat) : Int)) (h4 : own_max (0 : Int32) (own_min (8 : Int32) (B - o4)) = Int32.ofInt ((0 : Nat) : Int)) (h5 : own_max (0 : Int32) (own_min (8 : Int32) (B - o5)) = Int32.ofInt ((0 : Nat) : Int)) (h6 : own_max (0 : Int32) (own_min (8 : Int32) (B - o6)) = Int32.ofInt ((0 : Nat) : Int)) (h7 : own_max (0 : Int32) (own_min (8 : Int32) (B - o7)) = Int32.ofInt ((0 : Nat) : Int)) (hn : n = ~~~(4398046511103 : Int64)) : own_p8 (own_nb (own_by x 56) B o0) (own_nb (own_by x 48) B o1) (own_nb (own_by x 40) B o2) (own_nb (own_by x 32) B o3) (own_nb (own_by x 24) B o4) (own_nb (own_by x 16) B o5) (own_nb (own_by x 8) B o6) (own_nb (own_b0 x) B o7) = x &&& n := by
  have b0 := own_byv x 56 56 (by decide) (by decide)
  have n0 := own_nbv (own_by x 56) B o0 8 (by decide) b0.2.1 b0.2.2 h0
  have b1 := own_byv x 48 48 (by decide) (by decide)
  have n1 := own_nbv (own_by x 48) B o1 8 (by decide) b1.2.1 b1.2.2 h1
  have b2 := own_byv x 40 40 (by decide) (by decide)
  have n2 := own_nbv (own_by x 40) B o2 6 (by decide) b2.2.1 b2.2.2 h2
  have b3 := own_byv x 32 32 (by decide) (by decide)
  have n3 := own_nbv (own_by x 32) B o3 0 (by decide) b3.2.1 b3.2.2 h3
  have b4 := own_byv x 24 24 (by decide) (by decide)
  have n4 := own_nbv (own_by x 24) B o4 0 (by decide) b4.2.1 b4.2.2 h4
  have b5 := own_byv x 16 16 (by decide) (by decide)
  have n5 := own_nbv (own_by x 16) B o5 0 (by decide) b5.2.1 b5.2.2 h5
  have b6 := own_byv x 8 8 (by decide) (by decide)
  have n6 := own_nbv (own_by x 8) B o6 0 (by decide) b6.2.1 b6.2.2 h6
  have b7 := own_b0v x
  have n7 := own_nbv (own_b0 x) B o7 0 (by decide) b7.2.1 b7.2.2 h7
  have P := own_p8v (own_nb (own_by x 56) B o0) (own_nb (own_by x 48) B o1) (own_nb (own_by x 40) B o2) (own_nb (own_by x 32) B o3) (own_nb (own_by x 24) B o4) (own_nb (own_by x 16) B o5) (own_nb (own_by x 8) B o6) (own_nb (own_b0 x) B o7)
  have R1 := rng64 (own_p8 (own_nb (own_by x 56) B o0) (own_nb (own_by x 48) B o1) (own_nb (own_by x 40) B o2) (own_nb (own_by x 32) B o3) (own_nb (own_by x 24) B o4) (own_nb (own_by x 16) B o5) (own_nb (own_by x 8) B o6) (own_nb (own_b0 x) B o7))
  rw [n0, n1, n2, n3, n4, n5, n6, n7] at P
  rw [b0.1, b1.1, b2.1, b3.1, b4.1, b5.1, b6.1, b7.1] at P
  have K := own_k8_22 x.toInt (x.toInt % 18446744073709551616) _ rfl P
  clear P n0 n1 n2 n3 n4 n5 n6 n7 b0 b1 b2 b3 b4 b5 b6 b7 h0 h1 h2 h3 h4 h5 h6 h7
  apply Int64.toInt_inj.mp
  generalize own_p8 (own_nb (own_by x 56) B o0) (own_nb (own_by x 48) B o1) (own_nb (own_by x 40) B o2) (own_nb (own_by x 32) B o3) (own_nb (own_by x 24) B o4) (own_nb (own_by x 16) B o5) (own_nb (own_by x 8) B o6) (own_nb (own_b0 x) B o7) = p at *
  have H : ((x &&& n).toInt - (x.toInt - x.toInt % 4398046511104)) % 18446744073709551616 = 0 := own_hmL x (4398046511103 : Int64) n 42 (by decide) (by decide) hn
  have R2 := rng64 (x &&& n)
  generalize (x &&& n).toInt = r at *
  generalize x.toInt % 4398046511104 = z at *
  omega
theorem own_g8_23 (x n : Int64) (B o0 o1 o2 o3 o4 o5 o6 o7 : Int32) (h0 : own_max (0 : Int32) (own_min (8 : Int32) (B - o0)) = Int32.ofInt ((8 : Nat) : Int)) (h1 : own_max (0 : Int32) (own_min (8 : Int32) (B - o1)) = Int32.ofInt ((8 : Nat) : Int)) (h2 : own_max (0 : Int32) (own_min (8 : Int32) (B - o2)) = Int32.ofInt ((7 : Nat) : Int)) (h3 : own_max (0 : Int32) (own_min (8 : Int32) (B - o3)) = Int32.ofInt ((0 : Nat) : Int)) (h4 : own_max (0 : Int32) (own_min (8 : Int32) (B - o4)) = Int32.ofInt ((0 : Nat) : Int)) (h5 : own_max (0 : Int32) (own_min (8 : Int32) (B - o5)) = Int32.ofInt ((0 : Nat) : Int)) (h6 : own_max (0 : Int32) (own_min (8 : Int32) (B - o6)) = Int32.ofInt ((0 : Nat) : Int)) (h7 : own_max (0 : Int32) (own_min (8 : Int32) (B - o7)) = Int32.ofInt ((0 : Nat) : Int)) (hn : n = ~~~(2199023255551 : Int64)) : own_p8 (own_nb (own_by x 56) B o0) (own_nb (own_by x 48) B o1) (own_nb (own_by x 40) B o2) (own_nb (own_by x 32) B o3) (own_nb (own_by x 24) B o4) (own_nb (own_by x 16) B o5) (own_nb (own_by x 8) B o6) (own_nb (own_b0 x) B o7) = x &&& n := by
  have b0 := own_byv x 56 56 (by decide) (by decide)
  have n0 := own_nbv (own_by x 56) B o0 8 (by decide) b0.2.1 b0.2.2 h0
  have b1 := own_byv x 48 48 (by decide) (by decide)
  have n1 := own_nbv (own_by x 48) B o1 8 (by decide) b1.2.1 b1.2.2 h1
  have b2 := own_byv x 40 40 (by decide) (by decide)
  have n2 := own_nbv (own_by x 40) B o2 7 (by decide) b2.2.1 b2.2.2 h2
  have b3 := own_byv x 32 32 (by decide) (by decide)
  have n3 := own_nbv (own_by x 32) B o3 0 (by decide) b3.2.1 b3.2.2 h3
  have b4 := own_byv x 24 24 (by decide) (by decide)
  have n4 := own_nbv (own_by x 24) B o4 0 (by decide) b4.2.1 b4.2.2 h4
  have b5 := own_byv x 16 16 (by decide) (by decide)
  have n5 := own_nbv (own_by x 16) B o5 0 (by decide) b5.2.1 b5.2.2 h5
  have b6 := own_byv x 8 8 (by decide) (by decide)
  have n6 := own_nbv (own_by x 8) B o6 0 (by decide) b6.2.1 b6.2.2 h6
  have b7 := own_b0v x
  have n7 := own_nbv (own_b0 x) B o7 0 (by decide) b7.2.1 b7.2.2 h7
  have P := own_p8v (own_nb (own_by x 56) B o0) (own_nb (own_by x 48) B o1) (own_nb (own_by x 40) B o2) (own_nb (own_by x 32) B o3) (own_nb (own_by x 24) B o4) (own_nb (own_by x 16) B o5) (own_nb (own_by x 8) B o6) (own_nb (own_b0 x) B o7)
  have R1 := rng64 (own_p8 (own_nb (own_by x 56) B o0) (own_nb (own_by x 48) B o1) (own_nb (own_by x 40) B o2) (own_nb (own_by x 32) B o3) (own_nb (own_by x 24) B o4) (own_nb (own_by x 16) B o5) (own_nb (own_by x 8) B o6) (own_nb (own_b0 x) B o7))
  rw [n0, n1, n2, n3, n4, n5, n6, n7] at P
  rw [b0.1, b1.1, b2.1, b3.1, b4.1, b5.1, b6.1, b7.1] at P
  have K := own_k8_23 x.toInt (x.toInt % 18446744073709551616) _ rfl P
  clear P n0 n1 n2 n3 n4 n5 n6 n7 b0 b1 b2 b3 b4 b5 b6 b7 h0 h1 h2 h3 h4 h5 h6 h7
  apply Int64.toInt_inj.mp
  generalize own_p8 (own_nb (own_by x 56) B o0) (own_nb (own_by x 48) B o1) (own_nb (own_by x 40) B o2) (own_nb (own_by x 32) B o3) (own_nb (own_by x 24) B o4) (own_nb (own_by x 16) B o5) (own_nb (own_by x 8) B o6) (own_nb (own_b0 x) B o7) = p at *
  have H : ((x &&& n).toInt - (x.toInt - x.toInt % 2199023255552)) % 18446744073709551616 = 0 := own_hmL x (2199023255551 : Int64) n 41 (by decide) (by decide) hn
  have R2 := rng64 (x &&& n)
  generalize (x &&& n).toInt = r at *
  generalize x.toInt % 2199023255552 = z at *
  omega
theorem own_g8_24 (x n : Int64) (B o0 o1 o2 o3 o4 o5 o6 o7 : Int32) (h0 : own_max (0 : Int32) (own_min (8 : Int32) (B - o0)) = Int32.ofInt ((8 : Nat) : Int)) (h1 : own_max (0 : Int32) (own_min (8 : Int32) (B - o1)) = Int32.ofInt ((8 : Nat) : Int)) (h2 : own_max (0 : Int32) (own_min (8 : Int32) (B - o2)) = Int32.ofInt ((8 : Nat) : Int)) (h3 : own_max (0 : Int32) (own_min (8 : Int32) (B - o3)) = Int32.ofInt ((0 : Nat) : Int)) (h4 : own_max (0 : Int32) (own_min (8 : Int32) (B - o4)) = Int32.ofInt ((0 : Nat) : Int)) (h5 : own_max (0 : Int32) (own_min (8 : Int32) (B - o5)) = Int32.ofInt ((0 : Nat) : Int)) (h6 : own_max (0 : Int32) (own_min (8 : Int32) (B - o6)) = Int32.ofInt ((0 : Nat) : Int)) (h7 : own_max (0 : Int32) (own_min (8 : Int32) (B - o7)) = Int32.ofInt ((0 : Nat) : Int)) (hn : n = ~~~(1099511627775 : Int64)) : own_p8 (own_nb (own_by x 56) B o0) (own_nb (own_by x 48) B o1) (own_nb (own_by x 40) B o2) (own_nb (own_by x 32) B o3) (own_nb (own_by x 24) B o4) (own_nb (own_by x 16) B o5) (own_nb (own_by x 8) B o6) (own_nb (own_b0 x) B o7) = x &&& n := by
  have b0 := own_byv x 56 56 (by decide) (by decide)
  have n0 := own_nbv (own_by x 56) B o0 8 (by decide) b0.2.1 b0.2.2 h0
  have b1 := own_byv x 48 48 (by decide) (by decide)
  have n1 := own_nbv (own_by x 48) B o1 8 (by decide) b1.2.1 b1.2.2 h1
  have b2 := own_byv x 40 40 (by decide) (by decide)
  have n2 := own_nbv (own_by x 40) B o2 8 (by decide) b2.2.1 b2.2.2 h2
  have b3 := own_byv x 32 32 (by decide) (by decide)
  have n3 := own_nbv (own_by x 32) B o3 0 (by decide) b3.2.1 b3.2.2 h3
  have b4 := own_byv x 24 24 (by decide) (by decide)
  have n4 := own_nbv (own_by x 24) B o4 0 (by decide) b4.2.1 b4.2.2 h4
  have b5 := own_byv x 16 16 (by decide) (by decide)
  have n5 := own_nbv (own_by x 16) B o5 0 (by decide) b5.2.1 b5.2.2 h5
  have b6 := own_byv x 8 8 (by decide) (by decide)
  have n6 := own_nbv (own_by x 8) B o6 0 (by decide) b6.2.1 b6.2.2 h6
  have b7 := own_b0v x
  have n7 := own_nbv (own_b0 x) B o7 0 (by decide) b7.2.1 b7.2.2 h7
  have P := own_p8v (own_nb (own_by x 56) B o0) (own_nb (own_by x 48) B o1) (own_nb (own_by x 40) B o2) (own_nb (own_by x 32) B o3) (own_nb (own_by x 24) B o4) (own_nb (own_by x 16) B o5) (own_nb (own_by x 8) B o6) (own_nb (own_b0 x) B o7)
  have R1 := rng64 (own_p8 (own_nb (own_by x 56) B o0) (own_nb (own_by x 48) B o1) (own_nb (own_by x 40) B o2) (own_nb (own_by x 32) B o3) (own_nb (own_by x 24) B o4) (own_nb (own_by x 16) B o5) (own_nb (own_by x 8) B o6) (own_nb (own_b0 x) B o7))
  rw [n0, n1, n2, n3, n4, n5, n6, n7] at P
  rw [b0.1, b1.1, b2.1, b3.1, b4.1, b5.1, b6.1, b7.1] at P
  have K := own_k8_24 x.toInt (x.toInt % 18446744073709551616) _ rfl P
  clear P n0 n1 n2 n3 n4 n5 n6 n7 b0 b1 b2 b3 b4 b5 b6 b7 h0 h1 h2 h3 h4 h5 h6 h7
  apply Int64.toInt_inj.mp
  generalize own_p8 (own_nb (own_by x 56) B o0) (own_nb (own_by x 48) B o1) (own_nb (own_by x 40) B o2) (own_nb (own_by x 32) B o3) (own_nb (own_by x 24) B o4) (own_nb (own_by x 16) B o5) (own_nb (own_by x 8) B o6) (own_nb (own_b0 x) B o7) = p at *
  have H : ((x &&& n).toInt - (x.toInt - x.toInt % 1099511627776)) % 18446744073709551616 = 0 := own_hmL x (1099511627775 : Int64) n 40 (by decide) (by decide) hn
  have R2 := rng64 (x &&& n)
  generalize (x &&& n).toInt = r at *
  generalize x.toInt % 1099511627776 = z at *
  omega
theorem own_g8_25 (x n : Int64) (B o0 o1 o2 o3 o4 o5 o6 o7 : Int32) (h0 : own_max (0 : Int32) (own_min (8 : Int32) (B - o0)) = Int32.ofInt ((8 : Nat) : Int)) (h1 : own_max (0 : Int32) (own_min (8 : Int32) (B - o1)) = Int32.ofInt ((8 : Nat) : Int)) (h2 : own_max (0 : Int32) (own_min (8 : Int32) (B - o2)) = Int32.ofInt ((8 : Nat) : Int)) (h3 : own_max (0 : Int32) (own_min (8 : Int32) (B - o3)) = Int32.ofInt ((1 : Nat) : Int)) (h4 : own_max (0 : Int32) (own_min (8 : Int32) (B - o4)) = Int32.ofInt ((0 : Nat) : Int)) (h5 : own_max (0 : Int32) (own_min (8 : Int32) (B - o5)) = Int32.ofInt ((0 : Nat) : Int)) (h6 : own_max (0 : Int32) (own_min (8 : Int32) (B - o6)) = Int32.ofInt ((0 : Nat) : Int)) (h7 : own_max (0 : Int32) (own_min (8 : Int32) (B - o7)) = Int32.ofInt ((0 : Nat) : Int)) (hn : n = ~~~(549755813887 : Int64)) : own_p8 (own_nb (own_by x 56) B o0) (own_nb (own_by x 48) B o1) (own_nb (own_by x 40) B o2) (own_nb (own_by x 32) B o3) (own_nb (own_by x 24) B o4) (own_nb (own_by x 16) B o5) (own_nb (own_by x 8) B o6) (own_nb (own_b0 x) B o7) = x &&& n := by
  have b0 := own_byv x 56 56 (by decide) (by decide)
  have n0 := own_nbv (own_by x 56) B o0 8 (by decide) b0.2.1 b0.2.2 h0
  have b1 := own_byv x 48 48 (by decide) (by decide)
  have n1 := own_nbv (own_by x 48) B o1 8 (by decide) b1.2.1 b1.2.2 h1
  have b2 := own_byv x 40 40 (by decide) (by decide)
  have n2 := own_nbv (own_by x 40) B o2 8 (by decide) b2.2.1 b2.2.2 h2
  have b3 := own_byv x 32 32 (by decide) (by decide)
  have n3 := own_nbv (own_by x 32) B o3 1 (by decide) b3.2.1 b3.2.2 h3
  have b4 := own_byv x 24 24 (by decide) (by decide)
  have n4 := own_nbv (own_by x 24) B o4 0 (by decide) b4.2.1 b4.2.2 h4
  have b5 := own_byv x 16 16 (by decide) (by decide)
  have n5 := own_nbv (own_by x 16) B o5 0 (by decide) b5.2.1 b5.2.2 h5
  have b6 := own_byv x 8 8 (by decide) (by decide)
  have n6 := own_nbv (own_by x 8) B o6 0 (by decide) b6.2.1 b6.2.2 h6
  have b7 := own_b0v x
  have n7 := own_nbv (own_b0 x) B o7 0 (by decide) b7.2.1 b7.2.2 h7
  have P := own_p8v (own_nb (own_by x 56) B o0) (own_nb (own_by x 48) B o1) (own_nb (own_by x 40) B o2) (own_nb (own_by x 32) B o3) (own_nb (own_by x 24) B o4) (own_nb (own_by x 16) B o5) (own_nb (own_by x 8) B o6) (own_nb (own_b0 x) B o7)
  have R1 := rng64 (own_p8 (own_nb (own_by x 56) B o0) (own_nb (own_by x 48) B o1) (own_nb (own_by x 40) B o2) (own_nb (own_by x 32) B o3) (own_nb (own_by x 24) B o4) (own_nb (own_by x 16) B o5) (own_nb (own_by x 8) B o6) (own_nb (own_b0 x) B o7))
  rw [n0, n1, n2, n3, n4, n5, n6, n7] at P
  rw [b0.1, b1.1, b2.1, b3.1, b4.1, b5.1, b6.1, b7.1] at P
  have K := own_k8_25 x.toInt (x.toInt % 18446744073709551616) _ rfl P
  clear P n0 n1 n2 n3 n4 n5 n6 n7 b0 b1 b2 b3 b4 b5 b6 b7 h0 h1 h2 h3 h4 h5 h6 h7
  apply Int64.toInt_inj.mp
  generalize own_p8 (own_nb (own_by x 56) B o0) (own_nb (own_by x 48) B o1) (own_nb (own_by x 40) B o2) (own_nb (own_by x 32) B o3) (own_nb (own_by x 24) B o4) (own_nb (own_by x 16) B o5) (own_nb (own_by x 8) B o6) (own_nb (own_b0 x) B o7) = p at *
  have H : ((x &&& n).toInt - (x.toInt - x.toInt % 549755813888)) % 18446744073709551616 = 0 := own_hmL x (549755813887 : Int64) n 39 (by decide) (by decide) hn
  have R2 := rng64 (x &&& n)
  generalize (x &&& n).toInt = r at *
  generalize x.toInt % 549755813888 = z at *
  omega
theorem own_g8_26 (x n : Int64) (B o0 o1 o2 o3 o4 o5 o6 o7 : Int32) (h0 : own_max (0 : Int32) (own_min (8 : Int32) (B - o0)) = Int32.ofInt ((8 : Nat) : Int)) (h1 : own_max (0 : Int32) (own_min (8 : Int32) (B - o1)) = Int32.ofInt ((8 : Nat) : Int)) (h2 : own_max (0 : Int32) (own_min (8 : Int32) (B - o2)) = Int32.ofInt ((8 : Nat) : Int)) (h3 : own_max (0 : Int32) (own_min (8 : Int32) (B - o3)) = Int32.ofInt ((2 : Nat) : Int)) (h4 : own_max (0 : Int32) (own_min (8 : Int32) (B - o4)) = Int32.ofInt ((0 : Nat) : Int)) (h5 : own_max (0 : Int32) (own_min (8 : Int32) (B - o5)) = Int32.ofInt ((0 : Nat) : Int)) (h6 : own_max (0 : Int32) (own_min (8 : Int32) (B - o6)) = Int32.ofInt ((0 : Nat) : Int)) (h7 : own_max (0 : Int32) (own_min (8 : Int32) (B - o7)) = Int32.ofInt ((0 : Nat) : Int)) (hn : n = ~~~(274877906943 : Int64)) : own_p8 (own_nb (own_by x 56) B o0) (own_nb (own_by x 48) B o1) (own_nb (own_by x 40) B o2) (own_nb (own_by x 32) B o3) (own_nb (own_by x 24) B o4) (own_nb (own_by x 16) B o5) (own_nb (own_by x 8) B o6) (own_nb (own_b0 x) B o7) = x &&& n := by
  have b0 := own_byv x 56 56 (by decide) (by decide)
  have n0 := own_nbv (own_by x 56) B o0 8 (by decide) b0.2.1 b0.2.2 h0
  have b1 := own_byv x 48 48 (by decide) (by decide)
  have n1 := own_nbv (own_by x 48) B o1 8 (by decide) b1.2.1 b1.2.2 h1
  have b2 := own_byv x 40 40 (by decide) (by decide)
  have n2 := own_nbv (own_by x 40) B o2 8 (by decide) b2.2.1 b2.2.2 h2
  have b3 := own_byv x 32 32 (by decide) (by decide)
  have n3 := own_nbv (own_by x 32) B o3 2 (by decide) b3.2.1 b3.2.2 h3
  have b4 := own_byv x 24 24 (by decide) (by decide)
  have n4 := own_nbv (own_by x 24) B o4 0 (by decide) b4.2.1 b4.2.2 h4
  have b5 := own_byv x 16 16 (by decide) (by decide)
  have n5 := own_nbv (own_by x 16) B o5 0 (by decide) b5.2.1 b5.2.2 h5
  have b6 := own_byv x 8 8 (by decide) (by decide)
  have n6 := own_nbv (own_by x 8) B o6 0 (by decide) b6.2.1 b6.2.2 h6
  have b7 := own_b0v x
  have n7 := own_nbv (own_b0 x) B o7 0 (by decide) b7.2.1 b7.2.2 h7
  have P := own_p8v (own_nb (own_by x 56) B o0) (own_nb (own_by x 48) B o1) (own_nb (own_by x 40) B o2) (own_nb (own_by x 32) B o3) (own_nb (own_by x 24) B o4) (own_nb (own_by x 16) B o5) (own_nb (own_by x 8) B o6) (own_nb (own_b0 x) B o7)
  have R1 := rng64 (own_p8 (own_nb (own_by x 56) B o0) (own_nb (own_by x 48) B o1) (own_nb (own_by x 40) B o2) (own_nb (own_by x 32) B o3) (own_nb (own_by x 24) B o4) (own_nb (own_by x 16) B o5) (own_nb (own_by x 8) B o6) (own_nb (own_b0 x) B o7))
  rw [n0, n1, n2, n3, n4, n5, n6, n7] at P
  rw [b0.1, b1.1, b2.1, b3.1, b4.1, b5.1, b6.1, b7.1] at P
  have K := own_k8_26 x.toInt (x.toInt % 18446744073709551616) _ rfl P
  clear P n0 n1 n2 n3 n4 n5 n6 n7 b0 b1 b2 b3 b4 b5 b6 b7 h0 h1 h2 h3 h4 h5 h6 h7
  apply Int64.toInt_inj.mp
  generalize own_p8 (own_nb (own_by x 56) B o0) (own_nb (own_by x 48) B o1) (own_nb (own_by x 40) B o2) (own_nb (own_by x 32) B o3) (own_nb (own_by x 24) B o4) (own_nb (own_by x 16) B o5) (own_nb (own_by x 8) B o6) (own_nb (own_b0 x) B o7) = p at *
  have H : ((x &&& n).toInt - (x.toInt - x.toInt % 274877906944)) % 18446744073709551616 = 0 := own_hmL x (274877906943 : Int64) n 38 (by decide) (by decide) hn
  have R2 := rng64 (x &&& n)
  generalize (x &&& n).toInt = r at *
  generalize x.toInt % 274877906944 = z at *
  omega
theorem own_g8_27 (x n : Int64) (B o0 o1 o2 o3 o4 o5 o6 o7 : Int32) (h0 : own_max (0 : Int32) (own_min (8 : Int32) (B - o0)) = Int32.ofInt ((8 : Nat) : Int)) (h1 : own_max (0 : Int32) (own_min (8 : Int32) (B - o1)) = Int32.ofInt ((8 : Nat) : Int)) (h2 : own_max (0 : Int32) (own_min (8 : Int32) (B - o2)) = Int32.ofInt ((8 : Nat) : Int)) (h3 : own_max (0 : Int32) (own_min (8 : Int32) (B - o3)) = Int32.ofInt ((3 : Nat) : Int)) (h4 : own_max (0 : Int32) (own_min (8 : Int32) (B - o4)) = Int32.ofInt ((0 : Nat) : Int)) (h5 : own_max (0 : Int32) (own_min (8 : Int32) (B - o5)) = Int32.ofInt ((0 : Nat) : Int)) (h6 : own_max (0 : Int32) (own_min (8 : Int32) (B - o6)) = Int32.ofInt ((0 : Nat) : Int)) (h7 : own_max (0 : Int32) (own_min (8 : Int32) (B - o7)) = Int32.ofInt ((0 : Nat) : Int)) (hn : n = ~~~(137438953471 : Int64)) : own_p8 (own_nb (own_by x 56) B o0) (own_nb (own_by x 48) B o1) (own_nb (own_by x 40) B o2) (own_nb (own_by x 32) B o3) (own_nb (own_by x 24) B o4) (own_nb (own_by x 16) B o5) (own_nb (own_by x 8) B o6) (own_nb (own_b0 x) B o7) = x &&& n := by
  have b0 := own_byv x 56 56 (by decide) (by decide)
  have n0 := own_nbv (own_by x 56) B o0 8 (by decide) b0.2.1 b0.2.2 h0
  have b1 := own_byv x 48 48 (by decide) (by decide)
  have n1 := own_nbv (own_by x 48) B o1 8 (by decide) b1.2.1 b1.2.2 h1
  have b2 := own_byv x 40 40 (by decide) (by decide)
  have n2 := own_nbv (own_by x 40) B o2 8 (by decide) b2.2.1 b2.2.2 h2
  have b3 := own_byv x 32 32 (by decide) (by decide)
  have n3 := own_nbv (own_by x 32) B o3 3 (by decide) b3.2.1 b3.2.2 h3
  have b4 := own_byv x 24 24 (by decide) (by decide)
  have n4 := own_nbv (own_by x 24) B o4 0 (by decide) b4.2.1 b4.2.2 h4
  have b5 := own_byv x 16 16 (by decide) (by decide)
  have n5 := own_nbv (own_by x 16) B o5 0 (by decide) b5.2.1 b5.2.2 h5
  have b6 := own_byv x 8 8 (by decide) (by decide)
  have n6 := own_nbv (own_by x 8) B o6 0 (by decide) b6.2.1 b6.2.2 h6
  have b7 := own_b0v x
  have n7 := own_nbv (own_b0 x) B o7 0 (by decide) b7.2.1 b7.2.2 h7
  have P := own_p8v (own_nb (own_by x 56) B o0) (own_nb (own_by x 48) B o1) (own_nb (own_by x 40) B o2) (own_nb (own_by x 32) B o3) (own_nb (own_by x 24) B o4) (own_nb (own_by x 16) B o5) (own_nb (own_by x 8) B o6) (own_nb (own_b0 x) B o7)
  have R1 := rng64 (own_p8 (own_nb (own_by x 56) B o0) (own_nb (own_by x 48) B o1) (own_nb (own_by x 40) B o2) (own_nb (own_by x 32) B o3) (own_nb (own_by x 24) B o4) (own_nb (own_by x 16) B o5) (own_nb (own_by x 8) B o6) (own_nb (own_b0 x) B o7))
  rw [n0, n1, n2, n3, n4, n5, n6, n7] at P
  rw [b0.1, b1.1, b2.1, b3.1, b4.1, b5.1, b6.1, b7.1] at P
  have K := own_k8_27 x.toInt (x.toInt % 18446744073709551616) _ rfl P
  clear P n0 n1 n2 n3 n4 n5 n6 n7 b0 b1 b2 b3 b4 b5 b6 b7 h0 h1 h2 h3 h4 h5 h6 h7
  apply Int64.toInt_inj.mp
  generalize own_p8 (own_nb (own_by x 56) B o0) (own_nb (own_by x 48) B o1) (own_nb (own_by x 40) B o2) (own_nb (own_by x 32) B o3) (own_nb (own_by x 24) B o4) (own_nb (own_by x 16) B o5) (own_nb (own_by x 8) B o6) (own_nb (own_b0 x) B o7) = p at *
  have H : ((x &&& n).toInt - (x.toInt - x.toInt % 137438953472)) % 18446744073709551616 = 0 := own_hmL x (137438953471 : Int64) n 37 (by decide) (by decide) hn
  have R2 := rng64 (x &&& n)
  generalize (x &&& n).toInt = r at *
  generalize x.toInt % 137438953472 = z at *
  omega
theorem own_g8_28 (x n : Int64) (B o0 o1 o2 o3 o4 o5 o6 o7 : Int32) (h0 : own_max (0 : Int32) (own_min (8 : Int32) (B - o0)) = Int32.ofInt ((8 : Nat) : Int)) (h1 : own_max (0 : Int32) (own_min (8 : Int32) (B - o1)) = Int32.ofInt ((8 : Nat) : Int)) (h2 : own_max (0 : Int32) (own_min (8 : Int32) (B - o2)) = Int32.ofInt ((8 : Nat) : Int)) (h3 : own_max (0 : Int32) (own_min (8 : Int32) (B - o3)) = Int32.ofInt ((4 : Nat) : Int)) (h4 : own_max (0 : Int32) (own_min (8 : Int32) (B - o4)) = Int32.ofInt ((0 : Nat) : Int)) (h5 : own_max (0 : Int32) (own_min (8 : Int32) (B - o5)) = Int32.ofInt ((0 : Nat) : Int)) (h6 : own_max (0 : Int32) (own_min (8 : Int32) (B - o6)) = Int32.ofInt ((0 : Nat) : Int)) (h7 : own_max (0 : Int32) (own_min (8 : Int32) (B - o7)) = Int32.ofInt ((0 : Nat) : Int)) (hn : n = ~~~(68719476735 : Int64)) : own_p8 (own_nb (own_by x 56) B o0) (own_nb (own_by x 48) B o1) (own_nb (own_by x 40) B o2) (own_nb (own_by x 32) B o3) (own_nb (own_by x 24) B o4) (own_nb (own_by x 16) B o5) (own_nb (own_by x 8) B o6) (own_nb (own_b0 x) B o7) = x &&& n := by
  have b0 := own_byv x 56 56 (by decide) (by decide)
  have n0 := own_nbv (own_by x 56) B o0 8 (by decide) b0.2.1 b0.2.2 h0
  have b1 := own_byv x 48 48 (by decide) (by decide)
  have n1 := own_nbv (own_by x 48) B o1 8 (by decide) b1.2.1 b1.2.2 h1
  have b2 := own_byv x 40 40 (by decide) (by decide)
  have n2 := own_nbv (own_by x 40) B o2 8 (by decide) b2.2.1 b2.2.2 h2
  have b3 := own_byv x 32 32 (by decide) (by decide)
  have n3 := own_nbv (own_by x 32) B o3 4 (by decide) b3.2.1 b3.2.2 h3
  have b4 := own_byv x 24 24 (by decide) (by decide)
  have n4 := own_nbv (own_by x 24) B o4 0 (by decide) b4.2.1 b4.2.2 h4
  have b5 := own_byv x 16 16 (by decide) (by decide)
  have n5 := own_nbv (own_by x 16) B o5 0 (by decide) b5.2.1 b5.2.2 h5
  have b6 := own_byv x 8 8 (by decide) (by decide)
  have n6 := own_nbv (own_by x 8) B o6 0 (by decide) b6.2.1 b6.2.2 h6
  have b7 := own_b0v x
  have n7 := own_nbv (own_b0 x) B o7 0 (by decide) b7.2.1 b7.2.2 h7
  have P := own_p8v (own_nb (own_by x 56) B o0) (own_nb (own_by x 48) B o1) (own_nb (own_by x 40) B o2) (own_nb (own_by x 32) B o3) (own_nb (own_by x 24) B o4) (own_nb (own_by x 16) B o5) (own_nb (own_by x 8) B o6) (own_nb (own_b0 x) B o7)
  have R1 := rng64 (own_p8 (own_nb (own_by x 56) B o0) (own_nb (own_by x 48) B o1) (own_nb (own_by x 40) B o2) (own_nb (own_by x 32) B o3) (own_nb (own_by x 24) B o4) (own_nb (own_by x 16) B o5) (own_nb (own_by x 8) B o6) (own_nb (own_b0 x) B o7))
  rw [n0, n1, n2, n3, n4, n5, n6, n7] at P
  rw [b0.1, b1.1, b2.1, b3.1, b4.1, b5.1, b6.1, b7.1] at P
  have K := own_k8_28 x.toInt (x.toInt % 18446744073709551616) _ rfl P
  clear P n0 n1 n2 n3 n4 n5 n6 n7 b0 b1 b2 b3 b4 b5 b6 b7 h0 h1 h2 h3 h4 h5 h6 h7
  apply Int64.toInt_inj.mp
  generalize own_p8 (own_nb (own_by x 56) B o0) (own_nb (own_by x 48) B o1) (own_nb (own_by x 40) B o2) (own_nb (own_by x 32) B o3) (own_nb (own_by x 24) B o4) (own_nb (own_by x 16) B o5) (own_nb (own_by x 8) B o6) (own_nb (own_b0 x) B o7) = p at *
  have H : ((x &&& n).toInt - (x.toInt - x.toInt % 68719476736)) % 18446744073709551616 = 0 := own_hmL x (68719476735 : Int64) n 36 (by decide) (by decide) hn
  have R2 := rng64 (x &&& n)
  generalize (x &&& n).toInt = r at *
  generalize x.toInt % 68719476736 = z at *
  omega
theorem own_g8_29 (x n : Int64) (B o0 o1 o2 o3 o4 o5 o6 o7 : Int32) (h0 : own_max (0 : Int32) (own_min (8 : Int32) (B - o0)) = Int32.ofInt ((8 : Nat) : Int)) (h1 : own_max (0 : Int32) (own_min (8 : Int32) (B - o1)) = Int32.ofInt ((8 : Nat) : Int)) (h2 : own_max (0 : Int32) (own_min (8 : Int32) (B - o2)) = Int32.ofInt ((8 : Nat) : Int)) (h3 : own_max (0 : Int32) (own_min (8 : Int32) (B - o3)) = Int32.ofInt ((5 : Nat) : Int)) (h4 : own_max (0 : Int32) (own_min (8 : Int32) (B - o4)) = Int32.ofInt ((0 : Nat) : Int)) (h5 : own_max (0 : Int32) (own_min (8 : Int32) (B - o5)) = Int32.ofInt ((0 : Nat) : Int)) (h6 : own_max (0 : Int32) (own_min (8 : Int32) (B - o6)) = Int32.ofInt ((0 : Nat) : Int)) (h7 : own_max (0 : Int32) (own_min (8 : Int32) (B - o7)) = Int32.ofInt ((0 : Nat) : Int)) (hn : n = ~~~(34359738367 : Int64)) : own_p8 (own_nb (own_by x 56) B o0) (own_nb (own_by x 48) B o1) (own_nb (own_by x 40) B o2) (own_nb (own_by x 32) B o3) (own_nb (own_by x 24) B o4) (own_nb (own_by x 16) B o5) (own_nb (own_by x 8) B o6) (own_nb (own_b0 x) B o7) = x &&& n := by
  have b0 := own_byv x 56 56 (by decide) (by decide)
  have n0 := own_nbv (own_by x 56) B o0 8 (by decide) b0.2.1 b0.2.2 h0
  have b1 := own_byv x 48 48 (by decide) (by decide)
  have n1 := own_nbv (own_by x 48) B o1 8 (by decide) b1.2.1 b1.2.2 h1
  have b2 := own_byv x 40 40 (by decide) (by decide)
  have n2 := own_nbv (own_by x 40) B o2 8 (by decide) b2.2.1 b2.2.2 h2
  have b3 := own_byv x 32 32 (by decide) (by decide)
  have n3 := own_nbv (own_by x 32) B o3 5 (by decide) b3.2.1 b3.2.2 h3
  have b4 := own_byv x 24 24 (by decide) (by decide)
  have n4 := own_nbv (own_by x 24) B o4 0 (by decide) b4.2.1 b4.2.2 h4
  have b5 := own_byv x 16 16 (by decide) (by decide)
  have n5 := own_nbv (own_by x 16) B o5 0 (by decide) b5.2.1 b5.2.2 h5
  have b6 := own_byv x 8 8 (by decide) (by decide)
  have n6 := own_nbv (own_by x 8) B o6 0 (by decide) b6.2.1 b6.2.2 h6
  have b7 := own_b0v x
  have n7 := own_nbv (own_b0 x) B o7 0 (by decide) b7.2.1 b7.2.2 h7
  have P := own_p8v (own_nb (own_by x 56) B o0) (own_nb (own_by x 48) B o1) (own_nb (own_by x 40) B o2) (own_nb (own_by x 32) B o3) (own_nb (own_by x 24) B o4) (own_nb (own_by x 16) B o5) (own_nb (own_by x 8) B o6) (own_nb (own_b0 x) B o7)
  have R1 := rng64 (own_p8 (own_nb (own_by x 56) B o0) (own_nb (own_by x 48) B o1) (own_nb (own_by x 40) B o2) (own_nb (own_by x 32) B o3) (own_nb (own_by x 24) B o4) (own_nb (own_by x 16) B o5) (own_nb (own_by x 8) B o6) (own_nb (own_b0 x) B o7))
  rw [n0, n1, n2, n3, n4, n5, n6, n7] at P
  rw [b0.1, b1.1, b2.1, b3.1, b4.1, b5.1, b6.1, b7.1] at P
  have K := own_k8_29 x.toInt (x.toInt % 18446744073709551616) _ rfl P
  clear P n0 n1 n2 n3 n4 n5 n6 n7 b0 b1 b2 b3 b4 b5 b6 b7 h0 h1 h2 h3 h4 h5 h6 h7
  apply Int64.toInt_inj.mp
  generalize own_p8 (own_nb (own_by x 56) B o0) (own_nb (own_by x 48) B o1) (own_nb (own_by x 40) B o2) (own_nb (own_by x 32) B o3) (own_nb (own_by x 24) B o4) (own_nb (own_by x 16) B o5) (own_nb (own_by x 8) B o6) (own_nb (own_b0 x) B o7) = p at *
  have H : ((x &&& n).toInt - (x.toInt - x.toInt % 34359738368)) % 18446744073709551616 = 0 := own_hmL x (34359738367 : Int64) n 35 (by decide) (by decide) hn
  have R2 := rng64 (x &&& n)
  generalize (x &&& n).toInt = r at *
  generalize x.toInt % 34359738368 = z at *
  omega
theorem own_g8_30 (x n : Int64) (B o0 o1 o2 o3 o4 o5 o6 o7 : Int32) (h0 : own_max (0 : Int32) (own_min (8 : Int32) (B - o0)) = Int32.ofInt ((8 : Nat) : Int)) (h1 : own_max (0 : Int32) (own_min (8 : Int32) (B - o1)) = Int32.ofInt ((8 : Nat) : Int)) (h2 : own_max (0 : Int32) (own_min (8 : Int32) (B - o2)) = Int32.ofInt ((8 : Nat) : Int)) (h3 : own_max (0 : Int32) (own_min (8 : Int32) (B - o3)) = Int32.ofInt ((6 : Nat) : Int)) (h4 : own_max (0 : Int32) (own_min (8 : Int32) (B - o4)) = Int32.ofInt ((0 : Nat) : Int)) (h5 : own_max (0 : Int32) (own_min (8 : Int32) (B - o5)) = Int32.ofInt ((0 : Nat) : Int)) (h6 : own_max (0 : Int32) (own_min (8 : Int32) (B - o6)) = Int32.ofInt ((0 : Nat) : Int)) (h7 : own_max (0 : Int32) (own_min (8 : Int32) (B - o7)) = Int32.ofInt ((0 : Nat) : Int)) (hn : n = ~~~(17179869183 : Int64)) : own_p8 (own_nb (own_by x 56) B o0) (own_nb (own_by x 48) B o1) (own_nb (own_by x 40) B o2) (own_nb (own_by x 32) B o3) (own_nb (own_by x 24) B o4) (own_nb (own_by x 16) B o5) (own_nb (own_by x 8) B o6) (own_nb (own_b0 x) B o7) = x &&& n := by
  have b0 := own_byv x 56 56 (by decide) (by decide)
  have n0 := own_nbv (own_by x 56) B o0 8 (by decide) b0.2.1 b0.2.2 h0
  have b1 := own_byv x 48 48 (by decide) (by decide)
  have n1 := own_nbv (own_by x 48) B o1 8 (by decide) b1.2.1 b1.2.2 h1
  have b2 := own_byv x 40 40 (by decide) (by decide)
  have n2 := own_nbv (own_by x 40) B o2 8 (by decide) b2.2.1 b2.2.2 h2
  have b3 := own_byv x 32 32 (by decide) (by decide)
  have n3 := own_nbv (own_by x 32) B o3 6 (by decide) b3.2.1 b3.2.2 h3
  have b4 := own_byv x 24 24 (by decide) (by decide)
  have n4 := own_nbv (own_by x 24) B o4 0 (by decide) b4.2.1 b4.2.2 h4
  have b5 := own_byv x 16 16 (by decide) (by decide)
  have n5 := own_nbv (own_by x 16) B o5 0 (by decide) b5.2.1 b5.2.2 h5
  have b6 := own_byv x 8 8 (by decide) (by decide)
  have n6 := own_nbv (own_by x 8) B o6 0 (by decide) b6.2.1 b6.2.2 h6
  have b7 := own_b0v x
  have n7 := own_nbv (own_b0 x) B o7 0 (by decide) b7.2.1 b7.2.2 h7
  have P := own_p8v (own_nb (own_by x 56) B o0) (own_nb (own_by x 48) B o1) (own_nb (own_by x 40) B o2) (own_nb (own_by x 32) B o3) (own_nb (own_by x 24) B o4) (own_nb (own_by x 16) B o5) (own_nb (own_by x 8) B o6) (own_nb (own_b0 x) B o7)
  have R1 := rng64 (own_p8 (own_nb (own_by x 56) B o0) (own_nb (own_by x 48) B o1) (own_nb (own_by x 40) B o2) (own_nb (own_by x 32) B o3) (own_nb (own_by x 24) B o4) (own_nb (own_by x 16) B o5) (own_nb (own_by x 8) B o6) (own_nb (own_b0 x) B o7))
  rw [n0, n1, n2, n3, n4, n5, n6, n7] at P
  rw [b0.1, b1.1, b2.1, b3.1, b4.1, b5.1, b6.1, b7.1] at P
  have K := own_k8_30 x.toInt (x.toInt % 18446744073709551616) _ rfl P
  clear P n0 n1 n2 n3 n4 n5 n6 n7 b0 b1 b2 b3 b4 b5 b6 b7 h0 h1 h2 h3 h4 h5 h6 h7
  apply Int64.toInt_inj.mp
  generalize own_p8 (own_nb (own_by x 56) B o0) (own_nb (own_by x 48) B o1) (own_nb (own_by x 40) B o2) (own_nb (own_by x 32) B o3) (own_nb (own_by x 24) B o4) (own_nb (own_by x 16) B o5) (own_nb (own_by x 8) B o6) (own_nb (own_b0 x) B o7) = p at *
  have H : ((x &&& n).toInt - (x.toInt - x.toInt % 17179869184)) % 18446744073709551616 = 0 := own_hmL x (17179869183 : Int64) n 34 (by decide) (by decide) hn
  have R2 := rng64 (x &&& n)
  generalize (x &&& n).toInt = r at *
  generalize x.toInt % 17179869184 = z at *
  omega
theorem own_g8_31 (x n : Int64) (B o0 o1 o2 o3 o4 o5 o6 o7 : Int32) (h0 : own_max (0 : Int32) (own_min (8 : Int32) (B - o0)) = Int32.ofInt ((8 : Nat) : Int)) (h1 : own_max (0 : Int32) (own_min (8 : Int32) (B - o1)) = Int32.ofInt ((8 : Nat) : Int)) (h2 : own_max (0 : Int32) (own_min (8 : Int32) (B - o2)) = Int32.ofInt ((8 : Nat) : Int)) (h3 : own_max (0 : Int32) (own_min (8 : Int32) (B - o3)) = Int32.ofInt ((7 : Nat) : Int)) (h4 : own_max (0 : Int32) (own_min (8 : Int32) (B - o4)) = Int32.ofInt ((0 : Nat) : Int)) (h5 : own_max (0 : Int32) (own_min (8 : Int32) (B - o5)) = Int32.ofInt ((0 : Nat) : Int)) (h6 : own_max (0 : Int32) (own_min (8 : Int32) (B - o6)) = Int32.ofInt ((0 : Nat) : Int)) (h7 : own_max (0 : Int32) (own_min (8 : Int32) (B - o7)) = Int32.ofInt ((0 : Nat) : Int)) (hn : n = ~~~(8589934591 : Int64)) : own_p8 (own_nb (own_by x 56) B o0) (own_nb (own_by x 48) B o1) (own_nb (own_by x 40) B o2) (own_nb (own_by x 32) B o3) (own_nb (own_by x 24) B o4) (own_nb (own_by x 16) B o5) (own_nb (own_by x 8) B o6) (own_nb (own_b0 x) B o7) = x &&& n := by
  have b0 := own_byv x 56 56 (by decide) (by decide)
  have n0 := own_nbv (own_by x 56) B o0 8 (by decide) b0.2.1 b0.2.2 h0
  have b1 := own_byv x 48 48 (by decide) (by decide)
  have n1 := own_nbv (own_by x 48) B o1 8 (by decide) b1.2.1 b1.2.2 h1
  have b2 := own_byv x 40 40 (by decide) (by decide)
  have n2 := own_nbv (own_by x 40) B o2 8 (by decide) b2.2.1 b2.2.2 h2
  have b3 := own_byv x 32 32 (by decide) (by decide)
  have n3 := own_nbv (own_by x 32) B o3 7 (by decide) b3.2.1 b3.2.2 h3
  have b4 := own_byv x 24 24 (by decide) (by decide)
  have n4 := own_nbv (own_by x 24) B o4 0 (by decide) b4.2.1 b4.2.2 h4
  have b5 := own_byv x 16 16 (by decide) (by decide)
  have n5 := own_nbv (own_by x 16) B o5 0 (by decide) b5.2.1 b5.2.2 h5
  have b6 := own_byv x 8 8 (by decide) (by decide)
  have n6 := own_nbv (own_by x 8) B o6 0 (by decide) b6.2.1 b6.2.2 h6
  have b7 := own_b0v x
  have n7 := own_nbv (own_b0 x) B o7 0 (by decide) b7.2.1 b7.2.2 h7
  have P := own_p8v (own_nb (own_by x 56) B o0) (own_nb (own_by x 48) B o1) (own_nb (own_by x 40) B o2) (own_nb (own_by x 32) B o3) (own_nb (own_by x 24) B o4) (own_nb (own_by x 16) B o5) (own_nb (own_by x 8) B o6) (own_nb (own_b0 x) B o7)
  have R1 := rng64 (own_p8 (own_nb (own_by x 56) B o0) (own_nb (own_by x 48) B o1) (own_nb (own_by x 40) B o2) (own_nb (own_by x 32) B o3) (own_nb (own_by x 24) B o4) (own_nb (own_by x 16) B o5) (own_nb (own_by x 8) B o6) (own_nb (own_b0 x) B o7))
  rw [n0, n1, n2, n3, n4, n5, n6, n7] at P
  rw [b0.1, b1.1, b2.1, b3.1, b4.1, b5.1, b6.1, b7.1] at P
  have K := own_k8_31 x.toInt (x.toInt % 18446744073709551616) _ rfl P
  clear P n0 n1 n2 n3 n4 n5 n6 n7 b0 b1 b2 b3 b4 b5 b6 b7 h0 h1 h2 h3 h4 h5 h6 h7
  apply Int64.toInt_inj.mp
  generalize own_p8 (own_nb (own_by x 56) B o0) (own_nb (own_by x 48) B o1) (own_nb (own_by x 40) B o2) (own_nb (own_by x 32) B o3) (own_nb (own_by x 24) B o4) (own_nb (own_by x 16) B o5) (own_nb (own_by x 8) B o6) (own_nb (own_b0 x) B o7) = p at *
  have H : ((x &&& n).toInt - (x.toInt - x.toInt % 8589934592)) % 18446744073709551616 = 0 := own_hmL x (8589934591 : Int64) n 33 (by decide) (by decide) hn
  have R2 := rng64 (x &&& n)
  generalize (x &&& n).toInt = r at *
  generalize x.toInt % 8589934592 = z at *
  omega
theorem own_g8_32 (x n : Int64) (B o0 o1 o2 o3 o4 o5 o6 o7 : Int32) (h0 : own_max (0 : Int32) (own_min (8 : Int32) (B - o0)) = Int32.ofInt ((8 : Nat) : Int)) (h1 : own_max (0 : Int32) (own_min (8 : Int32) (B - o1)) = Int32.ofInt ((8 : Nat) : Int)) (h2 : own_max (0 : Int32) (own_min (8 : Int32) (B - o2)) = Int32.ofInt ((8 : Nat) : Int)) (h3 : own_max (0 : Int32) (own_min (8 : Int32) (B - o3)) = Int32.ofInt ((8 : Nat) : Int)) (h4 : own_max (0 : Int32) (own_min (8 : Int32) (B - o4)) = Int32.ofInt ((0 : Nat) : Int)) (h5 : own_max (0 : Int32) (own_min (8 : Int32) (B - o5)) = Int32.ofInt ((0 : Nat) : Int)) (h6 : own_max (0 : Int32) (own_min (8 : Int32) (B - o6)) = Int32.ofInt ((0 : Nat) : Int)) (h7 : own_max (0 : Int32) (own_min (8 : Int32) (B - o7)) = Int32.ofInt ((0 : Nat) : Int)) (hn : n = ~~~(4294967295 : Int64)) : own_p8 (own_nb (own_by x 56) B o0) (own_nb (own_by x 48) B o1) (own_nb (own_by x 40) B o2) (own_nb (own_by x 32) B o3) (own_nb (own_by x 24) B o4) (own_nb (own_by x 16) B o5) (own_nb (own_by x 8) B o6) (own_nb (own_b0 x) B o7) = x &&& n := by
  have b0 := own_byv x 56 56 (by decide) (by decide)
  have n0 := own_nbv (own_by x 56) B o0 8 (by decide) b0.2.1 b0.2.2 h0
  have b1 := own_byv x 48 48 (by decide) (by decide)
  have n1 := own_nbv (own_by x 48) B o1 8 (by decide) b1.2.1 b1.2.2 h1
  have b2 := own_byv x 40 40 (by decide) (by decide)
  have n2 := own_nbv (own_by x 40) B o2 8 (by decide) b2.2.1 b2.2.2 h2
  have b3 := own_byv x 32 32 (by decide) (by decide)
  have n3 := own_nbv (own_by x 32) B o3 8 (by decide) b3.2.1 b3.2.2 h3
  have b4 := own_byv x 24 24 (by decide) (by decide)
  have n4 := own_nbv (own_by x 24) B o4 0 (by decide) b4.2.1 b4.2.2 h4
  have b5 := own_byv x 16 16 (by decide) (by decide)
  have n5 := own_nbv (own_by x 16) B o5 0 (by decide) b5.2.1 b5.2.2 h5
  have b6 := own_byv x 8 8 (by decide) (by decide)
  have n6 := own_nbv (own_by x 8) B o6 0 (by decide) b6.2.1 b6.2.2 h6
  have b7 := own_b0v x
  have n7 := own_nbv (own_b0 x) B o7 0 (by decide) b7.2.1 b7.2.2 h7
  have P := own_p8v (own_nb (own_by x 56) B o0) (own_nb (own_by x 48) B o1) (own_nb (own_by x 40) B o2) (own_nb (own_by x 32) B o3) (own_nb (own_by x 24) B o4) (own_nb (own_by x 16) B o5) (own_nb (own_by x 8) B o6) (own_nb (own_b0 x) B o7)
  have R1 := rng64 (own_p8 (own_nb (own_by x 56) B o0) (own_nb (own_by x 48) B o1) (own_nb (own_by x 40) B o2) (own_nb (own_by x 32) B o3) (own_nb (own_by x 24) B o4) (own_nb (own_by x 16) B o5) (own_nb (own_by x 8) B o6) (own_nb (own_b0 x) B o7))
  rw [n0, n1, n2, n3, n4, n5, n6, n7] at P
  rw [b0.1, b1.1, b2.1, b3.1, b4.1, b5.1, b6.1, b7.1] at P
  have K := own_k8_32 x.toInt (x.toInt % 18446744073709551616) _ rfl P
  clear P n0 n1 n2 n3 n4 n5 n6 n7 b0 b1 b2 b3 b4 b5 b6 b7 h0 h1 h2 h3 h4 h5 h6 h7
  apply Int64.toInt_inj.mp
  generalize own_p8 (own_nb (own_by x 56) B o0) (own_nb (own_by x 48) B o1) (own_nb (own_by x 40) B o2) (own_nb (own_by x 32) B o3) (own_nb (own_by x 24) B o4) (own_nb (own_by x 16) B o5) (own_nb (own_by x 8) B o6) (own_nb (own_b0 x) B o7) = p at *
  have H : ((x &&& n).toInt - (x.toInt - x.toInt % 4294967296)) % 18446744073709551616 = 0 := own_hmL x (4294967295 : Int64) n 32 (by decide) (by decide) hn
  have R2 := rng64 (x &&& n)
  generalize (x &&& n).toInt = r at *
  generalize x.toInt % 4294967296 = z at *
  omega
theorem own_g8_33 (x n : Int64) (B o0 o1 o2 o3 o4 o5 o6 o7 : Int32) (h0 : own_max (0 : Int32) (own_min (8 : Int32) (B - o0)) = Int32.ofInt ((8 : Nat) : Int)) (h1 : own_max (0 : Int32) (own_min (8 : Int32) (B - o1)) = Int32.ofInt ((8 : Nat) : Int)) (h2 : own_max (0 : Int32) (own_min (8 : Int32) (B - o2)) = Int32.ofInt ((8 : Nat) : Int)) (h3 : own_max (0 : Int32) (own_min (8 : Int32) (B - o3)) = Int32.ofInt ((8 : Nat) : Int)) (h4 : own_max (0 : Int32) (own_min (8 : Int32) (B - o4)) = Int32.ofInt ((1 : Nat) : Int)) (h5 : own_max (0 : Int32) (own_min (8 : Int32) (B - o5)) = Int32.ofInt ((0 : Nat) : Int)) (h6 : own_max (0 : Int32) (own_min (8 : Int32) (B - o6)) = Int32.ofInt ((0 : Nat) : Int)) (h7 : own_max (0 : Int32) (own_min (8 : Int32) (B - o7)) = Int32.ofInt ((0 : Nat) : Int)) (hn : n = ~~~(2147483647 : Int64)) : own_p8 (own_nb (own_by x 56) B o0) (own_nb (own_by x 48) B o1) (own_nb (own_by x 40) B o2) (own_nb (own_by x 32) B o3) (own_nb (own_by x 24) B o4) (own_nb (own_by x 16) B o5) (own_nb (own_by x 8) B o6) (own_nb (own_b0 x) B o7) = x &&& n := by
  have b0 := own_byv x 56 56 (by decide) (by decide)
  have n0 := own_nbv (own_by x 56) B o0 8 (by decide) b0.2.1 b0.2.2 h0
  have b1 := own_byv x 48 48 (by decide) (by decide)
  have n1 := own_nbv (own_by x 48) B o1 8 (by decide) b1.2.1 b1.2.2 h1
  have b2 := own_byv x 40 40 (by decide) (by decide)
  have n2 := own_nbv (own_by x 40) B o2 8 (by decide) b2.2.1 b2.2.2 h2
  have b3 := own_byv x 32 32 (by decide) (by decide)
  have n3 := own_nbv (own_by x 32) B o3 8 (by decide) b3.2.1 b3.2.2 h3
  have b4 := own_byv x 24 24 (by decide) (by decide)
  have n4 := own_nbv (own_by x 24) B o4 1 (by decide) b4.2.1 b4.2.2 h4
  have b5 := own_byv x 16 16 (by decide) (by decide)
  have n5 := own_nbv (own_by x 16) B o5 0 (by decide) b5.2.1 b5.2.2 h5
  have b6 := own_byv x 8 8 (by decide) (by decide)
  have n6 := own_nbv (own_by x 8) B o6 0 (by decide) b6.2.1 b6.2.2 h6
  have b7 := own_b0v x
  have n7 := own_nbv (own_b0 x) B o7 0 (by decide) b7.2.1 b7.2.2 h7
  have P := own_p8v (own_nb (own_by x 56) B o0) (own_nb (own_by x 48) B o1) (own_nb (own_by x 40) B o2) (own_nb (own_by x 32) B o3) (own_nb (own_by x 24) B o4) (own_nb (own_by x 16) B o5) (own_nb (own_by x 8) B o6) (own_nb (own_b0 x) B o7)
  have R1 := rng64 (own_p8 (own_nb (own_by x 56) B o0) (own_nb (own_by x 48) B o1) (own_nb (own_by x 40) B o2) (own_nb (own_by x 32) B o3) (own_nb (own_by x 24) B o4) (own_nb (own_by x 16) B o5) (own_nb (own_by x 8) B o6) (own_nb (own_b0 x) B o7))
  rw [n0, n1, n2, n3, n4, n5, n6, n7] at P
  rw [b0.1, b1.1, b2.1, b3.1, b4.1, b5.1, b6.1, b7.1] at P
  have K := own_k8_33 x.toInt (x.toInt % 18446744073709551616) _ rfl P
  clear P n0 n1 n2 n3 n4 n5 n6 n7 b0 b1 b2 b3 b4 b5 b6 b7 h0 h1 h2 h3 h4 h5 h6 h7
  apply Int64.toInt_inj.mp
  generalize own_p8 (own_nb (own_by x 56) B o0) (own_nb (own_by x 48) B o1) (own_nb (own_by x 40) B o2) (own_nb (own_by x 32) B o3) (own_nb (own_by x 24) B o4) (own_nb (own_by x 16) B o5) (own_nb (own_by x 8) B o6) (own_nb (own_b0 x) B o7) = p at *
  have H : ((x &&& n).toInt - (x.toInt - x.toInt % 2147483648)) % 18446744073709551616 = 0 := own_hmL x (2147483647 : Int64) n 31 (by decide) (by decide) hn
  have R2 := rng64 (x &&& n)
  generalize (x &&& n).toInt = r at *
  generalize x.toInt % 2147483648 = z at *
  omega
theorem own_g8_34 (x n : Int64) (B o0 o1 o2 o3 o4 o5 o6 o7 : Int32) (h0 : own_max (0 : Int32) (own_min (8 : Int32) (B - o0)) = Int32.ofInt ((8 : Nat) : Int)) (h1 : own_max (0 : Int32) (own_min (8 : Int32) (B - o1)) = Int32.ofInt ((8 : Nat) : Int)) (h2 : own_max (0 : Int32) (own_min (8 : Int32) (B - o2)) = Int32.ofInt ((8 : Nat) : Int)) (h3 : own_max (0 : Int32) (own_min (8 : Int32) (B - o3)) = Int32.ofInt ((8 : Nat) : Int)) (h4 : own_max (0 : Int32) (own_min (8 : Int32) (B - o4)) = Int32.ofInt ((2 : Nat) : Int)) (h5 : own_max (0 : Int32) (own_min (8 : Int32) (B - o5)) = Int32.ofInt ((0 : Nat) : Int)) (h6 : own_max (0 : Int32) (own_min (8 : Int32) (B - o6)) = Int32.ofInt ((0 : Nat) : Int)) (h7 : own_max (0 : Int32) (own_min (8 : Int32) (B - o7)) = Int32.ofInt ((0 : Nat) : Int)) (hn : n = ~~~(1073741823 : Int64)) : own_p8 (own_nb (own_by x 56) B o0) (own_nb (own_by x 48) B o1) (own_nb (own_by x 40) B o2) (own_nb (own_by x 32) B o3) (own_nb (own_by x 24) B o4) (own_nb (own_by x 16) B o5) (own_nb (own_by x 8) B o6) (own_nb (own_b0 x) B o7) = x &&& n := by
  have b0 := own_byv x 56 56 (by decide) (by decide)
  have n0 := own_nbv (own_by x 56) B o0 8 (by decide) b0.2.1 b0.2.2 h0
  have b1 := own_byv x 48 48 (by decide) (by decide)
  have n1 := own_nbv (own_by x 48) B o1 8 (by decide) b1.2.1 b1.2.2 h1
  have b2 := own_byv x 40 40 (by decide) (by decide)
  have n2 := own_nbv (own_by x 40) B o2 8 (by decide) b2.2.1 b2.2.2 h2
  have b3 := own_byv x 32 32 (by decide) (by decide)
  have n3 := own_nbv (own_by x 32) B o3 8 (by decide) b3.2.1 b3.2.2 h3
  have b4 := own_byv x 24 24 (by decide) (by decide)
  have n4 := own_nbv (own_by x 24) B o4 2 (by decide) b4.2.1 b4.2.2 h4
  have b5 := own_byv x 16 16 (by decide) (by decide)
  have n5 := own_nbv (own_by x 16) B o5 0 (by decide) b5.2.1 b5.2.2 h5
  have b6 := own_byv x 8 8 (by decide) (by decide)
  have n6 := own_nbv (own_by x 8) B o6 0 (by decide) b6.2.1 b6.2.2 h6
  have b7 := own_b0v x
  have n7 := own_nbv (own_b0 x) B o7 0 (by decide) b7.2.1 b7.2.2 h7
  have P := own_p8v (own_nb (own_by x 56) B o0) (own_nb (own_by x 48) B o1) (own_nb (own_by x 40) B o2) (own_nb (own_by x 32) B o3) (own_nb (own_by x 24) B o4) (own_nb (own_by x 16) B o5) (own_nb (own_by x 8) B o6) (own_nb (own_b0 x) B o7)
  have R1 := rng64 (own_p8 (own_nb (own_by x 56) B o0) (own_nb (own_by x 48) B o1) (own_nb (own_by x 40) B o2) (own_nb (own_by x 32) B o3) (own_nb (own_by x 24) B o4) (own_nb (own_by x 16) B o5) (own_nb (own_by x 8) B o6) (own_nb (own_b0 x) B o7))
  rw [n0, n1, n2, n3, n4, n5, n6, n7] at P
  rw [b0.1, b1.1, b2.1, b3.1, b4.1, b5.1, b6.1, b7.1] at P
  have K := own_k8_34 x.toInt (x.toInt % 18446744073709551616) _ rfl P
  clear P n0 n1 n2 n3 n4 n5 n6 n7 b0 b1 b2 b3 b4 b5 b6 b7 h0 h1 h2 h3 h4 h5 h6 h7
  apply Int64.toInt_inj.mp
  generalize own_p8 (own_nb (own_by x 56) B o0) (own_nb (own_by x 48) B o1) (own_nb (own_by x 40) B o2) (own_nb (own_by x 32) B o3) (own_nb (own_by x 24) B o4) (own_nb (own_by x 16) B o5) (own_nb (own_by x 8) B o6) (own_nb (own_b0 x) B o7) = p at *
  have H : ((x &&& n).toInt - (x.toInt - x.toInt % 1073741824)) % 18446744073709551616 = 0 := own_hmL x (1073741823 : Int64) n 30 (by decide) (by decide) hn
  have R2 := rng64 (x &&& n)
  generalize (x &&& n).toInt = r at *
  generalize x.toInt % 1073741824 = z at *
  omega
theorem own_g8_35 (x n : Int64) (B o0 o1 o2 o3 o4 o5 o6 o7 : Int32) (h0 : own_max (0 : Int32) (own_min (8 : Int32) (B - o0)) = Int32.ofInt ((8 : Nat) : Int)) (h1 : own_max (0 : Int32) (own_min (8 : Int32) (B - o1)) = Int32.ofInt ((8 : Nat) : Int)) (h2 : own_max (0 : Int32) (own_min (8 : Int32) (B - o2)) = Int32.ofInt ((8 : Nat) : Int)) (h3 : own_max (0 : Int32) (own_min (8 : Int32) (B - o3)) = Int32.ofInt ((8 : Nat) : Int)) (h4 : own_max (0 : Int32) (own_min (8 : Int32) (B - o4)) = Int32.ofInt ((3 : Nat) : Int)) (h5 : own_max (0 : Int32) (own_min (8 : Int32) (B - o5)) = Int32.ofInt ((0 : Nat) : Int)) (h6 : own_max (0 : Int32) (own_min (8 : Int32) (B - o6)) = Int32.ofInt ((0 : Nat) : Int)) (h7 : own_max (0 : Int32) (own_min (8 : Int32) (B - o7)) = Int32.ofInt ((0 : Nat) : Int)) (hn : n = ~~~(536870911 : Int64)) : own_p8 (own_nb (own_by x 56) B o0) (own_nb (own_by x 48) B o1) (own_nb (own_by x 40) B o2) (own_nb (own_by x 32) B o3) (own_nb (own_by x 24) B o4) (own_nb (own_by x 16) B o5) (own_nb (own_by x 8) B o6) (own_nb (own_b0 x) B o7) = x &&& n := by
  have b0 := own_byv x 56 56 (by decide) (by decide)
  have n0 := own_nbv (own_by x 56) B o0 8 (by decide) b0.2.1 b0.2.2 h0
  have b1 := own_byv x 48 48 (by decide) (by decide)
  have n1 := own_nbv (own_by x 48) B o1 8 (by decide) b1.2.1 b1.2.2 h1
  have b2 := own_byv x 40 40 (by decide) (by decide)
  have n2 := own_nbv (own_by x 40) B o2 8 (by decide) b2.2.1 b2.2.2 h2
  have b3 := own_byv x 32 32 (by decide) (by decide)
  have n3 := own_nbv (own_by x 32) B o3 8 (by decide) b3.2.1 b3.2.2 h3
  have b4 := own_byv x 24 24 (by decide) (by decide)
  have n4 := own_nbv (own_by x 24) B o4 3 (by decide) b4.2.1 b4.2.2 h4
  have b5 := own_byv x 16 16 (by decide) (by decide)
  have n5 := own_nbv (own_by x 16) B o5 0 (by decide) b5.2.1 b5.2.2 h5
  have b6 := own_byv x 8 8 (by decide) (by decide)
  have n6 := own_nbv (own_by x 8) B o6 0 (by decide) b6.2.1 b6.2.2 h6
  have b7 := own_b0v x
  have n7 := own_nbv (own_b0 x) B o7 0 (by decide) b7.2.1 b7.2.2 h7
  have P := own_p8v (own_nb (own_by x 56) B o0) (own_nb (own_by x 48) B o1) (own_nb (own_by x 40) B o2) (own_nb (own_by x 32) B o3) (own_nb (own_by x 24) B o4) (own_nb (own_by x 16) B o5) (own_nb (own_by x 8) B o6) (own_nb (own_b0 x) B o7)
  have R1 := rng64 (own_p8 (own_nb (own_by x 56) B o0) (own_nb (own_by x 48) B o1) (own_nb (own_by x 40) B o2) (own_nb (own_by x 32) B o3) (own_nb (own_by x 24) B o4) (own_nb (own_by x 16) B o5) (own_nb (own_by x 8) B o6) (own_nb (own_b0 x) B o7))
  rw [n0, n1, n2, n3, n4, n5, n6, n7] at P
  rw [b0.1, b1.1, b2.1, b3.1, b4.1, b5.1, b6.1, b7.1] at P
  have K := own_k8_35 x.toInt (x.toInt % 18446744073709551616) _ rfl P
  clear P n0 n1 n2 n3 n4 n5 n6 n7 b0 b1 b2 b3 b4 b5 b6 b7 h0 h1 h2 h3 h4 h5 h6 h7
  apply Int64.toInt_inj.mp
  generalize own_p8 (own_nb (own_by x 56) B o0) (own_nb (own_by x 48) B o1) (own_nb (own_by x 40) B o2) (own_nb (own_by x 32) B o3) (own_nb (own_by x 24) B o4) (own_nb (own_by x 16) B o5) (own_nb (own_by x 8) B o6) (own_nb (own_b0 x) B o7) = p at *
  have H : ((x &&& n).toInt - (x.toInt - x.toInt % 536870912)) % 18446744073709551616 = 0 := own_hmL x (536870911 : Int64) n 29 (by decide) (by decide) hn
  have R2 := rng64 (x &&& n)
  generalize (x &&& n).toInt = r at *
  generalize x.toInt % 536870912 = z at *
  omega
theorem own_g8_36 (x n : Int64) (B o0 o1 o2 o3 o4 o5 o6 o7 : Int32) (h0 : own_max (0 : Int32) (own_min (8 : Int32) (B - o0)) = Int32.ofInt ((8 : Nat) : Int)) (h1 : own_max (0 : Int32) (own_min (8 : Int32) (B - o1)) = Int32.ofInt ((8 : Nat) : Int)) (h2 : own_max (0 : Int32) (own_min (8 : Int32) (B - o2)) = Int32.ofInt ((8 : Nat) : Int)) (h3 : own_max (0 : Int32) (own_min (8 : Int32) (B - o3)) = Int32.ofInt ((8 : Nat) : Int)) (h4 : own_max (0 : Int32) (own_min (8 : Int32) (B - o4)) = Int32.ofInt ((4 : Nat) : Int)) (h5 : own_max (0 : Int32) (own_min (8 : Int32) (B - o5)) = Int32.ofInt ((0 : Nat) : Int)) (h6 : own_max (0 : Int32) (own_min (8 : Int32) (B - o6)) = Int32.ofInt ((0 : Nat) : Int)) (h7 : own_max (0 : Int32) (own_min (8 : Int32) (B - o7)) = Int32.ofInt ((0 : Nat) : Int)) (hn : n = ~~~(268435455 : Int64)) : own_p8 (own_nb (own_by x 56) B o0) (own_nb (own_by x 48) B o1) (own_nb (own_by x 40) B o2) (own_nb (own_by x 32) B o3) (own_nb (own_by x 24) B o4) (own_nb (own_by x 16) B o5) (own_nb (own_by x 8) B o6) (own_nb (own_b0 x) B o7) = x &&& n := by
  have b0 := own_byv x 56 56 (by decide) (by decide)
  have n0 := own_nbv (own_by x 56) B o0 8 (by decide) b0.2.1 b0.2.2 h0
  have b1 := own_byv x 48 48 (by decide) (by decide)
  have n1 := own_nbv (own_by x 48) B o1 8 (by decide) b1.2.1 b1.2.2 h1
  have b2 := own_byv x 40 40 (by decide) (by decide)
  have n2 := own_nbv (own_by x 40) B o2 8 (by decide) b2.2.1 b2.2.2 h2
  have b3 := own_byv x 32 32 (by decide) (by decide)
  have n3 := own_nbv (own_by x 32) B o3 8 (by decide) b3.2.1 b3.2.2 h3
  have b4 := own_byv x 24 24 (by decide) (by decide)
  have n4 := own_nbv (own_by x 24) B o4 4 (by decide) b4.2.1 b4.2.2 h4
  have b5 := own_byv x 16 16 (by decide) (by decide)
  have n5 := own_nbv (own_by x 16) B o5 0 (by decide) b5.2.1 b5.2.2 h5
  have b6 := own_byv x 8 8 (by decide) (by decide)
  have n6 := own_nbv (own_by x 8) B o6 0 (by decide) b6.2.1 b6.2.2 h6
  have b7 := own_b0v x
  have n7 := own_nbv (own_b0 x) B o7 0 (by decide) b7.2.1 b7.2.2 h7
  have P := own_p8v (own_nb (own_by x 56) B o0) (own_nb (own_by x 48) B o1) (own_nb (own_by x 40) B o2) (own_nb (own_by x 32) B o3) (own_nb (own_by x 24) B o4) (own_nb (own_by x 16) B o5) (own_nb (own_by x 8) B o6) (own_nb (own_b0 x) B o7)
  have R1 := rng64 (own_p8 (own_nb (own_by x 56) B o0) (own_nb (own_by x 48) B o1) (own_nb (own_by x 40) B o2) (own_nb (own_by x 32) B o3) (own_nb (own_by x 24) B o4) (own_nb (own_by x 16) B o5) (own_nb (own_by x 8) B o6) (own_nb (own_b0 x) B o7))
  rw [n0, n1, n2, n3, n4, n5, n6, n7] at P
  rw [b0.1, b1.1, b2.1, b3.1, b4.1, b5.1, b6.1, b7.1] at P
  have K := own_k8_36 x.toInt (x.toInt % 18446744073709551616) _ rfl P
  clear P n0 n1 n2 n3 n4 n5 n6 n7 b0 b1 b2 b3 b4 b5 b6 b7 h0 h1 h2 h3 h4 h5 h6 h7
  apply Int64.toInt_inj.mp
  generalize own_p8 (own_nb (own_by x 56) B o0) (own_nb (own_by x 48) B o1) (own_nb (own_by x 40) B o2) (own_nb (own_by x 32) B o3) (own_nb (own_by x 24) B o4) (own_nb (own_by x 16) B o5) (own_nb (own_by x 8) B o6) (own_nb (own_b0 x) B o7) = p at *
  have H : ((x &&& n).toInt - (x.toInt - x.toInt % 268435456)) % 18446744073709551616 = 0 := own_hmL x (268435455 : Int64) n 28 (by decide) (by decide) hn
  have R2 := rng64 (x &&& n)
  generalize (x &&& n).toInt = r at *
  generalize x.toInt % 268435456 = z at *
  omega
theorem own_g8_37 (x n : Int64) (B o0 o1 o2 o3 o4 o5 o6 o7 : Int32) (h0 : own_max (0 : Int32) (own_min (8 : Int32) (B - o0)) = Int32.ofInt ((8 : Nat) : Int)) (h1 : own_max (0 : Int32) (own_min (8 : Int32) (B - o1)) = Int32.ofInt ((8 : Nat) : Int)) (h2 : own_max (0 : Int32) (own_min (8 : Int32) (B - o2)) = Int32.ofInt ((8 : Nat) : Int)) (h3 : own_max (0 : Int32) (own_min (8 : Int32) (B - o3)) = Int32.ofInt ((8 : Nat) : Int)) (h4 : own_max (0 : Int32) (own_min (8 : Int32) (B - o4)) = Int32.ofInt ((5 : Nat) : Int)) (h5 : own_max (0 : Int32) (own_min (8 : Int32) (B - o5)) = Int32.ofInt ((0 : Nat) : Int)) (h6 : own_max (0 : Int32) (own_min (8 : Int32) (B - o6)) = Int32.ofInt ((0 : Nat) : Int)) (h7 : own_max (0 : Int32) (own_min (8 : Int32) (B - o7)) = Int32.ofInt ((0 : Nat) : Int)) (hn : n = ~~~(134217727 : Int64)) : own_p8 (own_nb (own_by x 56) B o0) (own_nb (own_by x 48) B o1) (own_nb (own_by x 40) B o2) (own_nb (own_by x 32) B o3) (own_nb (own_by x 24) B o4) (own_nb (own_by x 16) B o5) (own_nb (own_by x 8) B o6) (own_nb (own_b0 x) B o7) = x &&& n := by
  have b0 := own_byv x 56 56 (by decide) (by decide)
  have n0 := own_nbv (own_by x 56) B o0 8 (by decide) b0.2.1 b0.2.2 h0
  have b1 := own_byv x 48 48 (by decide) (by decide)
  have n1 := own_nbv (own_by x 48) B o1 8 (by decide) b1.2.1 b1.2.2 h1
  have b2 := own_byv x 40 40 (by decide) (by decide)
  have n2 := own_nbv (own_by x 40) B o2 8 (by decide) b2.2.1 b2.2.2 h2
  have b3 := own_byv x 32 32 (by decide) (by decide)
  have n3 := own_nbv (own_by x 32) B o3 8 (by decide) b3.2.1 b3.2.2 h3
  have b4 := own_byv x 24 24 (by decide) (by decide)
  have n4 := own_nbv (own_by x 24) B o4 5 (by decide) b4.2.1 b4.2.2 h4
  have b5 := own_byv x 16 16 (by decide) (by decide)
  have n5 := own_nbv (own_by x 16) B o5 0 (by decide) b5.2.1 b5.2.2 h5
  have b6 := own_byv x 8 8 (by decide) (by decide)
  have n6 := own_nbv (own_by x 8) B o6 0 (by decide) b6.2.1 b6.2.2 h6
  have b7 := own_b0v x
  have n7 := own_nbv (own_b0 x) B o7 0 (by decide) b7.2.1 b7.2.2 h7
  have P := own_p8v (own_nb (own_by x 56) B o0) (own_nb (own_by x 48) B o1) (own_nb (own_by x 40) B o2) (own_nb (own_by x 32) B o3) (own_nb (own_by x 24) B o4) (own_nb (own_by x 16) B o5) (own_nb (own_by x 8) B o6) (own_nb (own_b0 x) B o7)
  have R1 := rng64 (own_p8 (own_nb (own_by x 56) B o0) (own_nb (own_by x 48) B o1) (own_nb (own_by x 40) B o2) (own_nb (own_by x 32) B o3) (own_nb (own_by x 24) B o4) (own_nb (own_by x 16) B o5) (own_nb (own_by x 8) B o6) (own_nb (own_b0 x) B o7))
  rw [n0, n1, n2, n3, n4, n5, n6, n7] at P
  rw [b0.1, b1.1, b2.1, b3.1, b4.1, b5.1, b6.1, b7.1] at P
  have K := own_k8_37 x.toInt (x.toInt % 18446744073709551616) _ rfl P
  clear P n0 n1 n2 n3 n4 n5 n6 n7 b0 b1 b2 b3 b4 b5 b6 b7 h0 h1 h2 h3 h4 h5 h6 h7
  apply Int64.toInt_inj.mp
  generalize own_p8 (own_nb (own_by x 56) B o0) (own_nb (own_by x 48) B o1) (own_nb (own_by x 40) B o2) (own_nb (own_by x 32) B o3) (own_nb (own_by x 24) B o4) (own_nb (own_by x 16) B o5) (own_nb (own_by x 8) B o6) (own_nb (own_b0 x) B o7) = p at *
  have H : ((x &&& n).toInt - (x.toInt - x.toInt % 134217728)) % 18446744073709551616 = 0 := own_hmL x (134217727 : Int64) n 27 (by decide) (by decide) hn
  have R2 := rng64 (x &&& n)
  generalize (x &&& n).toInt = r at *
  generalize x.toInt % 134217728 = z at *
  omega
theorem own_g8_38 (x n : Int64) (B o0 o1 o2 o3 o4 o5 o6 o7 : Int32) (h0 : own_max (0 : Int32) (own_min (8 : Int32) (B - o0)) = Int32.ofInt ((8 : Nat) : Int)) (h1 : own_max (0 : Int32) (own_min (8 : Int32) (B - o1)) = Int32.ofInt ((8 : Nat) : Int)) (h2 : own_max (0 : Int32) (own_min (8 : Int32) (B - o2)) = Int32.ofInt ((8 : Nat) : Int)) (h3 : own_max (0 : Int32) (own_min (8 : Int32) (B - o3)) = Int32.ofInt ((8 : Nat) : Int)) (h4 : own_max (0 : Int32) (own_min (8 : Int32) (B - o4)) = Int32.ofInt ((6 : Nat) : Int)) (h5 : own_max (0 : Int32) (own_min (8 : Int32) (B - o5)) = Int32.ofInt ((0 : Nat) : Int)) (h6 : own_max (0 : Int32) (own_min (8 : Int32) (B - o6)) = Int32.ofInt ((0 : Nat) : Int)) (h7 : own_max (0 : Int32) (own_min (8 : Int32) (B - o7)) = Int32.ofInt ((0 : Nat) : Int)) (hn : n = ~~~(67108863 : Int64)) : own_p8 (own_nb (own_by x 56) B o0) (own_nb (own_by x 48) B o1) (own_nb (own_by x 40) B o2) (own_nb (own_by x 32) B o3) (own_nb (own_by x 24) B o4) (own_nb (own_by x 16) B o5) (own_nb (own_by x 8) B o6) (own_nb (own_b0 x) B o7) = x &&& n := by
  have b0 := own_byv x 56 56 (by decide) (by decide)
  have n0 := own_nbv (own_by x 56) B o0 8 (by decide) b0.2.1 b0.2.2 h0
  have b1 := own_byv x 48 48 (by decide) (by decide)
  have n1 := own_nbv (own_by x 48) B o1 8 (by decide) b1.2.1 b1.2.2 h1
  have b2 := own_byv x 40 40 (by decide) (by decide)
  have n2 := own_nbv (own_by x 40) B o2 8 (by decide) b2.2.1 b2.2.2 h2
  have b3 := own_byv x 32 32 (by decide) (by decide)
  have n3 := own_nbv (own_by x 32) B o3 8 (by decide) b3.2.1 b3.2.2 h3
  have b4 := own_byv x 24 24 (by decide) (by decide)
  have n4 := own_nbv (own_by x 24) B o4 6 (by decide) b4.2.1 b4.2.2 h4
  have b5 := own_byv x 16 16 (by decide) (by decide)
  have n5 := own_nbv (own_by x 16) B o5 0 (by decide) b5.2.1 b5.2.2 h5
  have b6 := own_byv x 8 8 (by decide) (by decide)
  have n6 := own_nbv (own_by x 8) B o6 0 (by decide) b6.2.1 b6.2.2 h6
  have b7 := own_b0v x
  have n7 := own_nbv (own_b0 x) B o7 0 (by decide) b7.2.1 b7.2.2 h7
  have P := own_p8v (own_nb (own_by x 56) B o0) (own_nb (own_by x 48) B o1) (own_nb (own_by x 40) B o2) (own_nb (own_by x 32) B o3) (own_nb (own_by x 24) B o4) (own_nb (own_by x 16) B o5) (own_nb (own_by x 8) B o6) (own_nb (own_b0 x) B o7)
  have R1 := rng64 (own_p8 (own_nb (own_by x 56) B o0) (own_nb (own_by x 48) B o1) (own_nb (own_by x 40) B o2) (own_nb (own_by x 32) B o3) (own_nb (own_by x 24) B o4) (own_nb (own_by x 16) B o5) (own_nb (own_by x 8) B o6) (own_nb (own_b0 x) B o7))
  rw [n0, n1, n2, n3, n4, n5, n6, n7] at P
  rw [b0.1, b1.1, b2.1, b3.1, b4.1, b5.1, b6.1, b7.1] at P
  have K := own_k8_38 x.toInt (x.toInt % 18446744073709551616) _ rfl P
  clear P n0 n1 n2 n3 n4 n5 n6 n7 b0 b1 b2 b3 b4 b5 b6 b7 h0 h1 h2 h3 h4 h5 h6 h7
  apply Int64.toInt_inj.mp
  generalize own_p8 (own_nb (own_by x 56) B o0) (own_nb (own_by x 48) B o1) (own_nb (own_by x 40) B o2) (own_nb (own_by x 32) B o3) (own_nb (own_by x 24) B o4) (own_nb (own_by x 16) B o5) (own_nb (own_by x 8) B o6) (own_nb (own_b0 x) B o7) = p at *
  have H : ((x &&& n).toInt - (x.toInt - x.toInt % 67108864)) % 18446744073709551616 = 0 := own_hmL x (67108863 : Int64) n 26 (by decide) (by decide) hn
  have R2 := rng64 (x &&& n)
  generalize (x &&& n).toInt = r at *
  generalize x.toInt % 67108864 = z at *
  omega
theorem own_g8_39 (x n : Int64) (B o0 o1 o2 o3 o4 o5 o6 o7 : Int32) (h0 : own_max (0 : Int32) (own_min (8 : Int32) (B - o0)) = Int32.ofInt ((8 : Nat) : Int)) (h1 : own_max (0 : Int32) (own_min (8 : Int32) (B - o1)) = Int32.ofInt ((8 : Nat) : Int)) (h2 : own_max (0 : Int32) (own_min (8 : Int32) (B - o2)) = Int32.ofInt ((8 : Nat) : Int)) (h3 : own_max (0 : Int32) (own_min (8 : Int32) (B - o3)) = Int32.ofInt ((8 : Nat) : Int)) (h4 : own_max (0 : Int32) (own_min (8 : Int32) (B - o4)) = Int32.ofInt ((7 : Nat) : Int)) (h5 : own_max (0 : Int32) (own_min (8 : Int32) (B - o5)) = Int32.ofInt ((0 : Nat) : Int)) (h6 : own_max (0 : Int32) (own_min (8 : Int32) (B - o6)) = Int32.ofInt ((0 : Nat) : Int)) (h7 : own_max (0 : Int32) (own_min (8 : Int32) (B - o7)) = Int32.ofInt ((0 : Nat) : Int)) (hn : n = ~~~(33554431 : Int64)) : own_p8 (own_nb (own_by x 56) B o0) (own_nb (own_by x 48) B o1) (own_nb (own_by x 40) B o2) (own_nb (own_by x 32) B o3) (own_nb (own_by x 24) B o4) (own_nb (own_by x 16) B o5) (own_nb (own_by x 8) B o6) (own_nb (own_b0 x) B o7) = x &&& n := by
  have b0 := own_byv x 56 56 (by decide) (by decide)
  have n0 := own_nbv (own_by x 56) B o0 8 (by decide) b0.2.1 b0.2.2 h0
  have b1 := own_byv x 48 48 (by decide) (by decide)
  have n1 := own_nbv (own_by x 48) B o1 8 (by decide) b1.2.1 b1.2.2 h1
  have b2 := own_byv x 40 40 (by decide) (by decide)
  have n2 := own_nbv (own_by x 40) B o2 8 (by decide) b2.2.1 b2.2.2 h2
  have b3 := own_byv x 32 32 (by decide) (by decide)
  have n3 := own_nbv (own_by x 32) B o3 8 (by decide) b3.2.1 b3.2.2 h3
  have b4 := own_byv x 24 24 (by decide) (by decide)
  have n4 := own_nbv (own_by x 24) B o4 7 (by decide) b4.2.1 b4.2.2 h4
  have b5 := own_byv x 16 16 (by decide) (by decide)
  have n5 := own_nbv (own_by x 16) B o5 0 (by decide) b5.2.1 b5.2.2 h5
  have b6 := own_byv x 8 8 (by decide) (by decide)
  have n6 := own_nbv (own_by x 8) B o6 0 (by decide) b6.2.1 b6.2.2 h6
  have b7 := own_b0v x
  have n7 := own_nbv (own_b0 x) B o7 0 (by decide) b7.2.1 b7.2.2 h7
  have P := own_p8v (own_nb (own_by x 56) B o0) (own_nb (own_by x 48) B o1) (own_nb (own_by x 40) B o2) (own_nb (own_by x 32) B o3) (own_nb (own_by x 24) B o4) (own_nb (own_by x 16) B o5) (own_nb (own_by x 8) B o6) (own_nb (own_b0 x) B o7)
  have R1 := rng64 (own_p8 (own_nb (own_by x 56) B o0) (own_nb (own_by x 48) B o1) (own_nb (own_by x 40) B o2) (own_nb (own_by x 32) B o3) (own_nb (own_by x 24) B o4) (own_nb (own_by x 16) B o5) (own_nb (own_by x 8) B o6) (own_nb (own_b0 x) B o7))
  rw [n0, n1, n2, n3, n4, n5, n6, n7] at P
  rw [b0.1, b1.1, b2.1, b3.1, b4.1, b5.1, b6.1, b7.1] at P
  have K := own_k8_39 x.toInt (x.toInt % 18446744073709551616) _ rfl P
  clear P n0 n1 n2 n3 n4 n5 n6 n7 b0 b1 b2 b3 b4 b5 b6 b7 h0 h1 h2 h3 h4 h5 h6 h7
  apply Int64.toInt_inj.mp
  generalize own_p8 (own_nb (own_by x 56) B o0) (own_nb (own_by x 48) B o1) (own_nb (own_by x 40) B o2) (own_nb (own_by x 32) B o3) (own_nb (own_by x 24) B o4) (own_nb (own_by x 16) B o5) (own_nb (own_by x 8) B o6) (own_nb (own_b0 x) B o7) = p at *
  have H : ((x &&& n).toInt - (x.toInt - x.toInt % 33554432)) % 18446744073709551616 = 0 := own_hmL x (33554431 : Int64) n 25 (by decide) (by decide) hn
  have R2 := rng64 (x &&& n)
  generalize (x &&& n).toInt = r at *
  generalize x.toInt % 33554432 = z at *
  omega
theorem own_g8_40 (x n : Int64) (B o0 o1 o2 o3 o4 o5 o6 o7 : Int32) (h0 : own_max (0 : Int32) (own_min (8 : Int32) (B - o0)) = Int32.ofInt ((8 : Nat) : Int)) (h1 : own_max (0 : Int32) (own_min (8 : Int32) (B - o1)) = Int32.ofInt ((8 : Nat) : Int)) (h2 : own_max (0 : Int32) (own_min (8 : Int32) (B - o2)) = Int32.ofInt ((8 : Nat) : Int)) (h3 : own_max (0 : Int32) (own_min (8 : Int32) (B - o3)) = Int32.ofInt ((8 : Nat) : Int)) (h4 : own_max (0 : Int32) (own_min (8 : Int32) (B - o4)) = Int32.ofInt ((8 : Nat) : Int)) (h5 : own_max (0 : Int32) (own_min (8 : Int32) (B - o5)) = Int32.ofInt ((0 : Nat) : Int)) (h6 : own_max (0 : Int32) (own_min (8 : Int32) (B - o6)) = Int32.ofInt ((0 : Nat) : Int)) (h7 : own_max (0 : Int32) (own_min (8 : Int32) (B - o7)) = Int32.ofInt ((0 : Nat) : Int)) (hn : n = ~~~(16777215 : Int64)) : own_p8 (own_nb (own_by x 56) B o0) (own_nb (own_by x 48) B o1) (own_nb (own_by x 40) B o2) (own_nb (own_by x 32) B o3) (own_nb (own_by x 24) B o4) (own_nb (own_by x 16) B o5) (own_nb (own_by x 8) B o6) (own_nb (own_b0 x) B o7) = x &&& n := by
  have b0 := own_byv x 56 56 (by decide) (by decide)
  have n0 := own_nbv (own_by x 56) B o0 8 (by decide) b0.2.1 b0.2.2 h0
  have b1 := own_byv x 48 48 (by decide) (by decide)
  have n1 := own_nbv (own_by x 48) B o1 8 (by decide) b1.2.1 b1.2.2 h1
  have b2 := own_byv x 40 40 (by decide) (by decide)
  have n2 := own_nbv (own_by x 40) B o2 8 (by decide) b2.2.1 b2.2.2 h2
  have b3 := own_byv x 32 32 (by decide) (by decide)
  have n3 := own_nbv (own_by x 32) B o3 8 (by decide) b3.2.1 b3.2.2 h3
  have b4 := own_byv x 24 24 (by decide) (by decide)
  have n4 := own_nbv (own_by x 24) B o4 8 (by decide) b4.2.1 b4.2.2 h4
  have b5 := own_byv x 16 16 (by decide) (by decide)
  have n5 := own_nbv (own_by x 16) B o5 0 (by decide) b5.2.1 b5.2.2 h5
  have b6 := own_byv x 8 8 (by decide) (by decide)
  have n6 := own_nbv (own_by x 8) B o6 0 (by decide) b6.2.1 b6.2.2 h6
  have b7 := own_b0v x
  have n7 := own_nbv (own_b0 x) B o7 0 (by decide) b7.2.1 b7.2.2 h7
  have P := own_p8v (own_nb (own_by x 56) B o0) (own_nb (own_by x 48) B o1) (own_nb (own_by x 40) B o2) (own_nb (own_by x 32) B o3) (own_nb (own_by x 24) B o4) (own_nb (own_by x 16) B o5) (own_nb (own_by x 8) B o6) (own_nb (own_b0 x) B o7)
  have R1 := rng64 (own_p8 (own_nb (own_by x 56) B o0) (own_nb (own_by x 48) B o1) (own_nb (own_by x 40) B o2) (own_nb (own_by x 32) B o3) (own_nb (own_by x 24) B o4) (own_nb (own_by x 16) B o5) (own_nb (own_by x 8) B o6) (own_nb (own_b0 x) B o7))
  rw [n0, n1, n2, n3, n4, n5, n6, n7] at P
  rw [b0.1, b1.1, b2.1, b3.1, b4.1, b5.1, b6.1, b7.1] at P
  have K := own_k8_40 x.toInt (x.toInt % 18446744073709551616) _ rfl P
  clear P n0 n1 n2 n3 n4 n5 n6 n7 b0 b1 b2 b3 b4 b5 b6 b7 h0 h1 h2 h3 h4 h5 h6 h7
  apply Int64.toInt_inj.mp
  generalize own_p8 (own_nb (own_by x 56) B o0) (own_nb (own_by x 48) B o1) (own_nb (own_by x 40) B o2) (own_nb (own_by x 32) B o3) (own_nb (own_by x 24) B o4) (own_nb (own_by x 16) B o5) (own_nb (own_by x 8) B o6) (own_nb (own_b0 x) B o7) = p at *
  have H : ((x &&& n).toInt - (x.toInt - x.toInt % 16777216)) % 18446744073709551616 = 0 := own_hmL x (16777215 : Int64) n 24 (by decide) (by decide) hn
  have R2 := rng64 (x &&& n)
  generalize (x &&& n).toInt = r at *
  generalize x.toInt % 16777216 = z at *
  omega
theorem own_g8_41 (x n : Int64) (B o0 o1 o2 o3 o4 o5 o6 o7 : Int32) (h0 : own_max (0 : Int32) (own_min (8 : Int32) (B - o0)) = Int32.ofInt ((8 : Nat) : Int)) (h1 : own_max (0 : Int32) (own_min (8 : Int32) (B - o1)) = Int32.ofInt ((8 : Nat) : Int)) (h2 : own_max (0 : Int32) (own_min (8 : Int32) (B - o2)) = Int32.ofInt ((8 : Nat) : Int)) (h3 : own_max (0 : Int32) (own_min (8 : Int32) (B - o3)) = Int32.ofInt ((8 : Nat) : Int)) (h4 : own_max (0 : Int32) (own_min (8 : Int32) (B - o4)) = Int32.ofInt ((8 : Nat) : Int)) (h5 : own_max (0 : Int32) (own_min (8 : Int32) (B - o5)) = Int32.ofInt ((1 : Nat) : Int)) (h6 : own_max (0 : Int32) (own_min (8 : Int32) (B - o6)) = Int32.ofInt ((0 : Nat) : Int)) (h7 : own_max (0 : Int32) (own_min (8 : Int32) (B - o7)) = Int32.ofInt ((0 : Nat) : Int)) (hn : n = ~~~(8388607 : Int64)) : own_p8 (own_nb (own_by x 56) B o0) (own_nb (own_by x 48) B o1) (own_nb (own_by x 40) B o2) (own_nb (own_by x 32) B o3) (own_nb (own_by x 24) B o4) (own_nb (own_by x 16) B o5) (own_nb (own_by x 8) B o6) (own_nb (own_b0 x) B o7) = x &&& n := by
  have b0 := own_byv x 56 56 (by decide) (by decide)
  have n0 := own_nbv (own_by x 56) B o0 8 (by decide) b0.2.1 b0.2.2 h0
  have b1 := own_byv x 48 48 (by decide) (by decide)
  have n1 := own_nbv (own_by x 48) B o1 8 (by decide) b1.2.1 b1.2.2 h1
  have b2 := own_byv x 40 40 (by decide) (by decide)
  have n2 := own_nbv (own_by x 40) B o2 8 (by decide) b2.2.1 b2.2.2 h2
  have b3 := own_byv x 32 32 (by decide) (by decide)
  have n3 := own_nbv (own_by x 32) B o3 8 (by decide) b3.2.1 b3.2.2 h3
  have b4 := own_byv x 24 24 (by decide) (by decide)
  have n4 := own_nbv (own_by x 24) B o4 8 (by decide) b4.2.1 b4.2.2 h4
  have b5 := own_byv x 16 16 (by decide) (by decide)
  have n5 := own_nbv (own_by x 16) B o5 1 (by decide) b5.2.1 b5.2.2 h5
  have b6 := own_byv x 8 8 (by decide) (by decide)
  have n6 := own_nbv (own_by x 8) B o6 0 (by decide) b6.2.1 b6.2.2 h6
  have b7 := own_b0v x
  have n7 := own_nbv (own_b0 x) B o7 0 (by decide) b7.2.1 b7.2.2 h7
  have P := own_p8v (own_nb (own_by x 56) B o0) (own_nb (own_by x 48) B o1) (own_nb (own_by x 40) B o2) (own_nb (own_by x 32) B o3) (own_nb (own_by x 24) B o4) (own_nb (own_by x 16) B o5) (own_nb (own_by x 8) B o6) (own_nb (own_b0 x) B o7)
  have R1 := rng64 (own_p8 (own_nb (own_by x 56) B o0) (own_nb (own_by x 48) B o1) (own_nb (own_by x 40) B o2) (own_nb (own_by x 32) B o3) (own_nb (own_by x 24) B o4) (own_nb (own_by x 16) B o5) (own_nb (own_by x 8) B o6) (own_nb (own_b0 x) B o7))
  rw [n0, n1, n2, n3, n4, n5, n6, n7] at P
  rw [b0.1, b1.1, b2.1, b3.1, b4.1, b5.1, b6.1, b7.1] at P
  have K := own_k8_41 x.toInt (x.toInt % 18446744073709551616) _ rfl P
  clear P n0 n1 n2 n3 n4 n5 n6 n7 b0 b1 b2 b3 b4 b5 b6 b7 h0 h1 h2 h3 h4 h5 h6 h7
  apply Int64.toInt_inj.mp
  generalize own_p8 (own_nb (own_by x 56) B o0) (own_nb (own_by x 48) B o1) (own_nb (own_by x 40) B o2) (own_nb (own_by x 32) B o3) (own_nb (own_by x 24) B o4) (own_nb (own_by x 16) B o5) (own_nb (own_by x 8) B o6) (own_nb (own_b0 x) B o7) = p at *
  have H : ((x &&& n).toInt - (x.toInt - x.toInt % 8388608)) % 18446744073709551616 = 0 := own_hmL x (8388607 : Int64) n 23 (by decide) (by decide) hn
  have R2 := rng64 (x &&& n)
  generalize (x &&& n).toInt = r at *
  generalize x.toInt % 8388608 = z at *
  omega
theorem own_g8_42 (x n : Int64) (B o0 o1 o2 o3 o4 o5 o6 o7 : Int32) (h0 : own_max (0 : Int32) (own_min (8 : Int32) (B - o0)) = Int32.ofInt ((8 : Nat) : Int)) (h1 : own_max (0 : Int32) (own_min (8 : Int32) (B - o1)) = Int32.ofInt ((8 : Nat) : Int)) (h2 : own_max (0 : Int32) (own_min (8 : Int32) (B - o2)) = Int32.ofInt ((8 : Nat) : Int)) (h3 : own_max (0 : Int32) (own_min (8 : Int32) (B - o3)) = Int32.ofInt ((8 : Nat) : Int)) (h4 : own_max (0 : Int32) (own_min (8 : Int32) (B - o4)) = Int32.ofInt ((8 : Nat) : Int)) (h5 : own_max (0 : Int32) (own_min (8 : Int32) (B - o5)) = Int32.ofInt ((2 : Nat) : Int)) (h6 : own_max (0 : Int32) (own_min (8 : Int32) (B - o6)) = Int32.ofInt ((0 : Nat) : Int)) (h7 : own_max (0 : Int32) (own_min (8 : Int32) (B - o7)) = Int32.ofInt ((0 : Nat) : Int)) (hn : n = ~~~(4194303 : Int64)) : own_p8 (own_nb (own_by x 56) B o0) (own_nb (own_by x 48) B o1) (own_nb (own_by x 40) B o2) (own_nb (own_by x 32) B o3) (own_nb (own_by x 24) B o4) (own_nb (own_by x 16) B o5) (own_nb (own_by x 8) B o6) (own_nb (own_b0 x) B o7) = x &&& n := by
  have b0 := own_byv x 56 56 (by decide) (by decide)
  have n0 := own_nbv (own_by x 56) B o0 8 (by decide) b0.2.1 b0.2.2 h0
  have b1 := own_byv x 48 48 (by decide) (by decide)
  have n1 := own_nbv (own_by x 48) B o1 8 (by decide) b1.2.1 b1.2.2 h1
  have b2 := own_byv x 40 40 (by decide) (by decide)
  have n2 := own_nbv (own_by x 40) B o2 8 (by decide) b2.2.1 b2.2.2 h2
  have b3 := own_byv x 32 32 (by decide) (by decide)
  have n3 := own_nbv (own_by x 32) B o3 8 (by decide) b3.2.1 b3.2.2 h3
  have b4 := own_byv x 24 24 (by decide) (by decide)
  have n4 := own_nbv (own_by x 24) B o4 8 (by decide) b4.2.1 b4.2.2 h4
  have b5 := own_byv x 16 16 (by decide) (by decide)
  have n5 := own_nbv (own_by x 16) B o5 2 (by decide) b5.2.1 b5.2.2 h5
  have b6 := own_byv x 8 8 (by decide) (by decide)
  have n6 := own_nbv (own_by x 8) B o6 0 (by decide) b6.2.1 b6.2.2 h6
  have b7 := own_b0v x
  have n7 := own_nbv (own_b0 x) B o7 0 (by decide) b7.2.1 b7.2.2 h7
  have P := own_p8v (own_nb (own_by x 56) B o0) (own_nb (own_by x 48) B o1) (own_nb (own_by x 40) B o2) (own_nb (own_by x 32) B o3) (own_nb (own_by x 24) B o4) (own_nb (own_by x 16) B o5) (own_nb (own_by x 8) B o6) (own_nb (own_b0 x) B o7)
  have R1 := rng64 (own_p8 (own_nb (own_by x 56) B o0) (own_nb (own_by x 48) B o1) (own_nb (own_by x 40) B o2) (own_nb (own_by x 32) B o3) (own_nb (own_by x 24) B o4) (own_nb (own_by x 16) B o5) (own_nb (own_by x 8) B o6) (own_nb (own_b0 x) B o7))
  rw [n0, n1, n2, n3, n4, n5, n6, n7] at P
  rw [b0.1, b1.1, b2.1, b3.1, b4.1, b5.1, b6.1, b7.1] at P
  have K := own_k8_42 x.toInt (x.toInt % 18446744073709551616) _ rfl P
  clear P n0 n1 n2 n3 n4 n5 n6 n7 b0 b1 b2 b3 b4 b5 b6 b7 h0 h1 h2 h3 h4 h5 h6 h7
  apply Int64.toInt_inj.mp
  generalize own_p8 (own_nb (own_by x 56) B o0) (own_nb (own_by x 48) B o1) (own_nb (own_by x 40) B o2) (own_nb (own_by x 32) B o3) (own_nb (own_by x 24) B o4) (own_nb (own_by x 16) B o5) (own_nb (own_by x 8) B o6) (own_nb (own_b0 x) B o7) = p at *
  have H : ((x &&& n).toInt - (x.toInt - x.toInt % 4194304)) % 18446744073709551616 = 0 := own_hmL x (4194303 : Int64) n 22 (by decide) (by decide) hn
  have R2 := rng64 (x &&& n)
  generalize (x &&& n).toInt = r at *
  generalize x.toInt % 4194304 = z at *
  omega
theorem own_g8_43 (x n : Int64) (B o0 o1 o2 o3 o4 o5 o6 o7 : Int32) (h0 : own_max (0 : Int32) (own_min (8 : Int32) (B - o0)) = Int32.ofInt ((8 : Nat) : Int)) (h1 : own_max (0 : Int32) (own_min (8 : Int32) (B - o1)) = Int32.ofInt ((8 : Nat) : Int)) (h2 : own_max (0 : Int32) (own_min (8 : Int32) (B - o2)) = Int32.ofInt ((8 : Nat) : Int)) (h3 : own_max (0 : Int32) (own_min (8 : Int32) (B - o3)) = Int32.ofInt ((8 : Nat) : Int)) (h4 : own_max (0 : Int32) (own_min (8 : Int32) (B - o4)) = Int32.ofInt ((8 : Nat) : Int)) (h5 : own_max (0 : Int32) (own_min (8 : Int32) (B - o5)) = Int32.ofInt ((3 : Nat) : Int)) (h6 : own_max (0 : Int32) (own_min (8 : Int32) (B - o6)) = Int32.ofInt ((0 : Nat) : Int)) (h7 : own_max (0 : Int32) (own_min (8 : Int32) (B - o7)) = Int32.ofInt ((0 : Nat) : Int)) (hn : n = ~~~(2097151 : Int64)) : own_p8 (own_nb (own_by x 56) B o0) (own_nb (own_by x 48) B o1) (own_nb (own_by x 40) B o2) (own_nb (own_by x 32) B o3) (own_nb (own_by x 24) B o4) (own_nb (own_by x 16) B o5) (own_nb (own_by x 8) B o6) (own_nb (own_b0 x) B o7) = x &&& n := by
  have b0 := own_byv x 56 56 (by decide) (by decide)
  have n0 := own_nbv (own_by x 56) B o0 8 (by decide) b0.2.1 b0.2.2 h0
  have b1 := own_byv x 48 48 (by decide) (by decide)
  have n1 := own_nbv (own_by x 48) B o1 8 (by decide) b1.2.1 b1.2.2 h1
  have b2 := own_byv x 40 40 (by decide) (by decide)
  have n2 := own_nbv (own_by x 40) B o2 8 (by decide) b2.2.1 b2.2.2 h2
  have b3 := own_byv x 32 32 (by decide) (by decide)
  have n3 := own_nbv (own_by x 32) B o3 8 (by decide) b3.2.1 b3.2.2 h3
  have b4 := own_byv x 24 24 (by decide) (by decide)
  have n4 := own_nbv (own_by x 24) B o4 8 (by decide) b4.2.1 b4.2.2 h4
  have b5 := own_byv x 16 16 (by decide) (by decide)
  have n5 := own_nbv (own_by x 16) B o5 3 (by decide) b5.2.1 b5.2.2 h5
  have b6 := own_byv x 8 8 (by decide) (by decide)
  have n6 := own_nbv (own_by x 8) B o6 0 (by decide) b6.2.1 b6.2.2 h6
  have b7 := own_b0v x
  have n7 := own_nbv (own_b0 x) B o7 0 (by decide) b7.2.1 b7.2.2 h7
  have P := own_p8v (own_nb (own_by x 56) B o0) (own_nb (own_by x 48) B o1) (own_nb (own_by x 40) B o2) (own_nb (own_by x 32) B o3) (own_nb (own_by x 24) B o4) (own_nb (own_by x 16) B o5) (own_nb (own_by x 8) B o6) (own_nb (own_b0 x) B o7)
  have R1 := rng64 (own_p8 (own_nb (own_by x 56) B o0) (own_nb (own_by x 48) B o1) (own_nb (own_by x 40) B o2) (own_nb (own_by x 32) B o3) (own_nb (own_by x 24) B o4) (own_nb (own_by x 16) B o5) (own_nb (own_by x 8) B o6) (own_nb (own_b0 x) B o7))
  rw [n0, n1, n2, n3, n4, n5, n6, n7] at P
  rw [b0.1, b1.1, b2.1, b3.1, b4.1, b5.1, b6.1, b7.1] at P
  have K := own_k8_43 x.toInt (x.toInt % 18446744073709551616) _ rfl P
  clear P n0 n1 n2 n3 n4 n5 n6 n7 b0 b1 b2 b3 b4 b5 b6 b7 h0 h1 h2 h3 h4 h5 h6 h7
  apply Int64.toInt_inj.mp
  generalize own_p8 (own_nb (own_by x 56) B o0) (own_nb (own_by x 48) B o1) (own_nb (own_by x 40) B o2) (own_nb (own_by x 32) B o3) (own_nb (own_by x 24) B o4) (own_nb (own_by x 16) B o5) (own_nb (own_by x 8) B o6) (own_nb (own_b0 x) B o7) = p at *
  have H : ((x &&& n).toInt - (x.toInt - x.toInt % 2097152)) % 18446744073709551616 = 0 := own_hmL x (2097151 : Int64) n 21 (by decide) (by decide) hn
  have R2 := rng64 (x &&& n)
  generalize (x &&& n).toInt = r at *
  generalize x.toInt % 2097152 = z at *
  omega
theorem own_g8_44 (x n : Int64) (B o0 o1 o2 o3 o4 o5 o6 o7 : Int32) (h0 : own_max (0 : Int32) (own_min (8 : Int32) (B - o0)) = Int32.ofInt ((8 : Nat) : Int)) (h1 : own_max (0 : Int32) (own_min (8 : Int32) (B - o1)) = Int32.ofInt ((8 : Nat) : Int)) (h2 : own_max (0 : Int32) (own_min (8 : Int32) (B - o2)) = Int32.ofInt ((8 : Nat) : Int)) (h3 : own_max (0 : Int32) (own_min (8 : Int32) (B - o3)) = Int32.ofInt ((8 : Nat) : Int)) (h4 : own_max (0 : Int32) (own_min (8 : Int32) (B - o4)) = Int32.ofInt ((8 : Nat) : Int)) (h5 : own_max (0 : Int32) (own_min (8 : Int32) (B - o5)) = Int32.ofInt ((4 : Nat) : Int)) (h6 : own_max (0 : Int32) (own_min (8 : Int32) (B - o6)) = Int32.ofInt ((0 : Nat) : Int)) (h7 : own_max (0 : Int32) (own_min (8 : Int32) (B - o7)) = Int32.ofInt ((0 : Nat) : Int)) (hn : n = ~~~(1048575 : Int64)) : own_p8 (own_nb (own_by x 56) B o0) (own_nb (own_by x 48) B o1) (own_nb (own_by x 40) B o2) (own_nb (own_by x 32) B o3) (own_nb (own_by x 24) B o4) (own_nb (own_by x 16) B o5) (own_nb (own_by x 8) B o6) (own_nb (own_b0 x) B o7) = x &&& n := by
  have b0 := own_byv x 56 56 (by decide) (by decide)
  have n0 := own_nbv (own_by x 56) B o0 8 (by decide) b0.2.1 b0.2.2 h0
  have b1 := own_byv x 48 48 (by decide) (by decide)
  have n1 := own_nbv (own_by x 48) B o1 8 (by decide) b1.2.1 b1.2.2 h1
  have b2 := own_byv x 40 40 (by decide) (by decide)
  have n2 := own_nbv (own_by x 40) B o2 8 (by decide) b2.2.1 b2.2.2 h2
  have b3 := own_byv x 32 32 (by decide) (by decide)
  have n3 := own_nbv (own_by x 32) B o3 8 (by decide) b3.2.1 b3.2.2 h3
  have b4 := own_byv x 24 24 (by decide) (by decide)
  have n4 := own_nbv (own_by x 24) B o4 8 (by decide) b4.2.1 b4.2.2 h4
  have b5 := own_byv x 16 16 (by decide) (by decide)
  have n5 := own_nbv (own_by x 16) B o5 4 (by decide) b5.2.1 b5.2.2 h5
  have b6 := own_byv x 8 8 (by decide) (by decide)
  have n6 := own_nbv (own_by x 8) B o6 0 (by decide) b6.2.1 b6.2.2 h6
  have b7 := own_b0v x
  have n7 := own_nbv (own_b0 x) B o7 0 (by decide) b7.2.1 b7.2.2 h7
  have P := own_p8v (own_nb (own_by x 56) B o0) (own_nb (own_by x 48) B o1) (own_nb (own_by x 40) B o2) (own_nb (own_by x 32) B o3) (own_nb (own_by x 24) B o4) (own_nb (own_by x 16) B o5) (own_nb (own_by x 8) B o6) (own_nb (own_b0 x) B o7)
  have R1 := rng64 (own_p8 (own_nb (own_by x 56) B o0) (own_nb (own_by x 48) B o1) (own_nb (own_by x 40) B o2) (own_nb (own_by x 32) B o3) (own_nb (own_by x 24) B o4) (own_nb (own_by x 16) B o5) (own_nb (own_by x 8) B o6) (own_nb (own_b0 x) B o7))
  rw [n0, n1, n2, n3, n4, n5, n6, n7] at P
  rw [b0.1, b1.1, b2.1, b3.1, b4.1, b5.1, b6.1, b7.1] at P
  have K := own_k8_44 x.toInt (x.toInt % 18446744073709551616) _ rfl P
  clear P n0 n1 n2 n3 n4 n5 n6 n7 b0 b1 b2 b3 b4 b5 b6 b7 h0 h1 h2 h3 h4 h5 h6 h7
  apply Int64.toInt_inj.mp
  generalize own_p8 (own_nb (own_by x 56) B o0) (own_nb (own_by x 48) B o1) (own_nb (own_by x 40) B o2) (own_nb (own_by x 32) B o3) (own_nb (own_by x 24) B o4) (own_nb (own_by x 16) B o5) (own_nb (own_by x 8) B o6) (own_nb (own_b0 x) B o7) = p at *
  have H : ((x &&& n).toInt - (x.toInt - x.toInt % 1048576)) % 18446744073709551616 = 0 := own_hmL x (1048575 : Int64) n 20 (by decide) (by decide) hn
  have R2 := rng64 (x &&& n)
  generalize (x &&& n).toInt = r at *
  generalize x.toInt % 1048576 = z at *
  omega
theorem own_g8_45 (x n : Int64) (B o0 o1 o2 o3 o4 o5 o6 o7 : Int32) (h0 : own_max (0 : Int32) (own_min (8 : Int32) (B - o0)) = Int32.ofInt ((8 : Nat) : Int)) (h1 : own_max (0 : Int32) (own_min (8 : Int32) (B - o1)) = Int32.ofInt ((8 : Nat) : Int)) (h2 : own_max (0 : Int32) (own_min (8 : Int32) (B - o2)) = Int32.ofInt ((8 : Nat) : Int)) (h3 : own_max (0 : Int32) (own_min (8 : Int32) (B - o3)) = Int32.ofInt ((8 : Nat) : Int)) (h4 : own_max (0 : Int32) (own_min (8 : Int32) (B - o4)) = Int32.ofInt ((8 : Nat) : Int)) (h5 : own_max (0 : Int32) (own_min (8 : Int32) (B - o5)) = Int32.ofInt ((5 : Nat) : Int)) (h6 : own_max (0 : Int32) (own_min (8 : Int32) (B - o6)) = Int32.ofInt ((0 : Nat) : Int)) (h7 : own_max (0 : Int32) (own_min (8 : Int32) (B - o7)) = Int32.ofInt ((0 : Nat) : Int)) (hn : n = ~~~(524287 : Int64)) : own_p8 (own_nb (own_by x 56) B o0) (own_nb (own_by x 48) B o1) (own_nb (own_by x 40) B o2) (own_nb (own_by x 32) B o3) (own_nb (own_by x 24) B o4) (own_nb (own_by x 16) B o5) (own_nb (own_by x 8) B o6) (own_nb (own_b0 x) B o7) = x &&& n := by
  have b0 := own_byv x 56 56 (by decide) (by decide)
  have n0 := own_nbv (own_by x 56) B o0 8 (by decide) b0.2.1 b0.2.2 h0
  have b1 := own_byv x 48 48 (by decide) (by decide)
  have n1 := own_nbv (own_by x 48) B o1 8 (by decide) b1.2.1 b1.2.2 h1
  have b2 := own_byv x 40 40 (by decide) (by decide)
  have n2 := own_nbv (own_by x 40) B o2 8 (by decide) b2.2.1 b2.2.2 h2
  have b3 := own_byv x 32 32 (by decide) (by decide)
  have n3 := own_nbv (own_by x 32) B o3 8 (by decide) b3.2.1 b3.2.2 h3
  have b4 := own_byv x 24 24 (by decide) (by decide)
  have n4 := own_nbv (own_by x 24) B o4 8 (by decide) b4.2.1 b4.2.2 h4
  have b5 := own_byv x 16 16 (by decide) (by decide)
  have n5 := own_nbv (own_by x 16) B o5 5 (by decide) b5.2.1 b5.2.2 h5
  have b6 := own_byv x 8 8 (by decide) (by decide)
  have n6 := own_nbv (own_by x 8) B o6 0 (by decide) b6.2.1 b6.2.2 h6
  have b7 := own_b0v x
  have n7 := own_nbv (own_b0 x) B o7 0 (by decide) b7.2.1 b7.2.2 h7
  have P := own_p8v (own_nb (own_by x 56) B o0) (own_nb (own_by x 48) B o1) (own_nb (own_by x 40) B o2) (own_nb (own_by x 32) B o3) (own_nb (own_by x 24) B o4) (own_nb (own_by x 16) B o5) (own_nb (own_by x 8) B o6) (own_nb (own_b0 x) B o7)
  have R1 := rng64 (own_p8 (own_nb (own_by x 56) B o0) (own_nb (own_by x 48) B o1) (own_nb (own_by x 40) B o2) (own_nb (own_by x 32) B o3) (own_nb (own_by x 24) B o4) (own_nb (own_by x 16) B o5) (own_nb (own_by x 8) B o6) (own_nb (own_b0 x) B o7))
  rw [n0, n1, n2, n3, n4, n5, n6, n7] at P
  rw [b0.1, b1.1, b2.1, b3.1, b4.1, b5.1, b6.1, b7.1] at P
  have K := own_k8_45 x.toInt (x.toInt % 18446744073709551616) _ rfl P
  clear P n0 n1 n2 n3 n4 n5 n6 n7 b0 b1 b2 b3 b4 b5 b6 b7 h0 h1 h2 h3 h4 h5 h6 h7
  apply Int64.toInt_inj.mp
  generalize own_p8 (own_nb (own_by x 56) B o0) (own_nb (own_by x 48) B o1) (own_nb (own_by x 40) B o2) (own_nb (own_by x 32) B o3) (own_nb (own_by x 24) B o4) (own_nb (own_by x 16) B o5) (own_nb (own_by x 8) B o6) (own_nb (own_b0 x) B o7) = p at *
  have H : ((x &&& n).toInt - (x.toInt - x.toInt % 524288)) % 18446744073709551616 = 0 := own_hmL x (524287 : Int64) n 19 (by decide) (by decide) hn
  have R2 := rng64 (x &&& n)
  generalize (x &&& n).toInt = r at *
  generalize x.toInt % 524288 = z at *
  omega
theorem own_g8_46 (x n : Int64) (B o0 o1 o2 o3 o4 o5 o6 o7 : Int32) (h0 : own_max (0 : Int32) (own_min (8 : Int32) (B - o0)) = Int32.ofInt ((8 : Nat) : Int)) (h1 : own_max (0 : Int32) (own_min (8 : Int32) (B - o1)) = Int32.ofInt ((8 : Nat) : Int)) (h2 : own_max (0 : Int32) (own_min (8 : Int32) (B - o2)) = Int32.ofInt ((8 : Nat) : Int)) (h3 : own_max (0 : Int32) (own_min (8 : Int32) (B - o3)) = Int32.ofInt ((8 : Nat) : Int)) (h4 : own_max (0 : Int32) (own_min (8 : Int32) (B - o4)) = Int32.ofInt ((8 : Nat) : Int)) (h5 : own_max (0 : Int32) (own_min (8 : Int32) (B - o5)) = Int32.ofInt ((6 : Nat) : Int)) (h6 : own_max (0 : Int32) (own_min (8 : Int32) (B - o6)) = Int32.ofInt ((0 : Nat) : Int)) (h7 : own_max (0 : Int32) (own_min (8 : Int32) (B - o7)) = Int32.ofInt ((0 : Nat) : Int)) (hn : n = ~~~(262143 : Int64)) : own_p8 (own_nb (own_by x 56) B o0) (own_nb (own_by x 48) B o1) (own_nb (own_by x 40) B o2) (own_nb (own_by x 32) B o3) (own_nb (own_by x 24) B o4) (own_nb (own_by x 16) B o5) (own_nb (own_by x 8) B o6) (own_nb (own_b0 x) B o7) = x &&& n := by
  have b0 := own_byv x 56 56 (by decide) (by decide)
  have n0 := own_nbv (own_by x 56) B o0 8 (by decide) b0.2.1 b0.2.2 h0
  have b1 := own_byv x 48 48 (by decide) (by decide)
  have n1 := own_nbv (own_by x 48) B o1 8 (by decide) b1.2.1 b1.2.2 h1
  have b2 := own_byv x 40 40 (by decide) (by decide)
  have n2 := own_nbv (own_by x 40) B o2 8 (by decide) b2.2.1 b2.2.2 h2
  have b3 := own_byv x 32 32 (by decide) (by decide)
  have n3 := own_nbv (own_by x 32) B o3 8 (by decide) b3.2.1 b3.2.2 h3
  have b4 := own_byv x 24 24 (by decide) (by decide)
  have n4 := own_nbv (own_by x 24) B o4 8 (by decide) b4.2.1 b4.2.2 h4
  have b5 := own_byv x 16 16 (by decide) (by decide)
  have n5 := own_nbv (own_by x 16) B o5 6 (by decide) b5.2.1 b5.2.2 h5
  have b6 := own_byv x 8 8 (by decide) (by decide)
  have n6 := own_nbv (own_by x 8) B o6 0 (by decide) b6.2.1 b6.2.2 h6
  have b7 := own_b0v x
  have n7 := own_nbv (own_b0 x) B o7 0 (by decide) b7.2.1 b7.2.2 h7
  have P := own_p8v (own_nb (own_by x 56) B o0) (own_nb (own_by x 48) B o1) (own_nb (own_by x 40) B o2) (own_nb (own_by x 32) B o3) (own_nb (own_by x 24) B o4) (own_nb (own_by x 16) B o5) (own_nb (own_by x 8) B o6) (own_nb (own_b0 x) B o7)
  have R1 := rng64 (own_p8 (own_nb (own_by x 56) B o0) (own_nb (own_by x 48) B o1) (own_nb (own_by x 40) B o2) (own_nb (own_by x 32) B o3) (own_nb (own_by x 24) B o4) (own_nb (own_by x 16) B o5) (own_nb (own_by x 8) B o6) (own_nb (own_b0 x) B o7))
  rw [n0, n1, n2, n3, n4, n5, n6, n7] at P
  rw [b0.1, b1.1, b2.1, b3.1, b4.1, b5.1, b6.1, b7.1] at P
  have K := own_k8_46 x.toInt (x.toInt % 18446744073709551616) _ rfl P
  clear P n0 n1 n2 n3 n4 n5 n6 n7 b0 b1 b2 b3 b4 b5 b6 b7 h0 h1 h2 h3 h4 h5 h6 h7
  apply Int64.toInt_inj.mp
  generalize own_p8 (own_nb (own_by x 56) B o0) (own_nb (own_by x 48) B o1) (own_nb (own_by x 40) B o2) (own_nb (own_by x 32) B o3) (own_nb (own_by x 24) B o4) (own_nb (own_by x 16) B o5) (own_nb (own_by x 8) B o6) (own_nb (own_b0 x) B o7) = p at *
  have H : ((x &&& n).toInt - (x.toInt - x.toInt % 262144)) % 18446744073709551616 = 0 := own_hmL x (262143 : Int64) n 18 (by decide) (by decide) hn
  have R2 := rng64 (x &&& n)
  generalize (x &&& n).toInt = r at *
  generalize x.toInt % 262144 = z at *
  omega
theorem own_g8_47 (x n : Int64) (B o0 o1 o2 o3 o4 o5 o6 o7 : Int32) (h0 : own_max (0 : Int32) (own_min (8 : Int32) (B - o0)) = Int32.ofInt ((8 : Nat) : Int)) (h1 : own_max (0 : Int32) (own_min (8 : Int32) (B - o1)) = Int32.ofInt ((8 : Nat) : Int)) (h2 : own_max (0 : Int32) (own_min (8 : Int32) (B - o2)) = Int32.ofInt ((8 : Nat) : Int)) (h3 : own_max (0 : Int32) (own_min (8 : Int32) (B - o3)) = Int32.ofInt ((8 : Nat) : Int)) (h4 : own_max (0 : Int32) (own_min (8 : Int32) (B - o4)) = Int32.ofInt ((8 : Nat) : Int)) (h5 : own_max (0 : Int32) (own_min (8 : Int32) (B - o5)) = Int32.ofInt ((7 : Nat) : Int)) (h6 : own_max (0 : Int32) (own_min (8 : Int32) (B - o6)) = Int32.ofInt ((0 : Nat) : Int)) (h7 : own_max (0 : Int32) (own_min (8 : Int32) (B - o7)) = Int32.ofInt ((0 : Nat) : Int)) (hn : n = ~~~(131071 : Int64)) : own_p8 (own_nb (own_by x 56) B o0) (own_nb (own_by x 48) B o1) (own_nb (own_by x 40) B o2) (own_nb (own_by x 32) B o3) (own_nb (own_by x 24) B o4) (own_nb (own_by x 16) B o5) (own_nb (own_by x 8) B o6) (own_nb (own_b0 x) B o7) = x &&& n := by
  have b0 := own_byv x 56 56 (by decide) (by decide)
  have n0 := own_nbv (own_by x 56) B o0 8 (by decide) b0.2.1 b0.2.2 h0
  have b1 := own_byv x 48 48 (by decide) (by decide)
  have n1 := own_nbv (own_by x 48) B o1 8 (by decide) b1.2.1 b1.2.2 h1
  have b2 := own_byv x 40 40 (by decide) (by decide)
  have n2 := own_nbv (own_by x 40) B o2 8 (by decide) b2.2.1 b2.2.2 h2
  have b3 := own_byv x 32 32 (by decide) (by decide)
  have n3 := own_nbv (own_by x 32) B o3 8 (by decide) b3.2.1 b3.2.2 h3
  have b4 := own_byv x 24 24 (by decide) (by decide)
  have n4 := own_nbv (own_by x 24) B o4 8 (by decide) b4.2.1 b4.2.2 h4
  have b5 := own_byv x 16 16 (by decide) (by decide)
  have n5 := own_nbv (own_by x 16) B o5 7 (by decide) b5.2.1 b5.2.2 h5
  have b6 := own_byv x 8 8 (by decide) (by decide)
  have n6 := own_nbv (own_by x 8) B o6 0 (by decide) b6.2.1 b6.2.2 h6
  have b7 := own_b0v x
  have n7 := own_nbv (own_b0 x) B o7 0 (by decide) b7.2.1 b7.2.2 h7
  have P := own_p8v (own_nb (own_by x 56) B o0) (own_nb (own_by x 48) B o1) (own_nb (own_by x 40) B o2) (own_nb (own_by x 32) B o3) (own_nb (own_by x 24) B o4) (own_nb (own_by x 16) B o5) (own_nb (own_by x 8) B o6) (own_nb (own_b0 x) B o7)
  have R1 := rng64 (own_p8 (own_nb (own_by x 56) B o0) (own_nb (own_by x 48) B o1) (own_nb (own_by x 40) B o2) (own_nb (own_by x 32) B o3) (own_nb (own_by x 24) B o4) (own_nb (own_by x 16) B o5) (own_nb (own_by x 8) B o6) (own_nb (own_b0 x) B o7))
  rw [n0, n1, n2, n3, n4, n5, n6, n7] at P
  rw [b0.1, b1.1, b2.1, b3.1, b4.1, b5.1, b6.1, b7.1] at P
  have K := own_k8_47 x.toInt (x.toInt % 18446744073709551616) _ rfl P
  clear P n0 n1 n2 n3 n4 n5 n6 n7 b0 b1 b2 b3 b4 b5 b6 b7 h0 h1 h2 h3 h4 h5 h6 h7
  apply Int64.toInt_inj.mp
  generalize own_p8 (own_nb (own_by x 56) B o0) (own_nb (own_by x 48) B o1) (own_nb (own_by x 40) B o2) (own_nb (own_by x 32) B o3) (own_nb (own_by x 24) B o4) (own_nb (own_by x 16) B o5) (own_nb (own_by x 8) B o6) (own_nb (own_b0 x) B o7) = p at *
  have H : ((x &&& n).toInt - (x.toInt - x.toInt % 131072)) % 18446744073709551616 = 0 := own_hmL x (131071 : Int64) n 17 (by decide) (by decide) hn
  have R2 := rng64 (x &&& n)
  generalize (x &&& n).toInt = r at *
  generalize x.toInt % 131072 = z at *
  omega
theorem own_g8_48 (x n : Int64) (B o0 o1 o2 o3 o4 o5 o6 o7 : Int32) (h0 : own_max (0 : Int32) (own_min (8 : Int32) (B - o0)) = Int32.ofInt ((8 : Nat) : Int)) (h1 : own_max (0 : Int32) (own_min (8 : Int32) (B - o1)) = Int32.ofInt ((8 : Nat) : Int)) (h2 : own_max (0 : Int32) (own_min (8 : Int32) (B - o2)) = Int32.ofInt ((8 : Nat) : Int)) (h3 : own_max (0 : Int32) (own_min (8 : Int32) (B - o3)) = Int32.ofInt ((8 : Nat) : Int)) (h4 : own_max (0 : Int32) (own_min (8 : Int32) (B - o4)) = Int32.ofInt ((8 : Nat) : Int)) (h5 : own_max (0 : Int32) (own_min (8 : Int32) (B - o5)) = Int32.ofInt ((8 : Nat) : Int)) (h6 : own_max (0 : Int32) (own_min (8 : Int32) (B - o6)) = Int32.ofInt ((0 : Nat) : Int)) (h7 : own_max (0 : Int32) (own_min (8 : Int32) (B - o7)) = Int32.ofInt ((0 : Nat) : Int)) (hn : n = ~~~(65535 : Int64)) : own_p8 (own_nb (own_by x 56) B o0) (own_nb (own_by x 48) B o1) (own_nb (own_by x 40) B o2) (own_nb (own_by x 32) B o3) (own_nb (own_by x 24) B o4) (own_nb (own_by x 16) B o5) (own_nb (own_by x 8) B o6) (own_nb (own_b0 x) B o7) = x &&& n := by
  have b0 := own_byv x 56 56 (by decide) (by decide)
  have n0 := own_nbv (own_by x 56) B o0 8 (by decide) b0.2.1 b0.2.2 h0
  have b1 := own_byv x 48 48 (by decide) (by decide)
  have n1 := own_nbv (own_by x 48) B o1 8 (by decide) b1.2.1 b1.2.2 h1
  have b2 := own_byv x 40 40 (by decide) (by decide)
  have n2 := own_nbv (own_by x 40) B o2 8 (by decide) b2.2.1 b2.2.2 h2
  have b3 := own_byv x 32 32 (by decide) (by decide)
  have n3 := own_nbv (own_by x 32) B o3 8 (by decide) b3.2.1 b3.2.2 h3
  have b4 := own_byv x 24 24 (by decide) (by decide)
  have n4 := own_nbv (own_by x 24) B o4 8 (by decide) b4.2.1 b4.2.2 h4
  have b5 := own_byv x 16 16 (by decide) (by decide)
  have n5 := own_nbv (own_by x 16) B o5 8 (by decide) b5.2.1 b5.2.2 h5
  have b6 := own_byv x 8 8 (by decide) (by decide)
  have n6 := own_nbv (own_by x 8) B o6 0 (by decide) b6.2.1 b6.2.2 h6
  have b7 := own_b0v x
  have n7 := own_nbv (own_b0 x) B o7 0 (by decide) b7.2.1 b7.2.2 h7
  have P := own_p8v (own_nb (own_by x 56) B o0) (own_nb (own_by x 48) B o1) (own_nb (own_by x 40) B o2) (own_nb (own_by x 32) B o3) (own_nb (own_by x 24) B o4) (own_nb (own_by x 16) B o5) (own_nb (own_by x 8) B o6) (own_nb (own_b0 x) B o7)
  have R1 := rng64 (own_p8 (own_nb (own_by x 56) B o0) (own_nb (own_by x 48) B o1) (own_nb (own_by x 40) B o2) (own_nb (own_by x 32) B o3) (own_nb (own_by x 24) B o4) (own_nb (own_by x 16) B o5) (own_nb (own_by x 8) B o6) (own_nb (own_b0 x) B o7))
  rw [n0, n1, n2, n3, n4, n5, n6, n7] at P
  rw [b0.1, b1.1, b2.1, b3.1, b4.1, b5.1, b6.1, b7.1] at P
  have K := own_k8_48 x.toInt (x.toInt % 18446744073709551616) _ rfl P
  clear P n0 n1 n2 n3 n4 n5 n6 n7 b0 b1 b2 b3 b4 b5 b6 b7 h0 h1 h2 h3 h4 h5 h6 h7
  apply Int64.toInt_inj.mp
  generalize own_p8 (own_nb (own_by x 56) B o0) (own_nb (own_by x 48) B o1) (own_nb (own_by x 40) B o2) (own_nb (own_by x 32) B o3) (own_nb (own_by x 24) B o4) (own_nb (own_by x 16) B o5) (own_nb (own_by x 8) B o6) (own_nb (own_b0 x) B o7) = p at *
  have H : ((x &&& n).toInt - (x.toInt - x.toInt % 65536)) % 18446744073709551616 = 0 := own_hmL x (65535 : Int64) n 16 (by decide) (by decide) hn
  have R2 := rng64 (x &&& n)
  generalize (x &&& n).toInt = r at *
  generalize x.toInt % 65536 = z at *
  omega
theorem own_g8_49 (x n : Int64) (B o0 o1 o2 o3 o4 o5 o6 o7 : Int32) (h0 : own_max (0 : Int32) (own_min (8 : Int32) (B - o0)) = Int32.ofInt ((8 : Nat) : Int)) (h1 : own_max (0 : Int32) (own_min (8 : Int32) (B - o1)) = Int32.ofInt ((8 : Nat) : Int)) (h2 : own_max (0 : Int32) (own_min (8 : Int32) (B - o2)) = Int32.ofInt ((8 : Nat) : Int)) (h3 : own_max (0 : Int32) (own_min (8 : Int32) (B - o3)) = Int32.ofInt ((8 : Nat) : Int)) (h4 : own_max (0 : Int32) (own_min (8 : Int32) (B - o4)) = Int32.ofInt ((8 : Nat) : Int)) (h5 : own_max (0 : Int32) (own_min (8 : Int32) (B - o5)) = Int32.ofInt ((8 : Nat) : Int)) (h6 : own_max (0 : Int32) (own_min (8 : Int32) (B - o6)) = Int32.ofInt ((1 : Nat) : Int)) (h7 : own_max (0 : Int32) (own_min (8 : Int32) (B - o7)) = Int32.ofInt ((0 : Nat) : Int)) (hn : n = ~~~(32767 : Int64)) : own_p8 (own_nb (own_by x 56) B o0) (own_nb (own_by x 48) B o1) (own_nb (own_by x 40) B o2) (own_nb (own_by x 32) B o3) (own_nb (own_by x 24) B o4) (own_nb (own_by x 16) B o5) (own_nb (own_by x 8) B o6) (own_nb (own_b0 x) B o7) = x &&& n := by
  have b0 := own_byv x 56 56 (by decide) (by decide)
  have n0 := own_nbv (own_by x 56) B o0 8 (by decide) b0.2.1 b0.2.2 h0
  have b1 := own_byv x 48 48 (by decide) (by decide)
  have n1 := own_nbv (own_by x 48) B o1 8 (by decide) b1.2.1 b1.2.2 h1
  have b2 := own_byv x 40 40 (by decide) (by decide)
  have n2 := own_nbv (own_by x 40) B o2 8 (by decide) b2.2.1 b2.2.2 h2
  have b3 := own_byv x 32 32 (by decide) (by decide)
  have n3 := own_nbv (own_by x 32) B o3 8 (by decide) b3.2.1 b3.2.2 h3
  have b4 := own_byv x 24 24 (by decide) (by decide)
  have n4 := own_nbv (own_by x 24) B o4 8 (by decide) b4.2.1 b4.2.2 h4
  have b5 := own_byv x 16 16 (by decide) (by decide)
  have n5 := own_nbv (own_by x 16) B o5 8 (by decide) b5.2.1 b5.2.2 h5
  have b6 := own_byv x 8 8 (by decide) (by decide)
  have n6 := own_nbv (own_by x 8) B o6 1 (by decide) b6.2.1 b6.2.2 h6
  have b7 := own_b0v x
  have n7 := own_nbv (own_b0 x) B o7 0 (by decide) b7.2.1 b7.2.2 h7
  have P := own_p8v (own_nb (own_by x 56) B o0) (own_nb (own_by x 48) B o1) (own_nb (own_by x 40) B o2) (own_nb (own_by x 32) B o3) (own_nb (own_by x 24) B o4) (own_nb (own_by x 16) B o5) (own_nb (own_by x 8) B o6) (own_nb (own_b0 x) B o7)
  have R1 := rng64 (own_p8 (own_nb (own_by x 56) B o0) (own_nb (own_by x 48) B o1) (own_nb (own_by x 40) B o2) (own_nb (own_by x 32) B o3) (own_nb (own_by x 24) B o4) (own_nb (own_by x 16) B o5) (own_nb (own_by x 8) B o6) (own_nb (own_b0 x) B o7))
  rw [n0, n1, n2, n3, n4, n5, n6, n7] at P
  rw [b0.1, b1.1, b2.1, b3.1, b4.1, b5.1, b6.1, b7.1] at P
  have K := own_k8_49 x.toInt (x.toInt % 18446744073709551616) _ rfl P
  clear P n0 n1 n2 n3 n4 n5 n6 n7 b0 b1 b2 b3 b4 b5 b6 b7 h0 h1 h2 h3 h4 h5 h6 h7
  apply Int64.toInt_inj.mp
  generalize own_p8 (own_nb (own_by x 56) B o0) (own_nb (own_by x 48) B o1) (own_nb (own_by x 40) B o2) (own_nb (own_by x 32) B o3) (own_nb (own_by x 24) B o4) (own_nb (own_by x 16) B o5) (own_nb (own_by x 8) B o6) (own_nb (own_b0 x) B o7) = p at *
  have H : ((x &&& n).toInt - (x.toInt - x.toInt % 32768)) % 18446744073709551616 = 0 := own_hmL x (32767 : Int64) n 15 (by decide) (by decide) hn
  have R2 := rng64 (x &&& n)
  generalize (x &&& n).toInt = r at *
  generalize x.toInt % 32768 = z at *
  omega
theorem own_g8_50 (x n : Int64) (B o0 o1 o2 o3 o4 o5 o6 o7 : Int32) (h0 : own_max (0 : Int32) (own_min (8 : Int32) (B - o0)) = Int32.ofInt ((8 : Nat) : Int)) (h1 : own_max (0 : Int32) (own_min (8 : Int32) (B - o1)) = Int32.ofInt ((8 : Nat) : Int)) (h2 : own_max (0 : Int32) (own_min (8 : Int32) (B - o2)) = Int32.ofInt ((8 : Nat) : Int)) (h3 : own_max (0 : Int32) (own_min (8 : Int32) (B - o3)) = Int32.ofInt ((8 : Nat) : Int)) (h4 : own_max (0 : Int32) (own_min (8 : Int32) (B - o4)) = Int32.ofInt ((8 : Nat) : Int)) (h5 : own_max (0 : Int32) (own_min (8 : Int32) (B - o5)) = Int32.ofInt ((8 : Nat) : Int)) (h6 : own_max (0 : Int32) (own_min (8 : Int32) (B - o6)) = Int32.ofInt ((2 : Nat) : Int)) (h7 : own_max (0 : Int32) (own_min (8 : Int32) (B - o7)) = Int32.ofInt ((0 : Nat) : Int)) (hn : n = ~~~(16383 : Int64)) : own_p8 (own_nb (own_by x 56) B o0) (own_nb (own_by x 48) B o1) (own_nb (own_by x 40) B o2) (own_nb (own_by x 32) B o3) (own_nb (own_by x 24) B o4) (own_nb (own_by x 16) B o5) (own_nb (own_by x 8) B o6) (own_nb (own_b0 x) B o7) = x &&& n := by
  have b0 := own_byv x 56 56 (by decide) (by decide)
  have n0 := own_nbv (own_by x 56) B o0 8 (by decide) b0.2.1 b0.2.2 h0
  have b1 := own_byv x 48 48 (by decide) (by decide)
  have n1 := own_nbv (own_by x 48) B o1 8 (by decide) b1.2.1 b1.2.2 h1
  have b2 := own_byv x 40 40 (by decide) (by decide)
  have n2 := own_nbv (own_by x 40) B o2 8 (by decide) b2.2.1 b2.2.2 h2
  have b3 := own_byv x 32 32 (by decide) (by decide)
  have n3 := own_nbv (own_by x 32) B o3 8 (by decide) b3.2.1 b3.2.2 h3
  have b4 := own_byv x 24 24 (by decide) (by decide)
  have n4 := own_nbv (own_by x 24) B o4 8 (by decide) b4.2.1 b4.2.2 h4
  have b5 := own_byv x 16 16 (by decide) (by decide)
  have n5 := own_nbv (own_by x 16) B o5 8 (by decide) b5.2.1 b5.2.2 h5
  have b6 := own_byv x 8 8 (by decide) (by decide)
  have n6 := own_nbv (own_by x 8) B o6 2 (by decide) b6.2.1 b6.2.2 h6
  have b7 := own_b0v x
  have n7 := own_nbv (own_b0 x) B o7 0 (by decide) b7.2.1 b7.2.2 h7
  have P := own_p8v (own_nb (own_by x 56) B o0) (own_nb (own_by x 48) B o1) (own_nb (own_by x 40) B o2) (own_nb (own_by x 32) B o3) (own_nb (own_by x 24) B o4) (own_nb (own_by x 16) B o5) (own_nb (own_by x 8) B o6) (own_nb (own_b0 x) B o7)
  have R1 := rng64 (own_p8 (own_nb (own_by x 56) B o0) (own_nb (own_by x 48) B o1) (own_nb (own_by x 40) B o2) (own_nb (own_by x 32) B o3) (own_nb (own_by x 24) B o4) (own_nb (own_by x 16) B o5) (own_nb (own_by x 8) B o6) (own_nb (own_b0 x) B o7))
  rw [n0, n1, n2, n3, n4, n5, n6, n7] at P
  rw [b0.1, b1.1, b2.1, b3.1, b4.1, b5.1, b6.1, b7.1] at P
  have K := own_k8_50 x.toInt (x.toInt % 18446744073709551616) _ rfl P
  clear P n0 n1 n2 n3 n4 n5 n6 n7 b0 b1 b2 b3 b4 b5 b6 b7 h0 h1 h2 h3 h4 h5 h6 h7
  apply Int64.toInt_inj.mp
  generalize own_p8 (own_nb (own_by x 56) B o0) (own_nb (own_by x 48) B o1) (own_nb (own_by x 40) B o2) (own_nb (own_by x 32) B o3) (own_nb (own_by x 24) B o4) (own_nb (own_by x 16) B o5) (own_nb (own_by x 8) B o6) (own_nb (own_b0 x) B o7) = p at *
  have H : ((x &&& n).toInt - (x.toInt - x.toInt % 16384)) % 18446744073709551616 = 0 := own_hmL x (16383 : Int64) n 14 (by decide) (by decide) hn
  have R2 := rng64 (x &&& n)
  generalize (x &&& n).toInt = r at *
  generalize x.toInt % 16384 = z at *
  omega
theorem own_g8_51 (x n : Int64) (B o0 o1 o2 o3 o4 o5 o6 o7 : Int32) (h0 : own_max (0 : Int32) (own_min (8 : Int32) (B - o0)) = Int32.ofInt ((8 : Nat) : Int)) (h1 : own_max (0 : Int32) (own_min (8 : Int32) (B - o1)) = Int32.ofInt ((8 : Nat) : Int)) (h2 : own_max (0 : Int32) (own_min (8 : Int32) (B - o2)) = Int32.ofInt ((8 : Nat) : Int)) (h3 : own_max (0 : Int32) (own_min (8 : Int32) (B - o3)) = Int32.ofInt ((8 : Nat) : Int)) (h4 : own_max (0 : Int32) (own_min (8 : Int32) (B - o4)) = Int32.ofInt ((8 : Nat) : Int)) (h5 : own_max (0 : Int32) (own_min (8 : Int32) (B - o5)) = Int32.ofInt ((8 : Nat) : Int)) (h6 : own_max (0 : Int32) (own_min (8 : Int32) (B - o6)) = Int32.ofInt ((3 : Nat) : Int)) (h7 : own_max (0 : Int32) (own_min (8 : Int32) (B - o7)) = Int32.ofInt ((0 : Nat) : Int)) (hn : n = ~~~(8191 : Int64)) : own_p8 (own_nb (own_by x 56) B o0) (own_nb (own_by x 48) B o1) (own_nb (own_by x 40) B o2) (own_nb (own_by x 32) B o3) (own_nb (own_by x 24) B o4) (own_nb (own_by x 16) B o5) (own_nb (own_by x 8) B o6) (own_nb (own_b0 x) B o7) = x &&& n := by
  have b0 := own_byv x 56 56 (by decide) (by decide)
  have n0 := own_nbv (own_by x 56) B o0 8 (by decide) b0.2.1 b0.2.2 h0
  have b1 := own_byv x 48 48 (by decide) (by decide)
  have n1 := own_nbv (own_by x 48) B o1 8 (by decide) b1.2.1 b1.2.2 h1
  have b2 := own_byv x 40 40 (by decide) (by decide)
  have n2 := own_nbv (own_by x 40) B o2 8 (by decide) b2.2.1 b2.2.2 h2
  have b3 := own_byv x 32 32 (by decide) (by decide)
  have n3 := own_nbv (own_by x 32) B o3 8 (by decide) b3.2.1 b3.2.2 h3
  have b4 := own_byv x 24 24 (by decide) (by decide)
  have n4 := own_nbv (own_by x 24) B o4 8 (by decide) b4.2.1 b4.2.2 h4
  have b5 := own_byv x 16 16 (by decide) (by decide)
  have n5 := own_nbv (own_by x 16) B o5 8 (by decide) b5.2.1 b5.2.2 h5
  have b6 := own_byv x 8 8 (by decide) (by decide)
  have n6 := own_nbv (own_by x 8) B o6 3 (by decide) b6.2.1 b6.2.2 h6
  have b7 := own_b0v x
  have n7 := own_nbv (own_b0 x) B o7 0 (by decide) b7.2.1 b7.2.2 h7
  have P := own_p8v (own_nb (own_by x 56) B o0) (own_nb (own_by x 48) B o1) (own_nb (own_by x 40) B o2) (own_nb (own_by x 32) B o3) (own_nb (own_by x 24) B o4) (own_nb (own_by x 16) B o5) (own_nb (own_by x 8) B o6) (own_nb (own_b0 x) B o7)
  have R1 := rng64 (own_p8 (own_nb (own_by x 56) B o0) (own_nb (own_by x 48) B o1) (own_nb (own_by x 40) B o2) (own_nb (own_by x 32) B o3) (own_nb (own_by x 24) B o4) (own_nb (own_by x 16) B o5) (own_nb (own_by x 8) B o6) (own_nb (own_b0 x) B o7))
  rw [n0, n1, n2, n3, n4, n5, n6, n7] at P
  rw [b0.1, b1.1, b2.1, b3.1, b4.1, b5.1, b6.1, b7.1] at P
  have K := own_k8_51 x.toInt (x.toInt % 18446744073709551616) _ rfl P
  clear P n0 n1 n2 n3 n4 n5 n6 n7 b0 b1 b2 b3 b4 b5 b6 b7 h0 h1 h2 h3 h4 h5 h6 h7
  apply Int64.toInt_inj.mp
  generalize own_p8 (own_nb (own_by x 56) B o0) (own_nb (own_by x 48) B o1) (own_nb (own_by x 40) B o2) (own_nb (own_by x 32) B o3) (own_nb (own_by x 24) B o4) (own_nb (own_by x 16) B o5) (own_nb (own_by x 8) B o6) (own_nb (own_b0 x) B o7) = p at *
  have H : ((x &&& n).toInt - (x.toInt - x.toInt % 8192)) % 18446744073709551616 = 0 := own_hmL x (8191 : Int64) n 13 (by decide) (by decide) hn
  have R2 := rng64 (x &&& n)
  generalize (x &&& n).toInt = r at *
  generalize x.toInt % 8192 = z at *
  omega
theorem own_g8_52 (x n : Int64) (B o0 o1 o2 o3 o4 o5 o6 o7 : Int32) (h0 : own_max (0 : Int32) (own_min (8 : Int32) (B - o0)) = Int32.ofInt ((8 : Nat) : Int)) (h1 : own_max (0 : Int32) (own_min (8 : Int32) (B - o1)) = Int32.ofInt ((8 : Nat) : Int)) (h2 : own_max (0 : Int32) (own_min (8 : Int32) (B - o2)) = Int32.ofInt ((8 : Nat) : Int)) (h3 : own_max (0 : Int32) (own_min (8 : Int32) (B - o3)) = Int32.ofInt ((8 : Nat) : Int)) (h4 : own_max (0 : Int32) (own_min (8 : Int32) (B - o4)) = Int32.ofInt ((8 : Nat) : Int)) (h5 : own_max (0 : Int32) (own_min (8 : Int32) (B - o5)) = Int32.ofInt ((8 : Nat) : Int)) (h6 : own_max (0 : Int32) (own_min (8 : Int32) (B - o6)) = Int32.ofInt ((4 : Nat) : Int)) (h7 : own_max (0 : Int32) (own_min (8 : Int32) (B - o7)) = Int32.ofInt ((0 : Nat) : Int)) (hn : n = ~~~(4095 : Int64)) : own_p8 (own_nb (own_by x 56) B o0) (own_nb (own_by x 48) B o1) (own_nb (own_by x 40) B o2) (own_nb (own_by x 32) B o3) (own_nb (own_by x 24) B o4) (own_nb (own_by x 16) B o5) (own_nb (own_by x 8) B o6) (own_nb (own_b0 x) B o7) = x &&& n := by
  have b0 := own_byv x 56 56 (by decide) (by decide)
  have n0 := own_nbv (own_by x 56) B o0 8 (by decide) b0.2.1 b0.2.2 h0
  have b1 := own_byv x 48 48 (by decide) (by decide)
  have n1 := own_nbv (own_by x 48) B o1 8 (by decide) b1.2.1 b1.2.2 h1
  have b2 := own_byv x 40 40 (by decide) (by decide)
  have n2 := own_nbv (own_by x 40) B o2 8 (by decide) b2.2.1 b2.2.2 h2
  have b3 := own_byv x 32 32 (by decide) (by decide)
  have n3 := own_nbv (own_by x 32) B o3 8 (by decide) b3.2.1 b3.2.2 h3
  have b4 := own_byv x 24 24 (by decide) (by decide)
  have n4 := own_nbv (own_by x 24) B o4 8 (by decide) b4.2.1 b4.2.2 h4
  have b5 := own_byv x 16 16 (by decide) (by decide)
  have n5 := own_nbv (own_by x 16) B o5 8 (by decide) b5.2.1 b5.2.2 h5
  have b6 := own_byv x 8 8 (by decide) (by decide)
  have n6 := own_nbv (own_by x 8) B o6 4 (by decide) b6.2.1 b6.2.2 h6
  have b7 := own_b0v x
  have n7 := own_nbv (own_b0 x) B o7 0 (by decide) b7.2.1 b7.2.2 h7
  have P := own_p8v (own_nb (own_by x 56) B o0) (own_nb (own_by x 48) B o1) (own_nb (own_by x 40) B o2) (own_nb (own_by x 32) B o3) (own_nb (own_by x 24) B o4) (own_nb (own_by x 16) B o5) (own_nb (own_by x 8) B o6) (own_nb (own_b0 x) B o7)
  have R1 := rng64 (own_p8 (own_nb (own_by x 56) B o0) (own_nb (own_by x 48) B o1) (own_nb (own_by x 40) B o2) (own_nb (own_by x 32) B o3) (own_nb (own_by x 24) B o4) (own_nb (own_by x 16) B o5) (own_nb (own_by x 8) B o6) (own_nb (own_b0 x) B o7))
  rw [n0, n1, n2, n3, n4, n5, n6, n7] at P
  rw [b0.1, b1.1, b2.1, b3.1, b4.1, b5.1, b6.1, b7.1] at P
  have K := own_k8_52 x.toInt (x.toInt % 18446744073709551616) _ rfl P
  clear P n0 n1 n2 n3 n4 n5 n6 n7 b0 b1 b2 b3 b4 b5 b6 b7 h0 h1 h2 h3 h4 h5 h6 h7
  apply Int64.toInt_inj.mp
  generalize own_p8 (own_nb (own_by x 56) B o0) (own_nb (own_by x 48) B o1) (own_nb (own_by x 40) B o2) (own_nb (own_by x 32) B o3) (own_nb (own_by x 24) B o4) (own_nb (own_by x 16) B o5) (own_nb (own_by x 8) B o6) (own_nb (own_b0 x) B o7) = p at *
  have H : ((x &&& n).toInt - (x.toInt - x.toInt % 4096)) % 18446744073709551616 = 0 := own_hmL x (4095 : Int64) n 12 (by decide) (by decide) hn
  have R2 := rng64 (x &&& n)
  generalize (x &&& n).toInt = r at *
  generalize x.toInt % 4096 = z at *
  omega
theorem own_g8_53 (x n : Int64) (B o0 o1 o2 o3 o4 o5 o6 o7 : Int32) (h0 : own_max (0 : Int32) (own_min (8 : Int32) (B - o0)) = Int32.ofInt ((8 : Nat) : Int)) (h1 : own_max (0 : Int32) (own_min (8 : Int32) (B - o1)) = Int32.ofInt ((8 : Nat) : Int)) (h2 : own_max (0 : Int32) (own_min (8 : Int32) (B - o2)) = Int32.ofInt ((8 : Nat) : Int)) (h3 : own_max (0 : Int32) (own_min (8 : Int32) (B - o3)) = Int32.ofInt ((8 : Nat) : Int)) (h4 : own_max (0 : Int32) (own_min (8 : Int32) (B - o4)) = Int32.ofInt ((8 : Nat) : Int)) (h5 : own_max (0 : Int32) (own_min (8 : Int32) (B - o5)) = Int32.ofInt ((8 : Nat) : Int)) (h6 : own_max (0 : Int32) (own_min (8 : Int32) (B - o6)) = Int32.ofInt ((5 : Nat) : Int)) (h7 : own_max (0 : Int32) (own_min (8 : Int32) (B - o7)) = Int32.ofInt ((0 : Nat) : Int)) (hn : n = ~~~(2047 : Int64)) : own_p8 (own_nb (own_by x 56) B o0) (own_nb (own_by x 48) B o1) (own_nb (own_by x 40) B o2) (own_nb (own_by x 32) B o3) (own_nb (own_by x 24) B o4) (own_nb (own_by x 16) B o5) (own_nb (own_by x 8) B o6) (own_nb (own_b0 x) B o7) = x &&& n := by
  have b0 := own_byv x 56 56 (by decide) (by decide)
  have n0 := own_nbv (own_by x 56) B o0 8 (by decide) b0.2.1 b0.2.2 h0
  have b1 := own_byv x 48 48 (by decide) (by decide)
  have n1 := own_nbv (own_by x 48) B o1 8 (by decide) b1.2.1 b1.2.2 h1
  have b2 := own_byv x 40 40 (by decide) (by decide)
  have n2 := own_nbv (own_by x 40) B o2 8 (by decide) b2.2.1 b2.2.2 h2
  have b3 := own_byv x 32 32 (by decide) (by decide)
  have n3 := own_nbv (own_by x 32) B o3 8 (by decide) b3.2.1 b3.2.2 h3
  have b4 := own_byv x 24 24 (by decide) (by decide)
  have n4 := own_nbv (own_by x 24) B o4 8 (by decide) b4.2.1 b4.2.2 h4
  have b5 := own_byv x 16 16 (by decide) (by decide)
  have n5 := own_nbv (own_by x 16) B o5 8 (by decide) b5.2.1 b5.2.2 h5
  have b6 := own_byv x 8 8 (by decide) (by decide)
  have n6 := own_nbv (own_by x 8) B o6 5 (by decide) b6.2.1 b6.2.2 h6
  have b7 := own_b0v x
  have n7 := own_nbv (own_b0 x) B o7 0 (by decide) b7.2.1 b7.2.2 h7
  have P := own_p8v (own_nb (own_by x 56) B o0) (own_nb (own_by x 48) B o1) (own_nb (own_by x 40) B o2) (own_nb (own_by x 32) B o3) (own_nb (own_by x 24) B o4) (own_nb (own_by x 16) B o5) (own_nb (own_by x 8) B o6) (own_nb (own_b0 x) B o7)
  have R1 := rng64 (own_p8 (own_nb (own_by x 56) B o0) (own_nb (own_by x 48) B o1) (own_nb (own_by x 40) B o2) (own_nb (own_by x 32) B o3) (own_nb (own_by x 24) B o4) (own_nb (own_by x 16) B o5) (own_nb (own_by x 8) B o6) (own_nb (own_b0 x) B o7))
  rw [n0, n1, n2, n3, n4, n5, n6, n7] at P
  rw [b0.1, b1.1, b2.1, b3.1, b4.1, b5.1, b6.1, b7.1] at P
  have K := own_k8_53 x.toInt (x.toInt % 18446744073709551616) _ rfl P
  clear P n0 n1 n2 n3 n4 n5 n6 n7 b0 b1 b2 b3 b4 b5 b6 b7 h0 h1 h2 h3 h4 h5 h6 h7
  apply Int64.toInt_inj.mp
  generalize own_p8 (own_nb (own_by x 56) B o0) (own_nb (own_by x 48) B o1) (own_nb (own_by x 40) B o2) (own_nb (own_by x 32) B o3) (own_nb (own_by x 24) B o4) (own_nb (own_by x 16) B o5) (own_nb (own_by x 8) B o6) (own_nb (own_b0 x) B o7) = p at *
  have H : ((x &&& n).toInt - (x.toInt - x.toInt % 2048)) % 18446744073709551616 = 0 := own_hmL x (2047 : Int64) n 11 (by decide) (by decide) hn
  have R2 := rng64 (x &&& n)
  generalize (x &&& n).toInt = r at *
  generalize x.toInt % 2048 = z at *
  omega
theorem own_g8_54 (x n : Int64) (B o0 o1 o2 o3 o4 o5 o6 o7 : Int32) (h0 : own_max (0 : Int32) (own_min (8 : Int32) (B - o0)) = Int32.ofInt ((8 : Nat) : Int)) (h1 : own_max (0 : Int32) (own_min (8 : Int32) (B - o1)) = Int32.ofInt ((8 : Nat) : Int)) (h2 : own_max (0 : Int32) (own_min (8 : Int32) (B - o2)) = Int32.ofInt ((8 : Nat) : Int)) (h3 : own_max (0 : Int32) (own_min (8 : Int32) (B - o3)) = Int32.ofInt ((8 : Nat) : Int)) (h4 : own_max (0 : Int32) (own_min (8 : Int32) (B - o4)) = Int32.ofInt ((8 : Nat) : Int)) (h5 : own_max (0 : Int32) (own_min (8 : Int32) (B - o5)) = Int32.ofInt ((8 : Nat) : Int)) (h6 : own_max (0 : Int32) (own_min (8 : Int32) (B - o6)) = Int32.ofInt ((6 : Nat) : Int)) (h7 : own_max (0 : Int32) (own_min (8 : Int32) (B - o7)) = Int32.ofInt ((0 : Nat) : Int)) (hn : n = ~~~(1023 : Int64)) : own_p8 (own_nb (own_by x 56) B o0) (own_nb (own_by x 48) B o1) (own_nb (own_by x 40) B o2) (own_nb (own_by x 32) B o3) (own_nb (own_by x 24) B o4) (own_nb (own_by x 16) B o5) (own_nb (own_by x 8) B o6) (own_nb (own_b0 x) B o7) = x &&& n := by
  have b0 := own_byv x 56 56 (by decide) (by decide)
  have n0 := own_nbv (own_by x 56) B o0 8 (by decide) b0.2.1 b0.2.2 h0
  have b1 := own_byv x 48 48 (by decide) (by decide)
  have n1 := own_nbv (own_by x 48) B o1 8 (by decide) b1.2.1 b1.2.2 h1
  have b2 := own_byv x 40 40 (by decide) (by decide)
  have n2 := own_nbv (own_by x 40) B o2 8 (by decide) b2.2.1 b2.2.2 h2
  have b3 := own_byv x 32 32 (by decide) (by decide)
  have n3 := own_nbv (own_by x 32) B o3 8 (by decide) b3.2.1 b3.2.2 h3
  have b4 := own_byv x 24 24 (by decide) (by decide)
  have n4 := own_nbv (own_by x 24) B o4 8 (by decide) b4.2.1 b4.2.2 h4
  have b5 := own_byv x 16 16 (by decide) (by decide)
  have n5 := own_nbv (own_by x 16) B o5 8 (by decide) b5.2.1 b5.2.2 h5
  have b6 := own_byv x 8 8 (by decide) (by decide)
  have n6 := own_nbv (own_by x 8) B o6 6 (by decide) b6.2.1 b6.2.2 h6
  have b7 := own_b0v x
  have n7 := own_nbv (own_b0 x) B o7 0 (by decide) b7.2.1 b7.2.2 h7
  have P := own_p8v (own_nb (own_by x 56) B o0) (own_nb (own_by x 48) B o1) (own_nb (own_by x 40) B o2) (own_nb (own_by x 32) B o3) (own_nb (own_by x 24) B o4) (own_nb (own_by x 16) B o5) (own_nb (own_by x 8) B o6) (own_nb (own_b0 x) B o7)
  have R1 := rng64 (own_p8 (own_nb (own_by x 56) B o0) (own_nb (own_by x 48) B o1) (own_nb (own_by x 40) B o2) (own_nb (own_by x 32) B o3) (own_nb (own_by x 24) B o4) (own_nb (own_by x 16) B o5) (own_nb (own_by x 8) B o6) (own_nb (own_b0 x) B o7))
  rw [n0, n1, n2, n3, n4, n5, n6, n7] at P
  rw [b0.1, b1.1, b2.1, b3.1, b4.1, b5.1, b6.1, b7.1] at P
  have K := own_k8_54 x.toInt (x.toInt % 18446744073709551616) _ rfl P
  clear P n0 n1 n2 n3 n4 n5 n6 n7 b0 b1 b2 b3 b4 b5 b6 b7 h0 h1 h2 h3 h4 h5 h6 h7
  apply Int64.toInt_inj.mp
  generalize own_p8 (own_nb (own_by x 56) B o0) (own_nb (own_by x 48) B o1) (own_nb (own_by x 40) B o2) (own_nb (own_by x 32) B o3) (own_nb (own_by x 24) B o4) (own_nb (own_by x 16) B o5) (own_nb (own_by x 8) B o6) (own_nb (own_b0 x) B o7) = p at *
  have H : ((x &&& n).toInt - (x.toInt - x.toInt % 1024)) % 18446744073709551616 = 0 := own_hmL x (1023 : Int64) n 10 (by decide) (by decide) hn
  have R2 := rng64 (x &&& n)
  generalize (x &&& n).toInt = r at *
  generalize x.toInt % 1024 = z at *
  omega
theorem own_g8_55 (x n : Int64) (B o0 o1 o2 o3 o4 o5 o6 o7 : Int32) (h0 : own_max (0 : Int32) (own_min (8 : Int32) (B - o0)) = Int32.ofInt ((8 : Nat) : Int)) (h1 : own_max (0 : Int32) (own_min (8 : Int32) (B - o1)) = Int32.ofInt ((8 : Nat) : Int)) (h2 : own_max (0 : Int32) (own_min (8 : Int32) (B - o2)) = Int32.ofInt ((8 : Nat) : Int)) (h3 : own_max (0 : Int32) (own_min (8 : Int32) (B - o3)) = Int32.ofInt ((8 : Nat) : Int)) (h4 : own_max (0 : Int32) (own_min (8 : Int32) (B - o4)) = Int32.ofInt ((8 : Nat) : Int)) (h5 : own_max (0 : Int32) (own_min (8 : Int32) (B - o5)) = Int32.ofInt ((8 : Nat) : Int)) (h6 : own_max (0 : Int32) (own_min (8 : Int32) (B - o6)) = Int32.ofInt ((7 : Nat) : Int)) (h7 : own_max (0 : Int32) (own_min (8 : Int32) (B - o7)) = Int32.ofInt ((0 : Nat) : Int)) (hn : n = ~~~(511 : Int64)) : own_p8 (own_nb (own_by x 56) B o0) (own_nb (own_by x 48) B o1) (own_nb (own_by x 40) B o2) (own_nb (own_by x 32) B o3) (own_nb (own_by x 24) B o4) (own_nb (own_by x 16) B o5) (own_nb (own_by x 8) B o6) (own_nb (own_b0 x) B o7) = x &&& n := by
  have b0 := own_byv x 56 56 (by decide) (by decide)
  have n0 := own_nbv (own_by x 56) B o0 8 (by decide) b0.2.1 b0.2.2 h0
  have b1 := own_byv x 48 48 (by decide) (by decide)
  have n1 := own_nbv (own_by x 48) B o1 8 (by decide) b1.2.1 b1.2.2 h1
  have b2 := own_byv x 40 40 (by decide) (by decide)
  have n2 := own_nbv (own_by x 40) B o2 8 (by decide) b2.2.1 b2.2.2 h2
  have b3 := own_byv x 32 32 (by decide) (by decide)
  have n3 := own_nbv (own_by x 32) B o3 8 (by decide) b3.2.1 b3.2.2 h3
  have b4 := own_byv x 24 24 (by decide) (by decide)
  have n4 := own_nbv (own_by x 24) B o4 8 (by decide) b4.2.1 b4.2.2 h4
  have b5 := own_byv x 16 16 (by decide) (by decide)
  have n5 := own_nbv (own_by x 16) B o5 8 (by decide) b5.2.1 b5.2.2 h5
  have b6 := own_byv x 8 8 (by decide) (by decide)
  have n6 := own_nbv (own_by x 8) B o6 7 (by decide) b6.2.1 b6.2.2 h6
  have b7 := own_b0v x
  have n7 := own_nbv (own_b0 x) B o7 0 (by decide) b7.2.1 b7.2.2 h7
  have P := own_p8v (own_nb (own_by x 56) B o0) (own_nb (own_by x 48) B o1) (own_nb (own_by x 40) B o2) (own_nb (own_by x 32) B o3) (own_nb (own_by x 24) B o4) (own_nb (own_by x 16) B o5) (own_nb (own_by x 8) B o6) (own_nb (own_b0 x) B o7)
  have R1 := rng64 (own_p8 (own_nb (own_by x 56) B o0) (own_nb (own_by x 48) B o1) (own_nb (own_by x 40) B o2) (own_nb (own_by x 32) B o3) (own_nb (own_by x 24) B o4) (own_nb (own_by x 16) B o5) (own_nb (own_by x 8) B o6) (own_nb (own_b0 x) B o7))
  rw [n0, n1, n2, n3, n4, n5, n6, n7] at P
  rw [b0.1, b1.1, b2.1, b3.1, b4.1, b5.1, b6.1, b7.1] at P
  have K := own_k8_55 x.toInt (x.toInt % 18446744073709551616) _ rfl P
  clear P n0 n1 n2 n3 n4 n5 n6 n7 b0 b1 b2 b3 b4 b5 b6 b7 h0 h1 h2 h3 h4 h5 h6 h7
  apply Int64.toInt_inj.mp
  generalize own_p8 (own_nb (own_by x 56) B o0) (own_nb (own_by x 48) B o1) (own_nb (own_by x 40) B o2) (own_nb (own_by x 32) B o3) (own_nb (own_by x 24) B o4) (own_nb (own_by x 16) B o5) (own_nb (own_by x 8) B o6) (own_nb (own_b0 x) B o7) = p at *
  have H : ((x &&& n).toInt - (x.toInt - x.toInt % 512)) % 18446744073709551616 = 0 := own_hmL x (511 : Int64) n 9 (by decide) (by decide) hn
  have R2 := rng64 (x &&& n)
  generalize (x &&& n).toInt = r at *
  generalize x.toInt % 512 = z at *
  omega
theorem own_g8_56 (x n : Int64) (B o0 o1 o2 o3 o4 o5 o6 o7 : Int32) (h0 : own_max (0 : Int32) (own_min (8 : Int32) (B - o0)) = Int32.ofInt ((8 : Nat) : Int)) (h1 : own_max (0 : Int32) (own_min (8 : Int32) (B - o1)) = Int32.ofInt ((8 : Nat) : Int)) (h2 : own_max (0 : Int32) (own_min (8 : Int32) (B - o2)) = Int32.ofInt ((8 : Nat) : Int)) (h3 : own_max (0 : Int32) (own_min (8 : Int32) (B - o3)) = Int32.ofInt ((8 : Nat) : Int)) (h4 : own_max (0 : Int32) (own_min (8 : Int32) (B - o4)) = Int32.ofInt ((8 : Nat) : Int)) (h5 : own_max (0 : Int32) (own_min (8 : Int32) (B - o5)) = Int32.ofInt ((8 : Nat) : Int)) (h6 : own_max (0 : Int32) (own_min (8 : Int32) (B - o6)) = Int32.ofInt ((8 : Nat) : Int)) (h7 : own_max (0 : Int32) (own_min (8 : Int32) (B - o7)) = Int32.ofInt ((0 : Nat) : Int)) (hn : n = ~~~(255 : Int64)) : own_p8 (own_nb (own_by x 56) B o0) (own_nb (own_by x 48) B o1) (own_nb (own_by x 40) B o2) (own_nb (own_by x 32) B o3) (own_nb (own_by x 24) B o4) (own_nb (own_by x 16) B o5) (own_nb (own_by x 8) B o6) (own_nb (own_b0 x) B o7) = x &&& n := by
  have b0 := own_byv x 56 56 (by decide) (by decide)
  have n0 := own_nbv (own_by x 56) B o0 8 (by decide) b0.2.1 b0.2.2 h0
  have b1 := own_byv x 48 48 (by decide) (by decide)
  have n1 := own_nbv (own_by x 48) B o1 8 (by decide) b1.2.1 b1.2.2 h1
  have b2 := own_byv x 40 40 (by decide) (by decide)
  have n2 := own_nbv (own_by x 40) B o2 8 (by decide) b2.2.1 b2.2.2 h2
  have b3 := own_byv x 32 32 (by decide) (by decide)
  have n3 := own_nbv (own_by x 32) B o3 8 (by decide) b3.2.1 b3.2.2 h3
  have b4 := own_byv x 24 24 (by decide) (by decide)
  have n4 := own_nbv (own_by x 24) B o4 8 (by decide) b4.2.1 b4.2.2 h4
  have b5 := own_byv x 16 16 (by decide) (by decide)
  have n5 := own_nbv (own_by x 16) B o5 8 (by decide) b5.2.1 b5.2.2 h5
  have b6 := own_byv x 8 8 (by decide) (by decide)
  have n6 := own_nbv (own_by x 8) B o6 8 (by decide) b6.2.1 b6.2.2 h6
  have b7 := own_b0v x
  have n7 := own_nbv (own_b0 x) B o7 0 (by decide) b7.2.1 b7.2.2 h7
  have P := own_p8v (own_nb (own_by x 56) B o0) (own_nb (own_by x 48) B o1) (own_nb (own_by x 40) B o2) (own_nb (own_by x 32) B o3) (own_nb (own_by x 24) B o4) (own_nb (own_by x 16) B o5) (own_nb (own_by x 8) B o6) (own_nb (own_b0 x) B o7)
  have R1 := rng64 (own_p8 (own_nb (own_by x 56) B o0) (own_nb (own_by x 48) B o1) (own_nb (own_by x 40) B o2) (own_nb (own_by x 32) B o3) (own_nb (own_by x 24) B o4) (own_nb (own_by x 16) B o5) (own_nb (own_by x 8) B o6) (own_nb (own_b0 x) B o7))
  rw [n0, n1, n2, n3, n4, n5, n6, n7] at P
  rw [b0.1, b1.1, b2.1, b3.1, b4.1, b5.1, b6.1, b7.1] at P
  have K := own_k8_56 x.toInt (x.toInt % 18446744073709551616) _ rfl P
  clear P n0 n1 n2 n3 n4 n5 n6 n7 b0 b1 b2 b3 b4 b5 b6 b7 h0 h1 h2 h3 h4 h5 h6 h7
  apply Int64.toInt_inj.mp
  generalize own_p8 (own_nb (own_by x 56) B o0) (own_nb (own_by x 48) B o1) (own_nb (own_by x 40) B o2) (own_nb (own_by x 32) B o3) (own_nb (own_by x 24) B o4) (own_nb (own_by x 16) B o5) (own_nb (own_by x 8) B o6) (own_nb (own_b0 x) B o7) = p at *
  have H : ((x &&& n).toInt - (x.toInt - x.toInt % 256)) % 18446744073709551616 = 0 := own_hmL x (255 : Int64) n 8 (by decide) (by decide) hn
  have R2 := rng64 (x &&& n)
  generalize (x &&& n).toInt = r at *
  generalize x.toInt % 256 = z at *
  omega
theorem own_g8_57 (x n : Int64) (B o0 o1 o2 o3 o4 o5 o6 o7 : Int32) (h0 : own_max (0 : Int32) (own_min (8 : Int32) (B - o0)) = Int32.ofInt ((8 : Nat) : Int)) (h1 : own_max (0 : Int32) (own_min (8 : Int32) (B - o1)) = Int32.ofInt ((8 : Nat) : Int)) (h2 : own_max (0 : Int32) (own_min (8 : Int32) (B - o2)) = Int32.ofInt ((8 : Nat) : Int)) (h3 : own_max (0 : Int32) (own_min (8 : Int32) (B - o3)) = Int32.ofInt ((8 : Nat) : Int)) (h4 : own_max (0 : Int32) (own_min (8 : Int32) (B - o4)) = Int32.ofInt ((8 : Nat) : Int)) (h5 : own_max (0 : Int32) (own_min (8 : Int32) (B - o5)) = Int32.ofInt ((8 : Nat) : Int)) (h6 : own_max (0 : Int32) (own_min (8 : Int32) (B - o6)) = Int32.ofInt ((8 : Nat) : Int)) (h7 : own_max (0 : Int32) (own_min (8 : Int32) (B - o7)) = Int32.ofInt ((1 : Nat) : Int)) (hn : n = ~~~(127 : Int64)) : own_p8 (own_nb (own_by x 56) B o0) (own_nb (own_by x 48) B o1) (own_nb (own_by x 40) B o2) (own_nb (own_by x 32) B o3) (own_nb (own_by x 24) B o4) (own_nb (own_by x 16) B o5) (own_nb (own_by x 8) B o6) (own_nb (own_b0 x) B o7) = x &&& n := by
  have b0 := own_byv x 56 56 (by decide) (by decide)
  have n0 := own_nbv (own_by x 56) B o0 8 (by decide) b0.2.1 b0.2.2 h0
  have b1 := own_byv x 48 48 (by decide) (by decide)
  have n1 := own_nbv (own_by x 48) B o1 8 (by decide) b1.2.1 b1.2.2 h1
  have b2 := own_byv x 40 40 (by decide) (by decide)
  have n2 := own_nbv (own_by x 40) B o2 8 (by decide) b2.2.1 b2.2.2 h2
  have b3 := own_byv x 32 32 (by decide) (by decide)
  have n3 := own_nbv (own_by x 32) B o3 8 (by decide) b3.2.1 b3.2.2 h3
  have b4 := own_byv x 24 24 (by decide) (by decide)
  have n4 := own_nbv (own_by x 24) B o4 8 (by decide) b4.2.1 b4.2.2 h4
  have b5 := own_byv x 16 16 (by decide) (by decide)
  have n5 := own_nbv (own_by x 16) B o5 8 (by decide) b5.2.1 b5.2.2 h5
  have b6 := own_byv x 8 8 (by decide) (by decide)
  have n6 := own_nbv (own_by x 8) B o6 8 (by decide) b6.2.1 b6.2.2 h6
  have b7 := own_b0v x
  have n7 := own_nbv (own_b0 x) B o7 1 (by decide) b7.2.1 b7.2.2 h7
  have P := own_p8v (own_nb (own_by x 56) B o0) (own_nb (own_by x 48) B o1) (own_nb (own_by x 40) B o2) (own_nb (own_by x 32) B o3) (own_nb (own_by x 24) B o4) (own_nb (own_by x 16) B o5) (own_nb (own_by x 8) B o6) (own_nb (own_b0 x) B o7)
  have R1 := rng64 (own_p8 (own_nb (own_by x 56) B o0) (own_nb (own_by x 48) B o1) (own_nb (own_by x 40) B o2) (own_nb (own_by x 32) B o3) (own_nb (own_by x 24) B o4) (own_nb (own_by x 16) B o5) (own_nb (own_by x 8) B o6) (own_nb (own_b0 x) B o7))
  rw [n0, n1, n2, n3, n4, n5, n6, n7] at P
  rw [b0.1, b1.1, b2.1, b3.1, b4.1, b5.1, b6.1, b7.1] at P
  have K := own_k8_57 x.toInt (x.toInt % 18446744073709551616) _ rfl P
  clear P n0 n1 n2 n3 n4 n5 n6 n7 b0 b1 b2 b3 b4 b5 b6 b7 h0 h1 h2 h3 h4 h5 h6 h7
  apply Int64.toInt_inj.mp
  generalize own_p8 (own_nb (own_by x 56) B o0) (own_nb (own_by x 48) B o1) (own_nb (own_by x 40) B o2) (own_nb (own_by x 32) B o3) (own_nb (own_by x 24) B o4) (own_nb (own_by x 16) B o5) (own_nb (own_by x 8) B o6) (own_nb (own_b0 x) B o7) = p at *
  have H : ((x &&& n).toInt - (x.toInt - x.toInt % 128)) % 18446744073709551616 = 0 := own_hmL x (127 : Int64) n 7 (by decide) (by decide) hn
  have R2 := rng64 (x &&& n)
  generalize (x &&& n).toInt = r at *
  generalize x.toInt % 128 = z at *
  omega
theorem own_g8_58 (x n : Int64) (B o0 o1 o2 o3 o4 o5 o6 o7 : Int32) (h0 : own_max (0 : Int32) (own_min (8 : Int32) (B - o0)) = Int32.ofInt ((8 : Nat) : Int)) (h1 : own_max (0 : Int32) (own_min (8 : Int32) (B - o1)) = Int32.ofInt ((8 : Nat) : Int)) (h2 : own_max (0 : Int32) (own_min (8 : Int32) (B - o2)) = Int32.ofInt ((8 : Nat) : Int)) (h3 : own_max (0 : Int32) (own_min (8 : Int32) (B - o3)) = Int32.ofInt ((8 : Nat) : Int)) (h4 : own_max (0 : Int32) (own_min (8 : Int32) (B - o4)) = Int32.ofInt ((8 : Nat) : Int)) (h5 : own_max (0 : Int32) (own_min (8 : Int32) (B - o5)) = Int32.ofInt ((8 : Nat) : Int)) (h6 : own_max (0 : Int32) (own_min (8 : Int32) (B - o6)) = Int32.ofInt ((8 : Nat) : Int)) (h7 : own_max (0 : Int32) (own_min (8 : Int32) (B - o7)) = Int32.ofInt ((2 : Nat) : Int)) (hn : n = ~~~(63 : Int64)) : own_p8 (own_nb (own_by x 56) B o0) (own_nb (own_by x 48) B o1) (own_nb (own_by x 40) B o2) (own_nb (own_by x 32) B o3) (own_nb (own_by x 24) B o4) (own_nb (own_by x 16) B o5) (own_nb (own_by x 8) B o6) (own_nb (own_b0 x) B o7) = x &&& n := by
  have b0 := own_byv x 56 56 (by decide) (by decide)
  have n0 := own_nbv (own_by x 56) B o0 8 (by decide) b0.2.1 b0.2.2 h0
  have b1 := own_byv x 48 48 (by decide) (by decide)
  have n1 := own_nbv (own_by x 48) B o1 8 (by decide) b1.2.1 b1.2.2 h1
  have b2 := own_byv x 40 40 (by decide) (by decide)
  have n2 := own_nbv (own_by x 40) B o2 8 (by decide) b2.2.1 b2.2.2 h2
  have b3 := own_byv x 32 32 (by decide) (by decide)
  have n3 := own_nbv (own_by x 32) B o3 8 (by decide) b3.2.1 b3.2.2 h3
  have b4 := own_byv x 24 24 (by decide) (by decide)
  have n4 := own_nbv (own_by x 24) B o4 8 (by decide) b4.2.1 b4.2.2 h4
  have b5 := own_byv x 16 16 (by decide) (by decide)
  have n5 := own_nbv (own_by x 16) B o5 8 (by decide) b5.2.1 b5.2.2 h5
  have b6 := own_byv x 8 8 (by decide) (by decide)
  have n6 := own_nbv (own_by x 8) B o6 8 (by decide) b6.2.1 b6.2.2 h6
  have b7 := own_b0v x
  have n7 := own_nbv (own_b0 x) B o7 2 (by decide) b7.2.1 b7.2.2 h7
  have P := own_p8v (own_nb (own_by x 56) B o0) (own_nb (own_by x 48) B o1) (own_nb (own_by x 40) B o2) (own_nb (own_by x 32) B o3) (own_nb (own_by x 24) B o4) (own_nb (own_by x 16) B o5) (own_nb (own_by x 8) B o6) (own_nb (own_b0 x) B o7)
  have R1 := rng64 (own_p8 (own_nb (own_by x 56) B o0) (own_nb (own_by x 48) B o1) (own_nb (own_by x 40) B o2) (own_nb (own_by x 32) B o3) (own_nb (own_by x 24) B o4) (own_nb (own_by x 16) B o5) (own_nb (own_by x 8) B o6) (own_nb (own_b0 x) B o7))
  rw [n0, n1, n2, n3, n4, n5, n6, n7] at P
  rw [b0.1, b1.1, b2.1, b3.1, b4.1, b5.1, b6.1, b7.1] at P
  have K := own_k8_58 x.toInt (x.toInt % 18446744073709551616) _ rfl P
  clear P n0 n1 n2 n3 n4 n5 n6 n7 b0 b1 b2 b3 b4 b5 b6 b7 h0 h1 h2 h3 h4 h5 h6 h7
  apply Int64.toInt_inj.mp
  generalize own_p8 (own_nb (own_by x 56) B o0) (own_nb (own_by x 48) B o1) (own_nb (own_by x 40) B o2) (own_nb (own_by x 32) B o3) (own_nb (own_by x 24) B o4) (own_nb (own_by x 16) B o5) (own_nb (own_by x 8) B o6) (own_nb (own_b0 x) B o7) = p at *
  have H : ((x &&& n).toInt - (x.toInt - x.toInt % 64)) % 18446744073709551616 = 0 := own_hmL x (63 : Int64) n 6 (by decide) (by decide) hn
  have R2 := rng64 (x &&& n)
  generalize (x &&& n).toInt = r at *
  generalize x.toInt % 64 = z at *
  omega
theorem own_g8_59 (x n : Int64) (B o0 o1 o2 o3 o4 o5 o6 o7 : Int32) (h0 : own_max (0 : Int32) (own_min (8 : Int32) (B - o0)) = Int32.ofInt ((8 : Nat) : Int)) (h1 : own_max (0 : Int32) (own_min (8 : Int32) (B - o1)) = Int32.ofInt ((8 : Nat) : Int)) (h2 : own_max (0 : Int32) (own_min (8 : Int32) (B - o2)) = Int32.ofInt ((8 : Nat) : Int)) (h3 : own_max (0 : Int32) (own_min (8 : Int32) (B - o3)) = Int32.ofInt ((8 : Nat) : Int)) (h4 : own_max (0 : Int32) (own_min (8 : Int32) (B - o4)) = Int32.ofInt ((8 : Nat) : Int)) (h5 : own_max (0 : Int32) (own_min (8 : Int32) (B - o5)) = Int32.ofInt ((8 : Nat) : Int)) (h6 : own_max (0 : Int32) (own_min (8 : Int32) (B - o6)) = Int32.ofInt ((8 : Nat) : Int)) (h7 : own_max (0 : Int32) (own_min (8 : Int32) (B - o7)) = Int32.ofInt ((3 : Nat) : Int)) (hn : n = ~~~(31 : Int64)) : own_p8 (own_nb (own_by x 56) B o0) (own_nb (own_by x 48) B o1) (own_nb (own_by x 40) B o2) (own_nb (own_by x 32) B o3) (own_nb (own_by x 24) B o4) (own_nb (own_by x 16) B o5) (own_nb (own_by x 8) B o6) (own_nb (own_b0 x) B o7) = x &&& n := by
  have b0 := own_byv x 56 56 (by decide) (by decide)
  have n0 := own_nbv (own_by x 56) B o0 8 (by decide) b0.2.1 b0.2.2 h0
  have b1 := own_byv x 48 48 (by decide) (by decide)
  have n1 := own_nbv (own_by x 48) B o1 8 (by decide) b1.2.1 b1.2.2 h1
  have b2 := own_byv x 40 40 (by decide) (by decide)
  have n2 := own_nbv (own_by x 40) B o2 8 (by decide) b2.2.1 b2.2.2 h2
  have b3 := own_byv x 32 32 (by decide) (by decide)
  have n3 := own_nbv (own_by x 32) B o3 8 (by decide) b3.2.1 b3.2.2 h3
  have b4 := own_byv x 24 24 (by decide) (by decide)
  have n4 := own_nbv (own_by x 24) B o4 8 (by decide) b4.2.1 b4.2.2 h4
  have b5 := own_byv x 16 16 (by decide) (by decide)
  have n5 := own_nbv (own_by x 16) B o5 8 (by decide) b5.2.1 b5.2.2 h5
  have b6 := own_byv x 8 8 (by decide) (by decide)
  have n6 := own_nbv (own_by x 8) B o6 8 (by decide) b6.2.1 b6.2.2 h6
  have b7 := own_b0v x
  have n7 := own_nbv (own_b0 x) B o7 3 (by decide) b7.2.1 b7.2.2 h7
  have P := own_p8v (own_nb (own_by x 56) B o0) (own_nb (own_by x 48) B o1) (own_nb (own_by x 40) B o2) (own_nb (own_by x 32) B o3) (own_nb (own_by x 24) B o4) (own_nb (own_by x 16) B o5) (own_nb (own_by x 8) B o6) (own_nb (own_b0 x) B o7)
  have R1 := rng64 (own_p8 (own_nb (own_by x 56) B o0) (own_nb (own_by x 48) B o1) (own_nb (own_by x 40) B o2) (own_nb (own_by x 32) B o3) (own_nb (own_by x 24) B o4) (own_nb (own_by x 16) B o5) (own_nb (own_by x 8) B o6) (own_nb (own_b0 x) B o7))
  rw [n0, n1, n2, n3, n4, n5, n6, n7] at P
  rw [b0.1, b1.1, b2.1, b3.1, b4.1, b5.1, b6.1, b7.1] at P
  have K := own_k8_59 x.toInt (x.toInt % 18446744073709551616) _ rfl P
  clear P n0 n1 n2 n3 n4 n5 n6 n7 b0 b1 b2 b3 b4 b5 b6 b7 h0 h1 h2 h3 h4 h5 h6 h7
  apply Int64.toInt_inj.mp
  generalize own_p8 (own_nb (own_by x 56) B o0) (own_nb (own_by x 48) B o1) (own_nb (own_by x 40) B o2) (own_nb (own_by x 32) B o3) (own_nb (own_by x 24) B o4) (own_nb (own_by x 16) B o5) (own_nb (own_by x 8) B o6) (own_nb (own_b0 x) B o7) = p at *
  have H : ((x &&& n).toInt - (x.toInt - x.toInt % 32)) % 18446744073709551616 = 0 := own_hmL x (31 : Int64) n 5 (by decide) (by decide) hn
  have R2 := rng64 (x &&& n)
  generalize (x &&& n).toInt = r at *
  generalize x.toInt % 32 = z at *
  omega
theorem own_g8_60 (x n : Int64) (B o0 o1 o2 o3 o4 o5 o6 o7 : Int32) (h0 : own_max (0 : Int32) (own_min (8 : Int32) (B - o0)) = Int32.ofInt ((8 : Nat) : Int)) (h1 : own_max (0 : Int32) (own_min (8 : Int32) (B - o1)) = Int32.ofInt ((8 : Nat) : Int)) (h2 : own_max (0 : Int32) (own_min (8 : Int32) (B - o2)) = Int32.ofInt ((8 : Nat) : Int)) (h3 : own_max (0 : Int32) (own_min (8 : Int32) (B - o3)) = Int32.ofInt ((8 : Nat) : Int)) (h4 : own_max (0 : Int32) (own_min (8 : Int32) (B - o4)) = Int32.ofInt ((8 : Nat) : Int)) (h5 : own_max (0 : Int32) (own_min (8 : Int32) (B - o5)) = Int32.ofInt ((8 : Nat) : Int)) (h6 : own_max (0 : Int32) (own_min (8 : Int32) (B - o6)) = Int32.ofInt ((8 : Nat) : Int)) (h7 : own_max (0 : Int32) (own_min (8 : Int32) (B - o7)) = Int32.ofInt ((4 : Nat) : Int)) (hn : n = ~~~(15 : Int64)) : own_p8 (own_nb (own_by x 56) B o0) (own_nb (own_by x 48) B o1) (own_nb (own_by x 40) B o2) (own_nb (own_by x 32) B o3) (own_nb (own_by x 24) B o4) (own_nb (own_by x 16) B o5) (own_nb (own_by x 8) B o6) (own_nb (own_b0 x) B o7) = x &&& n := by
  have b0 := own_byv x 56 56 (by decide) (by decide)
  have n0 := own_nbv (own_by x 56) B o0 8 (by decide) b0.2.1 b0.2.2 h0
  have b1 := own_byv x 48 48 (by decide) (by decide)
  have n1 := own_nbv (own_by x 48) B o1 8 (by decide) b1.2.1 b1.2.2 h1
  have b2 := own_byv x 40 40 (by decide) (by decide)
  have n2 := own_nbv (own_by x 40) B o2 8 (by decide) b2.2.1 b2.2.2 h2
  have b3 := own_byv x 32 32 (by decide) (by decide)
  have n3 := own_nbv (own_by x 32) B o3 8 (by decide) b3.2.1 b3.2.2 h3
  have b4 := own_byv x 24 24 (by decide) (by decide)
  have n4 := own_nbv (own_by x 24) B o4 8 (by decide) b4.2.1 b4.2.2 h4
  have b5 := own_byv x 16 16 (by decide) (by decide)
  have n5 := own_nbv (own_by x 16) B o5 8 (by decide) b5.2.1 b5.2.2 h5
  have b6 := own_byv x 8 8 (by decide) (by decide)
  have n6 := own_nbv (own_by x 8) B o6 8 (by decide) b6.2.1 b6.2.2 h6
  have b7 := own_b0v x
  have n7 := own_nbv (own_b0 x) B o7 4 (by decide) b7.2.1 b7.2.2 h7
  have P := own_p8v (own_nb (own_by x 56) B o0) (own_nb (own_by x 48) B o1) (own_nb (own_by x 40) B o2) (own_nb (own_by x 32) B o3) (own_nb (own_by x 24) B o4) (own_nb (own_by x 16) B o5) (own_nb (own_by x 8) B o6) (own_nb (own_b0 x) B o7)
  have R1 := rng64 (own_p8 (own_nb (own_by x 56) B o0) (own_nb (own_by x 48) B o1) (own_nb (own_by x 40) B o2) (own_nb (own_by x 32) B o3) (own_nb (own_by x 24) B o4) (own_nb (own_by x 16) B o5) (own_nb (own_by x 8) B o6) (own_nb (own_b0 x) B o7))
  rw [n0, n1, n2, n3, n4, n5, n6, n7] at P
  rw [b0.1, b1.1, b2.1, b3.1, b4.1, b5.1, b6.1, b7.1] at P
  have K := own_k8_60 x.toInt (x.toInt % 18446744073709551616) _ rfl P
  clear P n0 n1 n2 n3 n4 n5 n6 n7 b0 b1 b2 b3 b4 b5 b6 b7 h0 h1 h2 h3 h4 h5 h6 h7
  apply Int64.toInt_inj.mp
  generalize own_p8 (own_nb (own_by x 56) B o0) (own_nb (own_by x 48) B o1) (own_nb (own_by x 40) B o2) (own_nb (own_by x 32) B o3) (own_nb (own_by x 24) B o4) (own_nb (own_by x 16) B o5) (own_nb (own_by x 8) B o6) (own_nb (own_b0 x) B o7) = p at *
  have H : ((x &&& n).toInt - (x.toInt - x.toInt % 16)) % 18446744073709551616 = 0 := own_hmL x (15 : Int64) n 4 (by decide) (by decide) hn
  have R2 := rng64 (x &&& n)
  generalize (x &&& n).toInt = r at *
  generalize x.toInt % 16 = z at *
  omega
theorem own_g8_61 (x n : Int64) (B o0 o1 o2 o3 o4 o5 o6 o7 : Int32) (h0 : own_max (0 : Int32) (own_min (8 : Int32) (B - o0)) = Int32.ofInt ((8 : Nat) : Int)) (h1 : own_max (0 : Int32) (own_min (8 : Int32) (B - o1)) = Int32.ofInt ((8 : Nat) : Int)) (h2 : own_max (0 : Int32) (own_min (8 : Int32) (B - o2)) = Int32.ofInt ((8 : Nat) : Int)) (h3 : own_max (0 : Int32) (own_min (8 : Int32) (B - o3)) = Int32.ofInt ((8 : Nat) : Int)) (h4 : own_max (0 : Int32) (own_min (8 : Int32) (B - o4)) = Int32.ofInt ((8 : Nat) : Int)) (h5 : own_max (0 : Int32) (own_min (8 : Int32) (B - o5)) = Int32.ofInt ((8 : Nat) : Int)) (h6 : own_max (0 : Int32) (own_min (8 : Int32) (B - o6)) = Int32.ofInt ((8 : Nat) : Int)) (h7 : own_max (0 : Int32) (own_min (8 : Int32) (B - o7)) = Int32.ofInt ((5 : Nat) : Int)) (hn : n = ~~~(7 : Int64)) : own_p8 (own_nb (own_by x 56) B o0) (own_nb (own_by x 48) B o1) (own_nb (own_by x 40) B o2) (own_nb (own_by x 32) B o3) (own_nb (own_by x 24) B o4) (own_nb (own_by x 16) B o5) (own_nb (own_by x 8) B o6) (own_nb (own_b0 x) B o7) = x &&& n := by
  have b0 := own_byv x 56 56 (by decide) (by decide)
  have n0 := own_nbv (own_by x 56) B o0 8 (by decide) b0.2.1 b0.2.2 h0
  have b1 := own_byv x 48 48 (by decide) (by decide)
  have n1 := own_nbv (own_by x 48) B o1 8 (by decide) b1.2.1 b1.2.2 h1
  have b2 := own_byv x 40 40 (by decide) (by decide)
  have n2 := own_nbv (own_by x 40) B o2 8 (by decide) b2.2.1 b2.2.2 h2
  have b3 := own_byv x 32 32 (by decide) (by decide)
  have n3 := own_nbv (own_by x 32) B o3 8 (by decide) b3.2.1 b3.2.2 h3
  have b4 := own_byv x 24 24 (by decide) (by decide)
  have n4 := own_nbv (own_by x 24) B o4 8 (by decide) b4.2.1 b4.2.2 h4
  have b5 := own_byv x 16 16 (by decide) (by decide)
  have n5 := own_nbv (own_by x 16) B o5 8 (by decide) b5.2.1 b5.2.2 h5
  have b6 := own_byv x 8 8 (by decide) (by decide)
  have n6 := own_nbv (own_by x 8) B o6 8 (by decide) b6.2.1 b6.2.2 h6
  have b7 := own_b0v x
  have n7 := own_nbv (own_b0 x) B o7 5 (by decide) b7.2.1 b7.2.2 h7
  have P := own_p8v (own_nb (own_by x 56) B o0) (own_nb (own_by x 48) B o1) (own_nb (own_by x 40) B o2) (own_nb (own_by x 32) B o3) (own_nb (own_by x 24) B o4) (own_nb (own_by x 16) B o5) (own_nb (own_by x 8) B o6) (own_nb (own_b0 x) B o7)
  have R1 := rng64 (own_p8 (own_nb (own_by x 56) B o0) (own_nb (own_by x 48) B o1) (own_nb (own_by x 40) B o2) (own_nb (own_by x 32) B o3) (own_nb (own_by x 24) B o4) (own_nb (own_by x 16) B o5) (own_nb (own_by x 8) B o6) (own_nb (own_b0 x) B o7))
  rw [n0, n1, n2, n3, n4, n5, n6, n7] at P
  rw [b0.1, b1.1, b2.1, b3.1, b4.1, b5.1, b6.1, b7.1] at P
  have K := own_k8_61 x.toInt (x.toInt % 18446744073709551616) _ rfl P
  clear P n0 n1 n2 n3 n4 n5 n6 n7 b0 b1 b2 b3 b4 b5 b6 b7 h0 h1 h2 h3 h4 h5 h6 h7
  apply Int64.toInt_inj.mp
  generalize own_p8 (own_nb (own_by x 56) B o0) (own_nb (own_by x 48) B o1) (own_nb (own_by x 40) B o2) (own_nb (own_by x 32) B o3) (own_nb (own_by x 24) B o4) (own_nb (own_by x 16) B o5) (own_nb (own_by x 8) B o6) (own_nb (own_b0 x) B o7) = p at *
  have H : ((x &&& n).toInt - (x.toInt - x.toInt % 8)) % 18446744073709551616 = 0 := own_hmL x (7 : Int64) n 3 (by decide) (by decide) hn
  have R2 := rng64 (x &&& n)
  generalize (x &&& n).toInt = r at *
  generalize x.toInt % 8 = z at *
  omega
theorem own_g8_62 (x n : Int64) (B o0 o1 o2 o3 o4 o5 o6 o7 : Int32) (h0 : own_max (0 : Int32) (own_min (8 : Int32) (B - o0)) = Int32.ofInt ((8 : Nat) : Int)) (h1 : own_max (0 : Int32) (own_min (8 : Int32) (B - o1)) = Int32.ofInt ((8 : Nat) : Int)) (h2 : own_max (0 : Int32) (own_min (8 : Int32) (B - o2)) = Int32.ofInt ((8 : Nat) : Int)) (h3 : own_max (0 : Int32) (own_min (8 : Int32) (B - o3)) = Int32.ofInt ((8 : Nat) : Int)) (h4 : own_max (0 : Int32) (own_min (8 : Int32) (B - o4)) = Int32.ofInt ((8 : Nat) : Int)) (h5 : own_max (0 : Int32) (own_min (8 : Int32) (B - o5)) = Int32.ofInt ((8 : Nat) : Int)) (h6 : own_max (0 : Int32) (own_min (8 : Int32) (B - o6)) = Int32.ofInt ((8 : Nat) : Int)) (h7 : own_max (0 : Int32) (own_min (8 : Int32) (B - o7)) = Int32.ofInt ((6 : Nat) : Int)) (hn : n = ~~~(3 : Int64)) : own_p8 (own_nb (own_by x 56) B o0) (own_nb (own_by x 48) B o1) (own_nb (own_by x 40) B o2) (own_nb (own_by x 32) B o3) (own_nb (own_by x 24) B o4) (own_nb (own_by x 16) B o5) (own_nb (own_by x 8) B o6) (own_nb (own_b0 x) B o7) = x &&& n := by
  have b0 := own_byv x 56 56 (by decide) (by decide)
  have n0 := own_nbv (own_by x 56) B o0 8 (by decide) b0.2.1 b0.2.2 h0
  have b1 := own_byv x 48 48 (by decide) (by decide)
  have n1 := own_nbv (own_by x 48) B o1 8 (by decide) b1.2.1 b1.2.2 h1
  have b2 := own_byv x 40 40 (by decide) (by decide)
  have n2 := own_nbv (own_by x 40) B o2 8 (by decide) b2.2.1 b2.2.2 h2
  have b3 := own_byv x 32 32 (by decide) (by decide)
  have n3 := own_nbv (own_by x 32) B o3 8 (by decide) b3.2.1 b3.2.2 h3
  have b4 := own_byv x 24 24 (by decide) (by decide)
  have n4 := own_nbv (own_by x 24) B o4 8 (by decide) b4.2.1 b4.2.2 h4
  have b5 := own_byv x 16 16 (by decide) (by decide)
  have n5 := own_nbv (own_by x 16) B o5 8 (by decide) b5.2.1 b5.2.2 h5
  have b6 := own_byv x 8 8 (by decide) (by decide)
  have n6 := own_nbv (own_by x 8) B o6 8 (by decide) b6.2.1 b6.2.2 h6
  have b7 := own_b0v x
  have n7 := own_nbv (own_b0 x) B o7 6 (by decide) b7.2.1 b7.2.2 h7
  have P := own_p8v (own_nb (own_by x 56) B o0) (own_nb (own_by x 48) B o1) (own_nb (own_by x 40) B o2) (own_nb (own_by x 32) B o3) (own_nb (own_by x 24) B o4) (own_nb (own_by x 16) B o5) (own_nb (own_by x 8) B o6) (own_nb (own_b0 x) B o7)
  have R1 := rng64 (own_p8 (own_nb (own_by x 56) B o0) (own_nb (own_by x 48) B o1) (own_nb (own_by x 40) B o2) (own_nb (own_by x 32) B o3) (own_nb (own_by x 24) B o4) (own_nb (own_by x 16) B o5) (own_nb (own_by x 8) B o6) (own_nb (own_b0 x) B o7))
  rw [n0, n1, n2, n3, n4, n5, n6, n7] at P
  rw [b0.1, b1.1, b2.1, b3.1, b4.1, b5.1, b6.1, b7.1] at P
  have K := own_k8_62 x.toInt (x.toInt % 18446744073709551616) _ rfl P
  clear P n0 n1 n2 n3 n4 n5 n6 n7 b0 b1 b2 b3 b4 b5 b6 b7 h0 h1 h2 h3 h4 h5 h6 h7
  apply Int64.toInt_inj.mp
  generalize own_p8 (own_nb (own_by x 56) B o0) (own_nb (own_by x 48) B o1) (own_nb (own_by x 40) B o2) (own_nb (own_by x 32) B o3) (own_nb (own_by x 24) B o4) (own_nb (own_by x 16) B o5) (own_nb (own_by x 8) B o6) (own_nb (own_b0 x) B o7) = p at *
  have H : ((x &&& n).toInt - (x.toInt - x.toInt % 4)) % 18446744073709551616 = 0 := own_hmL x (3 : Int64) n 2 (by decide) (by decide) hn
  have R2 := rng64 (x &&& n)
  generalize (x &&& n).toInt = r at *
  generalize x.toInt % 4 = z at *
  omega
theorem own_g8_63 (x n : Int64) (B o0 o1 o2 o3 o4 o5 o6 o7 : Int32) (h0 : own_max (0 : Int32) (own_min (8 : Int32) (B - o0)) = Int32.ofInt ((8 : Nat) : Int)) (h1 : own_max (0 : Int32) (own_min (8 : Int32) (B - o1)) = Int32.ofInt ((8 : Nat) : Int)) (h2 : own_max (0 : Int32) (own_min (8 : Int32) (B - o2)) = Int32.ofInt ((8 : Nat) : Int)) (h3 : own_max (0 : Int32) (own_min (8 : Int32) (B - o3)) = Int32.ofInt ((8 : Nat) : Int)) (h4 : own_max (0 : Int32) (own_min (8 : Int32) (B - o4)) = Int32.ofInt ((8 : Nat) : Int)) (h5 : own_max (0 : Int32) (own_min (8 : Int32) (B - o5)) = Int32.ofInt ((8 : Nat) : Int)) (h6 : own_max (0 : Int32) (own_min (8 : Int32) (B - o6)) = Int32.ofInt ((8 : Nat) : Int)) (h7 : own_max (0 : Int32) (own_min (8 : Int32) (B - o7)) = Int32.ofInt ((7 : Nat) : Int)) (hn : n = ~~~(1 : Int64)) : own_p8 (own_nb (own_by x 56) B o0) (own_nb (own_by x 48) B o1) (own_nb (own_by x 40) B o2) (own_nb (own_by x 32) B o3) (own_nb (own_by x 24) B o4) (own_nb (own_by x 16) B o5) (own_nb (own_by x 8) B o6) (own_nb (own_b0 x) B o7) = x &&& n := by
  have b0 := own_byv x 56 56 (by decide) (by decide)
  have n0 := own_nbv (own_by x 56) B o0 8 (by decide) b0.2.1 b0.2.2 h0
  have b1 := own_byv x 48 48 (by decide) (by decide)
  have n1 := own_nbv (own_by x 48) B o1 8 (by decide) b1.2.1 b1.2.2 h1
  have b2 := own_byv x 40 40 (by decide) (by decide)
  have n2 := own_nbv (own_by x 40) B o2 8 (by decide) b2.2.1 b2.2.2 h2
  have b3 := own_byv x 32 32 (by decide) (by decide)
  have n3 := own_nbv (own_by x 32) B o3 8 (by decide) b3.2.1 b3.2.2 h3
  have b4 := own_byv x 24 24 (by decide) (by decide)
  have n4 := own_nbv (own_by x 24) B o4 8 (by decide) b4.2.1 b4.2.2 h4
  have b5 := own_byv x 16 16 (by decide) (by decide)
  have n5 := own_nbv (own_by x 16) B o5 8 (by decide) b5.2.1 b5.2.2 h5
  have b6 := own_byv x 8 8 (by decide) (by decide)
  have n6 := own_nbv (own_by x 8) B o6 8 (by decide) b6.2.1 b6.2.2 h6
  have b7 := own_b0v x
  have n7 := own_nbv (own_b0 x) B o7 7 (by decide) b7.2.1 b7.2.2 h7
  have P := own_p8v (own_nb (own_by x 56) B o0) (own_nb (own_by x 48) B o1) (own_nb (own_by x 40) B o2) (own_nb (own_by x 32) B o3) (own_nb (own_by x 24) B o4) (own_nb (own_by x 16) B o5) (own_nb (own_by x 8) B o6) (own_nb (own_b0 x) B o7)
  have R1 := rng64 (own_p8 (own_nb (own_by x 56) B o0) (own_nb (own_by x 48) B o1) (own_nb (own_by x 40) B o2) (own_nb (own_by x 32) B o3) (own_nb (own_by x 24) B o4) (own_nb (own_by x 16) B o5) (own_nb (own_by x 8) B o6) (own_nb (own_b0 x) B o7))
  rw [n0, n1, n2, n3, n4, n5, n6, n7] at P
  rw [b0.1, b1.1, b2.1, b3.1, b4.1, b5.1, b6.1, b7.1] at P
  have K := own_k8_63 x.toInt (x.toInt % 18446744073709551616) _ rfl P
  clear P n0 n1 n2 n3 n4 n5 n6 n7 b0 b1 b2 b3 b4 b5 b6 b7 h0 h1 h2 h3 h4 h5 h6 h7
  apply Int64.toInt_inj.mp
  generalize own_p8 (own_nb (own_by x 56) B o0) (own_nb (own_by x 48) B o1) (own_nb (own_by x 40) B o2) (own_nb (own_by x 32) B o3) (own_nb (own_by x 24) B o4) (own_nb (own_by x 16) B o5) (own_nb (own_by x 8) B o6) (own_nb (own_b0 x) B o7) = p at *
  have H : ((x &&& n).toInt - (x.toInt - x.toInt % 2)) % 18446744073709551616 = 0 := own_hmL x (1 : Int64) n 1 (by decide) (by decide) hn
  have R2 := rng64 (x &&& n)
  generalize (x &&& n).toInt = r at *
  generalize x.toInt % 2 = z at *
  omega
theorem own_g8_64 (x n : Int64) (B o0 o1 o2 o3 o4 o5 o6 o7 : Int32) (h0 : own_max (0 : Int32) (own_min (8 : Int32) (B - o0)) = Int32.ofInt ((8 : Nat) : Int)) (h1 : own_max (0 : Int32) (own_min (8 : Int32) (B - o1)) = Int32.ofInt ((8 : Nat) : Int)) (h2 : own_max (0 : Int32) (own_min (8 : Int32) (B - o2)) = Int32.ofInt ((8 : Nat) : Int)) (h3 : own_max (0 : Int32) (own_min (8 : Int32) (B - o3)) = Int32.ofInt ((8 : Nat) : Int)) (h4 : own_max (0 : Int32) (own_min (8 : Int32) (B - o4)) = Int32.ofInt ((8 : Nat) : Int)) (h5 : own_max (0 : Int32) (own_min (8 : Int32) (B - o5)) = Int32.ofInt ((8 : Nat) : Int)) (h6 : own_max (0 : Int32) (own_min (8 : Int32) (B - o6)) = Int32.ofInt ((8 : Nat) : Int)) (h7 : own_max (0 : Int32) (own_min (8 : Int32) (B - o7)) = Int32.ofInt ((8 : Nat) : Int)) (hn : n = ~~~(0 : Int64)) : own_p8 (own_nb (own_by x 56) B o0) (own_nb (own_by x 48) B o1) (own_nb (own_by x 40) B o2) (own_nb (own_by x 32) B o3) (own_nb (own_by x 24) B o4) (own_nb (own_by x 16) B o5) (own_nb (own_by x 8) B o6) (own_nb (own_b0 x) B o7) = x &&& n := by
  have b0 := own_byv x 56 56 (by decide) (by decide)
  have n0 := own_nbv (own_by x 56) B o0 8 (by decide) b0.2.1 b0.2.2 h0
  have b1 := own_byv x 48 48 (by decide) (by decide)
  have n1 := own_nbv (own_by x 48) B o1 8 (by decide) b1.2.1 b1.2.2 h1
  have b2 := own_byv x 40 40 (by decide) (by decide)
  have n2 := own_nbv (own_by x 40) B o2 8 (by decide) b2.2.1 b2.2.2 h2
  have b3 := own_byv x 32 32 (by decide) (by decide)
  have n3 := own_nbv (own_by x 32) B o3 8 (by decide) b3.2.1 b3.2.2 h3
  have b4 := own_byv x 24 24 (by decide) (by decide)
  have n4 := own_nbv (own_by x 24) B o4 8 (by decide) b4.2.1 b4.2.2 h4
  have b5 := own_byv x 16 16 (by decide) (by decide)
  have n5 := own_nbv (own_by x 16) B o5 8 (by decide) b5.2.1 b5.2.2 h5
  have b6 := own_byv x 8 8 (by decide) (by decide)
  have n6 := own_nbv (own_by x 8) B o6 8 (by decide) b6.2.1 b6.2.2 h6
  have b7 := own_b0v x
  have n7 := own_nbv (own_b0 x) B o7 8 (by decide) b7.2.1 b7.2.2 h7
  have P := own_p8v (own_nb (own_by x 56) B o0) (own_nb (own_by x 48) B o1) (own_nb (own_by x 40) B o2) (own_nb (own_by x 32) B o3) (own_nb (own_by x 24) B o4) (own_nb (own_by x 16) B o5) (own_nb (own_by x 8) B o6) (own_nb (own_b0 x) B o7)
  have R1 := rng64 (own_p8 (own_nb (own_by x 56) B o0) (own_nb (own_by x 48) B o1) (own_nb (own_by x 40) B o2) (own_nb (own_by x 32) B o3) (own_nb (own_by x 24) B o4) (own_nb (own_by x 16) B o5) (own_nb (own_by x 8) B o6) (own_nb (own_b0 x) B o7))
  rw [n0, n1, n2, n3, n4, n5, n6, n7] at P
  rw [b0.1, b1.1, b2.1, b3.1, b4.1, b5.1, b6.1, b7.1] at P
  have K := own_k8_64 x.toInt (x.toInt % 18446744073709551616) _ rfl P
  clear P n0 n1 n2 n3 n4 n5 n6 n7 b0 b1 b2 b3 b4 b5 b6 b7 h0 h1 h2 h3 h4 h5 h6 h7
  apply Int64.toInt_inj.mp
  generalize own_p8 (own_nb (own_by x 56) B o0) (own_nb (own_by x 48) B o1) (own_nb (own_by x 40) B o2) (own_nb (own_by x 32) B o3) (own_nb (own_by x 24) B o4) (own_nb (own_by x 16) B o5) (own_nb (own_by x 8) B o6) (own_nb (own_b0 x) B o7) = p at *
  have H : ((x &&& n).toInt - (x.toInt - x.toInt % 1)) % 18446744073709551616 = 0 := own_hmL x (0 : Int64) n 0 (by decide) (by decide) hn
  have R2 := rng64 (x &&& n)
  generalize (x &&& n).toInt = r at *
  generalize x.toInt % 1 = z at *
  omega
theorem own_hin (x : Int64) (B : Int32) : ∀ k : Nat, k < 129 → B = Int32.ofInt (k : Int) → own_p8 (own_nb (own_by x 56) B 0) (own_nb (own_by x 48) B 8) (own_nb (own_by x 40) B 16) (own_nb (own_by x 32) B 24) (own_nb (own_by x 24) B 32) (own_nb (own_by x 16) B 40) (own_nb (own_by x 8) B 48) (own_nb (own_b0 x) B 56) = x &&& (if B < 64 then (if B = 0 then 0 else (-1 : Int64) <<< (((64 : Int32) - B) &&& 63).toInt64) else (-1 : Int64))
  | 0, _, h => by subst h; exact own_g8_0 x _ _ 0 8 16 24 32 40 48 56 (by decide) (by decide) (by decide) (by decide) (by decide) (by decide) (by decide) (by decide) (by decide)
  | 1, _, h => by subst h; exact own_g8_1 x _ _ 0 8 16 24 32 40 48 56 (by decide) (by decide) (by decide) (by decide) (by decide) (by decide) (by decide) (by decide) (by decide)
  | 2, _, h => by subst h; exact own_g8_2 x _ _ 0 8 16 24 32 40 48 56 (by decide) (by decide) (by decide) (by decide) (by decide) (by decide) (by decide) (by decide) (by decide)
  | 3, _, h => by subst h; exact own_g8_3 x _ _ 0 8 16 24 32 40 48 56 (by decide) (by decide) (by decide) (by decide) (by decide) (by decide) (by decide) (by decide) (by decide)
  | 4, _, h => by subst h; exact own_g8_4 x _ _ 0 8 16 24 32 40 48 56 (by decide) (by decide) (by decide) (by decide) (by decide) (by decide) (by decide) (by decide) (by decide)
  | 5, _, h => by subst h; exact own_g8_5 x _ _ 0 8 16 24 32 40 48 56 (by decide) (by decide) (by decide) (by decide) (by decide) (by decide) (by decide) (by decide) (by decide)
  | 6, _, h => by subst h; exact own_g8_6 x _ _ 0 8 16 24 32 40 48 56 (by decide) (by decide) (by decide) (by decide) (by decide) (by decide) (by decide) (by decide) (by decide)
  | 7, _, h => by subst h; exact own_g8_7 x _ _ 0 8 16 24 32 40 48 56 (by decide) (by decide) (by decide) (by decide) (by decide) (by decide) (by decide) (by decide) (by decide)
  | 8, _, h => by subst h; exact own_g8_8 x _ _ 0 8 16 24 32 40 48 56 (by decide) (by decide) (by decide) (by decide) (by decide) (by decide) (by decide) (by decide) (by decide)
  | 9, _, h => by subst h; exact own_g8_9 x _ _ 0 8 16 24 32 40 48 56 (by decide) (by decide) (by decide) (by decide) (by decide) (by decide) (by decide) (by decide) (by decide)
  | 10, _, h => by subst h; exact own_g8_10 x _ _ 0 8 16 24 32 40 48 56 (by decide) (by decide) (by decide) (by decide) (by decide) (by decide) (by decide) (by decide) (by decide)
  | 11, _, h => by subst h; exact own_g8_11 x _ _ 0 8 16 24 32 40 48 56 (by decide) (by decide) (by decide) (by decide) (by decide) (by decide) (by decide) (by decide) (by decide)
  | 12, _, h => by subst h; exact own_g8_12 x _ _ 0 8 16 24 32 40 48 56 (by decide) (by decide) (by decide) (by decide) (by decide) (by decide) (by decide) (by decide) (by decide)
  | 13, _, h => by subst h; exact own_g8_13 x _ _ 0 8 16 24 32 40 48 56 (by decide) (by decide) (by decide) (by decide) (by decide) (by decide) (by decide) (by decide) (by decide)
  | 14, _, h => by subst h; exact own_g8_14 x _ _ 0 8 16 24 32 40 48 56 (by decide) (by decide) (by decide) (by decide) (by decide) (by decide) (by decide) (by decide) (by decide)
  | 15, _, h => by subst h; exact own_g8_15 x _ _ 0 8 16 24 32 40 48 56 (by decide) (by decide) (by decide) (by decide) (by decide) (by decide) (by decide) (by decide) (by decide)
  | 16, _, h => by subst h; exact own_g8_16 x _ _ 0 8 16 24 32 40 48 56 (by decide) (by decide) (by decide) (by decide) (by decide) (by decide) (by decide) (by decide) (by decide)
  | 17, _, h => by subst h; exact own_g8_17 x _ _ 0 8 16 24 32 40 48 56 (by decide) (by decide) (by decide) (by decide) (by decide) (by decide) (by decide) (by decide) (by decide)
  | 18, _, h => by subst h; exact own_g8_18 x _ _ 0 8 16 24 32 40 48 56 (by decide) (by decide) (by decide) (by decide) (by decide) (by decide) (by decide) (by decide) (by decide)
  | 19, _, h => by subst h; exact own_g8_19 x _ _ 0 8 16 24 32 40 48 56 (by decide) (by decide) (by decide) (by decide) (by decide) (by decide) (by decide) (by decide) (by decide)
  | 20, _, h => by subst h; exact own_g8_20 x _ _ 0 8 16 24 32 40 48 56 (by decide) (by decide) (by decide) (by decide) (by decide) (by decide) (by decide) (by decide) (by decide)
  | 21, _, h => by subst h; exact own_g8_21 x _ _ 0 8 16 24 32 40 48 56 (by decide) (by decide) (by decide) (by decide) (by decide) (by decide) (by decide) (by decide) (by decide)
  | 22, _, h => by subst h; exact own_g8_22 x _ _ 0 8 16 24 32 40 48 56 (by decide) (by decide) (by decide) (by decide) (by decide) (by decide) (by decide) (by decide) (by decide)
  | 23, _, h => by subst h; exact own_g8_23 x _ _ 0 8 16 24 32 40 48 56 (by decide) (by decide) (by decide) (by decide) (by decide) (by decide) (by decide) (by decide) (by decide)
  | 24, _, h => by subst h; exact own_g8_24 x _ _ 0 8 16 24 32 40 48 56 (by decide) (by decide) (by decide) (by decide) (by decide) (by decide) (by decide) (by decide) (by decide)
  | 25, _, h => by subst h; exact own_g8_25 x _ _ 0 8 16 24 32 40 48 56 (by decide) (by decide) (by decide) (by decide) (by decide) (by decide) (by decide) (by decide) (by decide)
  | 26, _, h => by subst h; exact own_g8_26 x _ _ 0 8 16 24 32 40 48 56 (by decide) (by decide) (by decide) (by decide) (by decide) (by decide) (by decide) (by decide) (by decide)
  | 27, _, h => by subst h; exact own_g8_27 x _ _ 0 8 16 24 32 40 48 56 (by decide) (by decide) (by decide) (by decide) (by decide) (by decide) (by decide) (by decide) (by decide)
  | 28, _, h => by subst h; exact own_g8_28 x _ _ 0 8 16 24 32 40 48 56 (by decide) (by decide) (by decide) (by decide) (by decide) (by decide) (by decide) (by decide) (by decide)
  | 29, _, h => by subst h; exact own_g8_29 x _ _ 0 8 16 24 32 40 48 56 (by decide) (by decide) (by decide) (by decide) (by decide) (by decide) (by decide) (by decide) (by decide)
  | 30, _, h => by subst h; exact own_g8_30 x _ _ 0 8 16 24 32 40 48 56 (by decide) (by decide) (by decide) (by decide) (by decide) (by decide) (by decide) (by decide) (by decide)
  | 31, _, h => by subst h; exact own_g8_31 x _ _ 0 8 16 24 32 40 48 56 (by decide) (by decide) (by decide) (by decide) (by decide) (by decide) (by decide) (by decide) (by decide)
  | 32, _, h => by subst h; exact own_g8_32 x _ _ 0 8 16 24 32 40 48 56 (by decide) (by decide) (by decide) (by decide) (by decide) (by decide) (by decide) (by decide) (by decide)
  | 33, _, h => by subst h; exact own_g8_33 x _ _ 0 8 16 24 32 40 48 56 (by decide) (by decide) (by decide) (by decide) (by decide) (by decide) (by decide) (by decide) (by decide)
  | 34, _, h => by subst h; exact own_g8_34 x _ _ 0 8 16 24 32 40 48 56 (by decide) (by decide) (by decide) (by decide) (by decide) (by decide) (by decide) (by decide) (by decide)
  | 35, _, h => by subst h; exact own_g8_35 x _ _ 0 8 16 24 32 40 48 56 (by decide) (by decide) (by decide) (by decide) (by decide) (by decide) (by decide) (by decide) (by decide)
  | 36, _, h => by subst h; exact own_g8_36 x _ _ 0 8 16 24 32 40 48 56 (by decide) (by decide) (by decide) (by decide) (by decide) (by decide) (by decide) (by decide) (by decide)
  | 37, _, h => by subst h; exact own_g8_37 x _ _ 0 8 16 24 32 40 48 56 (by decide) (by decide) (by decide) (by decide) (by decide) (by decide) (by decide) (by decide) (by decide)
  | 38, _, h => by subst h; exact own_g8_38 x _ _ 0 8 16 24 32 40 48 56 (by decide) (by decide) (by decide) (by decide) (by decide) (by decide) (by decide) (by decide) (by decide)
  | 39, _, h => by subst h; exact own_g8_39 x _ _ 0 8 16 24 32 40 48 56 (by decide) (by decide) (by decide) (by decide) (by decide) (by decide) (by decide) (by decide) (by decide)
  | 40, _, h => by subst h; exact own_g8_40 x _ _ 0 8 16 24 32 40 48 56 (by decide) (by decide) (by decide) (by decide) (by decide) (by decide) (by decide) (by decide) (by decide)
  | 41, _, h => by subst h; exact own_g8_41 x _ _ 0 8 16 24 32 40 48 56 (by decide) (by decide) (by decide) (by decide) (by decide) (by decide) (by decide) (by decide) (by decide)
  | 42, _, h => by subst h; exact own_g8_42 x _ _ 0 8 16 24 32 40 48 56 (by decide) (by decide) (by decide) (by decide) (by decide) (by decide) (by decide) (by decide) (by decide)
  | 43, _, h => by subst h; exact own_g8_43 x _ _ 0 8 16 24 32 40 48 56 (by decide) (by decide) (by decide) (by decide) (by decide) (by decide) (by decide) (by decide) (by decide)
  | 44, _, h => by subst h; exact own_g8_44 x _ _ 0 8 16 24 32 40 48 56 (by decide) (by decide) (by decide) (by decide) (by decide) (by decide) (by decide) (by decide) (by decide)
  | 45, _, h => by subst h; exact own_g8_45 x _ _ 0 8 16 24 32 40 48 56 (by decide) (by decide) (by decide) (by decide) (by decide) (by decide) (by decide) (by decide) (by decide)
  | 46, _, h => by subst h; exact own_g8_46 x _ _ 0 8 16 24 32 40 48 56 (by decide) (by decide) (by decide) (by decide) (by decide) (by decide) (by decide) (by decide) (by decide)
  | 47, _, h => by subst h; exact own_g8_47 x _ _ 0 8 16 24 32 40 48 56 (by decide) (by decide) (by decide) (by decide) (by decide) (by decide) (by decide) (by decide) (by decide)
  | 48, _, h => by subst h; exact own_g8_48 x _ _ 0 8 16 24 32 40 48 56 (by decide) (by decide) (by decide) (by decide) (by decide) (by decide) (by decide) (by decide) (by decide)
  | 49, _, h => by subst h; exact own_g8_49 x _ _ 0 8 16 24 32 40 48 56 (by decide) (by decide) (by decide) (by decide) (by decide) (by decide) (by decide) (by decide) (by decide)
  | 50, _, h => by subst h; exact own_g8_50 x _ _ 0 8 16 24 32 40 48 56 (by decide) (by decide) (by decide) (by decide) (by decide) (by decide) (by decide) (by decide) (by decide)
  | 51, _, h => by subst h; exact own_g8_51 x _ _ 0 8 16 24 32 40 48 56 (by decide) (by decide) (by decide) (by decide) (by decide) (by decide) (by decide) (by decide) (by decide)
  | 52, _, h => by subst h; exact own_g8_52 x _ _ 0 8 16 24 32 40 48 56 (by decide) (by decide) (by decide) (by decide) (by decide) (by decide) (by decide) (by decide) (by decide)
  | 53, _, h => by subst h; exact own_g8_53 x _ _ 0 8 16 24 32 40 48 56 (by decide) (by decide) (by decide) (by decide) (by decide) (by decide) (by decide) (by decide) (by decide)
  | 54, _, h => by subst h; exact own_g8_54 x _ _ 0 8 16 24 32 40 48 56 (by decide) (by decide) (by decide) (by decide) (by decide) (by decide) (by decide) (by decide) (by decide)
  | 55, _, h => by subst h; exact own_g8_55 x _ _ 0 8 16 24 32 40 48 56 (by decide) (by decide) (by decide) (by decide) (by decide) (by decide) (by decide) (by decide) (by decide)
  | 56, _, h => by subst h; exact own_g8_56 x _ _ 0 8 16 24 32 40 48 56 (by decide) (by decide) (by decide) (by decide) (by decide) (by decide) (by decide) (by decide) (by decide)
  | 57, _, h => by subst h; exact own_g8_57 x _ _ 0 8 16 24 32 40 48 56 (by decide) (by decide) (by decide) (by decide) (by decide) (by decide) (by decide) (by decide) (by decide)
  | 58, _, h => by subst h; exact own_g8_58 x _ _ 0 8 16 24 32 40 48 56 (by decide) (by decide) (by decide) (by decide) (by decide) (by decide) (by decide) (by decide) (by decide)
  | 59, _, h => by subst h; exact own_g8_59 x _ _ 0 8 16 24 32 40 48 56 (by decide) (by decide) (by decide) (by decide) (by decide) (by decide) (by decide) (by decide) (by decide)
  | 60, _, h => by subst h; exact own_g8_60 x _ _ 0 8 16 24 32 40 48 56 (by decide) (by decide) (by decide) (by decide) (by decide) (by decide) (by decide) (by decide) (by decide)
  | 61, _, h => by subst h; exact own_g8_61 x _ _ 0 8 16 24 32 40 48 56 (by decide) (by decide) (by decide) (by decide) (by decide) (by decide) (by decide) (by decide) (by decide)
  | 62, _, h => by subst h; exact own_g8_62 x _ _ 0 8 16 24 32 40 48 56 (by decide) (by decide) (by decide) (by decide) (by decide) (by decide) (by decide) (by decide) (by decide)
  | 63, _, h => by subst h; exact own_g8_63 x _ _ 0 8 16 24 32 40 48 56 (by decide) (by decide) (by decide) (by decide) (by decide) (by decide) (by decide) (by decide) (by decide)
  | 64, _, h => by subst h; exact own_g8_64 x _ _ 0 8 16 24 32 40 48 56 (by decide) (by decide) (by decide) (by decide) (by decide) (by decide) (by decide) (by decide) (by decide)
  | 65, _, h => by subst h; exact own_g8_64 x _ _ 0 8 16 24 32 40 48 56 (by decide) (by decide) (by decide) (by decide) (by decide) (by decide) (by decide) (by decide) (by decide)
  | 66, _, h => by subst h; exact own_g8_64 x _ _ 0 8 16 24 32 40 48 56 (by decide) (by decide) (by decide) (by decide) (by decide) (by decide) (by decide) (by decide) (by decide)
  | 67, _, h => by subst h; exact own_g8_64 x _ _ 0 8 16 24 32 40 48 56 (by decide) (by decide) (by decide) (by decide) (by decide) (by decide) (by decide) (by decide) (by decide)
  | 68, _, h => by subst h; exact own_g8_64 x _ _ 0 8 16 24 32 40 48 56 (by decide) (by decide) (by decide) (by decide) (by decide) (by decide) (by decide) (by decide) (by decide)
  | 69, _, h => by subst h; exact own_g8_64 x _ _ 0 8 16 24 32 40 48 56 (by decide) (by decide) (by decide) (by decide) (by decide) (by decide) (by decide) (by decide) (by decide)
  | 70, _, h => by subst h; exact own_g8_64 x _ _ 0 8 16 24 32 40 48 56 (by decide) (by decide) (by decide) (by decide) (by decide) (by decide) (by decide) (by decide) (by decide)
  | 71, _, h => by subst h; exact own_g8_64 x _ _ 0 8 16 24 32 40 48 56 (by decide) (by decide) (by decide) (by decide) (by decide) (by decide) (by decide) (by decide) (by decide)
  | 72, _, h => by subst h; exact own_g8_64 x _ _ 0 8 16 24 32 40 48 56 (by decide) (by decide) (by decide) (by decide) (by decide) (by decide) (by decide) (by decide) (by decide)
  | 73, _, h => by subst h; exact own_g8_64 x _ _ 0 8 16 24 32 40 48 56 (by decide) (by decide) (by decide) (by decide) (by decide) (by decide) (by decide) (by decide) (by decide)
  | 74, _, h => by subst h; exact own_g8_64 x _ _ 0 8 16 24 32 40 48 56 (by decide) (by decide) (by decide) (by decide) (by decide) (by decide) (by decide) (by decide) (by decide)
  | 75, _, h => by subst h; exact own_g8_64 x _ _ 0 8 16 24 32 40 48 56 (by decide) (by decide) (by decide) (by decide) (by decide) (by decide) (by decide) (by decide) (by decide)
  | 76, _, h => by subst h; exact own_g8_64 x _ _ 0 8 16 24 32 40 48 56 (by decide) (by decide) (by decide) (by decide) (by decide) (by decide) (by decide) (by decide) (by decide)
  | 77, _, h => by subst h; exact own_g8_64 x _ _ 0 8 16 24 32 40 48 56 (by decide) (by decide) (by decide) (by decide) (by decide) (by decide) (by decide) (by decide) (by decide)
  | 78, _, h => by subst h; exact own_g8_64 x _ _ 0 8 16 24 32 40 48 56 (by decide) (by decide) (by decide) (by decide) (by decide) (by decide) (by decide) (by decide) (by decide)
  | 79, _, h => by subst h; exact own_g8_64 x _ _ 0 8 16 24 32 40 48 56 (by decide) (by decide) (by decide) (by decide) (by decide) (by decide) (by decide) (by decide) (by decide)
  | 80, _, h => by subst h; exact own_g8_64 x _ _ 0 8 16 24 32 40 48 56 (by decide) (by decide) (by decide) (by decide) (by decide) (by decide) (by decide) (by decide) (by decide)
  | 81, _, h => by subst h; exact own_g8_64 x _ _ 0 8 16 24 32 40 48 56 (by decide) (by decide) (by decide) (by decide) (by decide) (by decide) (by decide) (by decide) (by decide)
  | 82, _, h => by subst h; exact own_g8_64 x _ _ 0 8 16 24 32 40 48 56 (by decide) (by decide) (by decide) (by decide) (by decide) (by decide) (by decide) (by decide) (by decide)
  | 83, _, h => by subst h; exact own_g8_64 x _ _ 0 8 16 24 32 40 48 56 (by decide) (by decide) (by decide) (by decide) (by decide) (by decide) (by decide) (by decide) (by decide)
  | 84, _, h => by subst h; exact own_g8_64 x _ _ 0 8 16 24 32 40 48 56 (by decide) (by decide) (by decide) (by decide) (by decide) (by decide) (by decide) (by decide) (by decide)
  | 85, _, h => by subst h; exact own_g8_64 x _ _ 0 8 16 24 32 40 48 56 (by decide) (by decide) (by decide) (by decide) (by decide) (by decide) (by decide) (by decide) (by decide)
  | 86, _, h => by subst h; exact own_g8_64 x _ _ 0 8 16 24 32 40 48 56 (by decide) (by decide) (by decide) (by decide) (by decide) (by decide) (by decide) (by decide) (by decide)
  | 87, _, h => by subst h; exact own_g8_64 x _ _ 0 8 16 24 32 40 48 56 (by decide) (by decide) (by decide) (by decide) (by decide) (by decide) (by decide) (by decide) (by decide)
  | 88, _, h => by subst h; exact own_g8_64 x _ _ 0 8 16 24 32 40 48 56 (by decide) (by decide) (by decide) (by decide) (by decide) (by decide) (by decide) (by decide) (by decide)
  | 89, _, h => by subst h; exact own_g8_64 x _ _ 0 8 16 24 32 40 48 56 (by decide) (by decide) (by decide) (by decide) (by decide) (by decide) (by decide) (by decide) (by decide)
  | 90, _, h => by subst h; exact own_g8_64 x _ _ 0 8 16 24 32 40 48 56 (by decide) (by decide) (by decide) (by decide) (by decide) (by decide) (by decide) (by decide) (by decide)
  | 91, _, h => by subst h; exact own_g8_64 x _ _ 0 8 16 24 32 40 48 56 (by decide) (by decide) (by decide) (by decide) (by decide) (by decide) (by decide) (by decide) (by decide)
  | 92, _, h => by subst h; exact own_g8_64 x _ _ 0 8 16 24 32 40 48 56 (by decide) (by decide) (by decide) (by decide) (by decide) (by decide) (by decide) (by decide) (by decide)
  | 93, _, h => by subst h; exact own_g8_64 x _ _ 0 8 16 24 32 40 48 56 (by decide) (by decide) (by decide) (by decide) (by decide) (by decide) (by decide) (by decide) (by decide)
  | 94, _, h => by subst h; exact own_g8_64 x _ _ 0 8 16 24 32 40 48 56 (by decide) (by decide) (by decide) (by decide) (by decide) (by decide) (by decide) (by decide) (by decide)
  | 95, _, h => by subst h; exact own_g8_64 x _ _ 0 8 16 24 32 40 48 56 (by decide) (by decide) (by decide) (by decide) (by decide) (by decide) (by decide) (by decide) (by decide)
  | 96, _, h => by subst h; exact own_g8_64 x _ _ 0 8 16 24 32 40 48 56 (by decide) (by decide) (by decide) (by decide) (by decide) (by decide) (by decide) (by decide) (by decide)
  | 97, _, h => by subst h; exact own_g8_64 x _ _ 0 8 16 24 32 40 48 56 (by decide) (by decide) (by decide) (by decide) (by decide) (by decide) (by decide) (by decide) (by decide)
  | 98, _, h => by subst h; exact own_g8_64 x _ _ 0 8 16 24 32 40 48 56 (by decide) (by decide) (by decide) (by decide) (by decide) (by decide) (by decide) (by decide) (by decide)
  | 99, _, h => by subst h; exact own_g8_64 x _ _ 0 8 16 24 32 40 48 56 (by decide) (by decide) (by decide) (by decide) (by decide) (by decide) (by decide) (by decide) (by decide)
  | 100, _, h => by subst h; exact own_g8_64 x _ _ 0 8 16 24 32 40 48 56 (by decide) (by decide) (by decide) (by decide) (by decide) (by decide) (by decide) (by decide) (by decide)
  | 101, _, h => by subst h; exact own_g8_64 x _ _ 0 8 16 24 32 40 48 56 (by decide) (by decide) (by decide) (by decide) (by decide) (by decide) (by decide) (by decide) (by decide)
  | 102, _, h => by subst h; exact own_g8_64 x _ _ 0 8 16 24 32 40 48 56 (by decide) (by decide) (by decide) (by decide) (by decide) (by decide) (by decide) (by decide) (by decide)
  | 103, _, h => by subst h; exact own_g8_64 x _ _ 0 8 16 24 32 40 48 56 (by decide) (by decide) (by decide) (by decide) (by decide) (by decide) (by decide) (by decide) (by decide)
  | 104, _, h => by subst h; exact own_g8_64 x _ _ 0 8 16 24 32 40 48 56 (by decide) (by decide) (by decide) (by decide) (by decide) (by decide) (by decide) (by decide) (by decide)
  | 105, _, h => by subst h; exact own_g8_64 x _ _ 0 8 16 24 32 40 48 56 (by decide) (by decide) (by decide) (by decide) (by decide) (by decide) (by decide) (by decide) (by decide)
  | 106, _, h => by subst h; exact own_g8_64 x _ _ 0 8 16 24 32 40 48 56 (by decide) (by decide) (by decide) (by decide) (by decide) (by decide) (by decide) (by decide) (by decide)
  | 107, _, h => by subst h; exact own_g8_64 x _ _ 0 8 16 24 32 40 48 56 (by decide) (by decide) (by decide) (by decide) (by decide) (by decide) (by decide) (by decide) (by decide)
  | 108, _, h => by subst h; exact own_g8_64 x _ _ 0 8 16 24 32 40 48 56 (by decide) (by decide) (by decide) (by decide) (by decide) (by decide) (by decide) (by decide) (by decide)
  | 109, _, h => by subst h; exact own_g8_64 x _ _ 0 8 16 24 32 40 48 56 (by decide) (by decide) (by decide) (by decide) (by decide) (by decide) (by decide) (by decide) (by decide)
  | 110, _, h => by subst h; exact own_g8_64 x _ _ 0 8 16 24 32 40 48 56 (by decide) (by decide) (by decide) (by decide) (by decide) (by decide) (by decide) (by decide) (by decide)
  | 111, _, h => by subst h; exact own_g8_64 x _ _ 0 8 16 24 32 40 48 56 (by decide) (by decide) (by decide) (by decide) (by decide) (by decide) (by decide) (by decide) (by decide)
  | 112, _, h => by subst h; exact own_g8_64 x _ _ 0 8 16 24 32 40 48 56 (by decide) (by decide) (by decide) (by decide) (by decide) (by decide) (by decide) (by decide) (by decide)
  | 113, _, h => by subst h; exact own_g8_64 x _ _ 0 8 16 24 32 40 48 56 (by decide) (by decide) (by decide) (by decide) (by decide) (by decide) (by decide) (by decide) (by decide)
  | 114, _, h => by subst h; exact own_g8_64 x _ _ 0 8 16 24 32 40 48 56 (by decide) (by decide) (by decide) (by decide) (by decide) (by decide) (by decide) (by decide) (by decide)
  | 115, _, h => by subst h; exact own_g8_64 x _ _ 0 8 16 24 32 40 48 56 (by decide) (by decide) (by decide) (by decide) (by decide) (by decide) (by decide) (by decide) (by decide)
  | 116, _, h => by subst h; exact own_g8_64 x _ _ 0 8 16 24 32 40 48 56 (by decide) (by decide) (by decide) (by decide) (by decide) (by decide) (by decide) (by decide) (by decide)
  | 117, _, h => by subst h; exact own_g8_64 x _ _ 0 8 16 24 32 40 48 56 (by decide) (by decide) (by decide) (by decide) (by decide) (by decide) (by decide) (by decide) (by decide)
  | 118, _, h => by subst h; exact own_g8_64 x _ _ 0 8 16 24 32 40 48 56 (by decide) (by decide) (by decide) (by decide) (by decide) (by decide) (by decide) (by decide) (by decide)
  | 119, _, h => by subst h; exact own_g8_64 x _ _ 0 8 16 24 32 40 48 56 (by decide) (by decide) (by decide) (by decide) (by decide) (by decide) (by decide) (by decide) (by decide)
  | 120, _, h => by subst h; exact own_g8_64 x _ _ 0 8 16 24 32 40 48 56 (by decide) (by decide) (by decide) (by decide) (by decide) (by decide) (by decide) (by decide) (by decide)
  | 121, _, h => by subst h; exact own_g8_64 x _ _ 0 8 16 24 32 40 48 56 (by decide) (by decide) (by decide) (by decide) (by decide) (by decide) (by decide) (by decide) (by decide)
  | 122, _, h => by subst h; exact own_g8_64 x _ _ 0 8 16 24 32 40 48 56 (by decide) (by decide) (by decide) (by decide) (by decide) (by decide) (by decide) (by decide) (by decide)
  | 123, _, h => by subst h; exact own_g8_64 x _ _ 0 8 16 24 32 40 48 56 (by decide) (by decide) (by decide) (by decide) (by decide) (by decide) (by decide) (by decide) (by decide)
  | 124, _, h => by subst h; exact own_g8_64 x _ _ 0 8 16 24 32 40 48 56 (by decide) (by decide) (by decide) (by decide) (by decide) (by decide) (by decide) (by decide) (by decide)
  | 125, _, h => by subst h; exact own_g8_64 x _ _ 0 8 16 24 32 40 48 56 (by decide) (by decide) (by decide) (by decide) (by decide) (by decide) (by decide) (by decide) (by decide)
  | 126, _, h => by subst h; exact own_g8_64 x _ _ 0 8 16 24 32 40 48 56 (by decide) (by decide) (by decide) (by decide) (by decide) (by decide) (by decide) (by decide) (by decide)
  | 127, _, h => by subst h; exact own_g8_64 x _ _ 0 8 16 24 32 40 48 56 (by decide) (by decide) (by decide) (by decide) (by decide) (by decide) (by decide) (by decide) (by decide)
  | 128, _, h => by subst h; exact own_g8_64 x _ _ 0 8 16 24 32 40 48 56 (by decide) (by decide) (by decide) (by decide) (by decide) (by decide) (by decide) (by decide) (by decide)
  | k + 129, h, _ => absurd h (by omega)
theorem own_lon (x : Int64) (B : Int32) : ∀ k : Nat, k < 129 → B = Int32.ofInt (k : Int) → own_p8 (own_nb (own_by x 56) B 64) (own_nb (own_by x 48) B 72) (own_nb (own_by x 40) B 80) (own_nb (own_by x 32) B 88) (own_nb (own_by x 24) B 96) (own_nb (own_by x 16) B 104) (own_nb (own_by x 8) B 112) (own_nb (own_b0 x) B 120) = x &&& (if (64 : Int32) < B then (-1 : Int64) <<< (((128 : Int32) - B) &&& 63).toInt64 else 0)
  | 0, _, h => by subst h; exact own_g8_0 x _ _ 64 72 80 88 96 104 112 120 (by decide) (by decide) (by decide) (by decide) (by decide) (by decide) (by decide) (by decide) (by decide)
  | 1, _, h => by subst h; exact own_g8_0 x _ _ 64 72 80 88 96 104 112 120 (by decide) (by decide) (by decide) (by decide) (by decide) (by decide) (by decide) (by decide) (by decide)
  | 2, _, h => by subst h; exact own_g8_0 x _ _ 64 72 80 88 96 104 112 120 (by decide) (by decide) (by decide) (by decide) (by decide) (by decide) (by decide) (by decide) (by decide)
  | 3, _, h => by subst h; exact own_g8_0 x _ _ 64 72 80 88 96 104 112 120 (by decide) (by decide) (by decide) (by decide) (by decide) (by decide) (by decide) (by decide) (by decide)
  | 4, _, h => by subst h; exact own_g8_0 x _ _ 64 72 80 88 96 104 112 120 (by decide) (by decide) (by decide) (by decide) (by decide) (by decide) (by decide) (by decide) (by decide)
  | 5, _, h => by subst h; exact own_g8_0 x _ _ 64 72 80 88 96 104 112 120 (by decide) (by decide) (by decide) (by decide) (by decide) (by decide) (by decide) (by decide) (by decide)
  | 6, _, h => by subst h; exact own_g8_0 x _ _ 64 72 80 88 96 104 112 120 (by decide) (by decide) (by decide) (by decide) (by decide) (by decide) (by decide) (by decide) (by decide)
  | 7, _, h => by subst h; exact own_g8_0 x _ _ 64 72 80 88 96 104 112 120 (by decide) (by decide) (by decide) (by decide) (by decide) (by decide) (by decide) (by decide) (by decide)
  | 8, _, h => by subst h; exact own_g8_0 x _ _ 64 72 80 88 96 104 112 120 (by decide) (by decide) (by decide) (by decide) (by decide) (by decide) (by decide) (by decide) (by decide)
  | 9, _, h => by subst h; exact own_g8_0 x _ _ 64 72 80 88 96 104 112 120 (by decide) (by decide) (by decide) (by decide) (by decide) (by decide) (by decide) (by decide) (by decide)
  | 10, _, h => by subst h; exact own_g8_0 x _ _ 64 72 80 88 96 104 112 120 (by decide) (by decide) (by decide) (by decide) (by decide) (by decide) (by decide) (by decide) (by decide)
  | 11, _, h => by subst h; exact own_g8_0 x _ _ 64 72 80 88 96 104 112 120 (by decide) (by decide) (by decide) (by decide) (by decide) (by decide) (by decide) (by decide) (by decide)
  | 12, _, h => by subst h; exact own_g8_0 x _ _ 64 72 80 88 96 104 112 120 (by decide) (by decide) (by decide) (by decide) (by decide) (by decide) (by decide) (by decide) (by decide)
  | 13, _, h => by subst h; exact own_g8_0 x _ _ 64 72 80 88 96 104 112 120 (by decide) (by decide) (by decide) (by decide) (by decide) (by decide) (by decide) (by decide) (by decide)
  | 14, _, h => by subst h; exact own_g8_0 x _ _ 64 72 80 88 96 104 112 120 (by decide) (by decide) (by decide) (by decide) (by decide) (by decide) (by decide) (by decide) (by decide)
  | 15, _, h => by subst h; exact own_g8_0 x _ _ 64 72 80 88 96 104 112 120 (by decide) (by decide) (by decide) (by decide) (by decide) (by decide) (by decide) (by decide) (by decide)
  | 16, _, h => by subst h; exact own_g8_0 x _ _ 64 72 80 88 96 104 112 120 (by decide) (by decide) (by decide) (by decide) (by decide) (by decide) (by decide) (by decide) (by decide)
  | 17, _, h => by subst h; exact own_g8_0 x _ _ 64 72 80 88 96 104 112 120 (by decide) (by decide) (by decide) (by decide) (by decide) (by decide) (by decide) (by decide) (by decide)
  | 18, _, h => by subst h; exact own_g8_0 x _ _ 64 72 80 88 96 104 112 120 (by decide) (by decide) (by decide) (by decide) (by decide) (by decide) (by decide) (by decide) (by decide)
  | 19, _, h => by subst h; exact own_g8_0 x _ _ 64 72 80 88 96 104 112 120 (by decide) (by decide) (by decide) (by decide) (by decide) (by decide) (by decide) (by decide) (by decide)
  | 20, _, h => by subst h; exact own_g8_0 x _ _ 64 72 80 88 96 104 112 120 (by decide) (by decide) (by decide) (by decide) (by decide) (by decide) (by decide) (by decide) (by decide)
  | 21, _, h => by subst h; exact own_g8_0 x _ _ 64 72 80 88 96 104 112 120 (by decide) (by decide) (by decide) (by decide) (by decide) (by decide) (by decide) (by decide) (by decide)
  | 22, _, h => by subst h; exact own_g8_0 x _ _ 64 72 80 88 96 104 112 120 (by decide) (by decide) (by decide) (by decide) (by decide) (by decide) (by decide) (by decide) (by decide)
  | 23, _, h => by subst h; exact own_g8_0 x _ _ 64 72 80 88 96 104 112 120 (by decide) (by decide) (by decide) (by decide) (by decide) (by decide) (by decide) (by decide) (by decide)
  | 24, _, h => by subst h; exact own_g8_0 x _ _ 64 72 80 88 96 104 112 120 (by decide) (by decide) (by decide) (by decide) (by decide) (by decide) (by decide) (by decide) (by decide)
  | 25, _, h => by subst h; exact own_g8_0 x _ _ 64 72 80 88 96 104 112 120 (by decide) (by decide) (by decide) (by decide) (by decide) (by decide) (by decide) (by decide) (by decide)
  | 26, _, h => by subst h; exact own_g8_0 x _ _ 64 72 80 88 96 104 112 120 (by decide) (by decide) (by decide) (by decide) (by decide) (by decide) (by decide) (by decide) (by decide)
  | 27, _, h => by subst h; exact own_g8_0 x _ _ 64 72 80 88 96 104 112 120 (by decide) (by decide) (by decide) (by decide) (by decide) (by decide) (by decide) (by decide) (by decide)
  | 28, _, h => by subst h; exact own_g8_0 x _ _ 64 72 80 88 96 104 112 120 (by decide) (by decide) (by decide) (by decide) (by decide) (by decide) (by decide) (by decide) (by decide)
  | 29, _, h => by subst h; exact own_g8_0 x _ _ 64 72 80 88 96 104 112 120 (by decide) (by decide) (by decide) (by decide) (by decide) (by decide) (by decide) (by decide) (by decide)
  | 30, _, h => by subst h; exact own_g8_0 x _ _ 64 72 80 88 96 104 112 120 (by decide) (by decide) (by decide) (by decide) (by decide) (by decide) (by decide) (by decide) (by decide)
  | 31, _, h => by subst h; exact own_g8_0 x _ _ 64 72 80 88 96 104 112 120 (by decide) (by decide) (by decide) (by decide) (by decide) (by decide) (by decide) (by decide) (by decide)
  | 32, _, h => by subst h; exact own_g8_0 x _ _ 64 72 80 88 96 104 112 120 (by decide) (by decide) (by decide) (by decide) (by decide) (by decide) (by decide) (by decide) (by decide)
  | 33, _, h => by subst h; exact own_g8_0 x _ _ 64 72 80 88 96 104 112 120 (by decide) (by decide) (by decide) (by decide) (by decide) (by decide) (by decide) (by decide) (by decide)
  | 34, _, h => by subst h; exact own_g8_0 x _ _ 64 72 80 88 96 104 112 120 (by decide) (by decide) (by decide) (by decide) (by decide) (by decide) (by decide) (by decide) (by decide)
  | 35, _, h => by subst h; exact own_g8_0 x _ _ 64 72 80 88 96 104 112 120 (by decide) (by decide) (by decide) (by decide) (by decide) (by decide) (by decide) (by decide) (by decide)
  | 36, _, h => by subst h; exact own_g8_0 x _ _ 64 72 80 88 96 104 112 120 (by decide) (by decide) (by decide) (by decide) (by decide) (by decide) (by decide) (by decide) (by decide)
  | 37, _, h => by subst h; exact own_g8_0 x _ _ 64 72 80 88 96 104 112 120 (by decide) (by decide) (by decide) (by decide) (by decide) (by decide) (by decide) (by decide) (by decide)
  | 38, _, h => by subst h; exact own_g8_0 x _ _ 64 72 80 88 96 104 112 120 (by decide) (by decide) (by decide) (by decide) (by decide) (by decide) (by decide) (by decide) (by decide)
  | 39, _, h => by subst h; exact own_g8_0 x _ _ 64 72 80 88 96 104 112 120 (by decide) (by decide) (by decide) (by decide) (by decide) (by decide) (by decide) (by decide) (by decide)
  | 40, _, h => by subst h; exact own_g8_0 x _ _ 64 72 80 88 96 104 112 120 (by decide) (by decide) (by decide) (by decide) (by decide) (by decide) (by decide) (by decide) (by decide)
  | 41, _, h => by subst h; exact own_g8_0 x _ _ 64 72 80 88 96 104 112 120 (by decide) (by decide) (by decide) (by decide) (by decide) (by decide) (by decide) (by decide) (by decide)
  | 42, _, h => by subst h; exact own_g8_0 x _ _ 64 72 80 88 96 104 112 120 (by decide) (by decide) (by decide) (by decide) (by decide) (by decide) (by decide) (by decide) (by decide)
  | 43, _, h => by subst h; exact own_g8_0 x _ _ 64 72 80 88 96 104 112 120 (by decide) (by decide) (by decide) (by decide) (by decide) (by decide) (by decide) (by decide) (by decide)
  | 44, _, h => by subst h; exact own_g8_0 x _ _ 64 72 80 88 96 104 112 120 (by decide) (by decide) (by decide) (by decide) (by decide) (by decide) (by decide) (by decide) (by decide)
  | 45, _, h => by subst h; exact own_g8_0 x _ _ 64 72 80 88 96 104 112 120 (by decide) (by decide) (by decide) (by decide) (by decide) (by decide) (by decide) (by decide) (by decide)
  | 46, _, h => by subst h; exact own_g8_0 x _ _ 64 72 80 88 96 104 112 120 (by decide) (by decide) (by decide) (by decide) (by decide) (by decide) (by decide) (by decide) (by decide)
  | 47, _, h => by subst h; exact own_g8_0 x _ _ 64 72 80 88 96 104 112 120 (by decide) (by decide) (by decide) (by decide) (by decide) (by decide) (by decide) (by decide) (by decide)
  | 48, _, h => by subst h; exact own_g8_0 x _ _ 64 72 80 88 96 104 112 120 (by decide) (by decide) (by decide) (by decide) (by decide) (by decide) (by decide) (by decide) (by decide)
  | 49, _, h => by subst h; exact own_g8_0 x _ _ 64 72 80 88 96 104 112 120 (by decide) (by decide) (by decide) (by decide) (by decide) (by decide) (by decide) (by decide) (by decide)
  | 50, _, h => by subst h; exact own_g8_0 x _ _ 64 72 80 88 96 104 112 120 (by decide) (by decide) (by decide) (by decide) (by decide) (by decide) (by decide) (by decide) (by decide)
  | 51, _, h => by subst h; exact own_g8_0 x _ _ 64 72 80 88 96 104 112 120 (by decide) (by decide) (by decide) (by decide) (by decide) (by decide) (by decide) (by decide) (by decide)
  | 52, _, h => by subst h; exact own_g8_0 x _ _ 64 72 80 88 96 104 112 120 (by decide) (by decide) (by decide) (by decide) (by decide) (by decide) (by decide) (by decide) (by decide)
  | 53, _, h => by subst h; exact own_g8_0 x _ _ 64 72 80 88 96 104 112 120 (by decide) (by decide) (by decide) (by decide) (by decide) (by decide) (by decide) (by decide) (by decide)
  | 54, _, h => by subst h; exact own_g8_0 x _ _ 64 72 80 88 96 104 112 120 (by decide) (by decide) (by decide) (by decide) (by decide) (by decide) (by decide) (by decide) (by decide)
  | 55, _, h => by subst h; exact own_g8_0 x _ _ 64 72 80 88 96 104 112 120 (by decide) (by decide) (by decide) (by decide) (by decide) (by decide) (by decide) (by decide) (by decide)
  | 56, _, h => by subst h; exact own_g8_0 x _ _ 64 72 80 88 96 104 112 120 (by decide) (by decide) (by decide) (by decide) (by decide) (by decide) (by decide) (by decide) (by decide)
  | 57, _, h => by subst h; exact own_g8_0 x _ _ 64 72 80 88 96 104 112 120 (by decide) (by decide) (by decide) (by decide) (by decide) (by decide) (by decide) (by decide) (by decide)
  | 58, _, h => by subst h; exact own_g8_0 x _ _ 64 72 80 88 96 104 112 120 (by decide) (by decide) (by decide) (by decide) (by decide) (by decide) (by decide) (by decide) (by decide)
  | 59, _, h => by subst h; exact own_g8_0 x _ _ 64 72 80 88 96 104 112 120 (by decide) (by decide) (by decide) (by decide) (by decide) (by decide) (by decide) (by decide) (by decide)
  | 60, _, h => by subst h; exact own_g8_0 x _ _ 64 72 80 88 96 104 112 120 (by decide) (by decide) (by decide) (by decide) (by decide) (by decide) (by decide) (by decide) (by decide)
  | 61, _, h => by subst h; exact own_g8_0 x _ _ 64 72 80 88 96 104 112 120 (by decide) (by decide) (by decide) (by decide) (by decide) (by decide) (by decide) (by decide) (by decide)
  | 62, _, h => by subst h; exact own_g8_0 x _ _ 64 72 80 88 96 104 112 120 (by decide) (by decide) (by decide) (by decide) (by decide) (by decide) (by decide) (by decide) (by decide)
  | 63, _, h => by subst h; exact own_g8_0 x _ _ 64 72 80 88 96 104 112 120 (by decide) (by decide) (by decide) (by decide) (by decide) (by decide) (by decide) (by decide) (by decide)
  | 64, _, h => by subst h; exact own_g8_0 x _ _ 64 72 80 88 96 104 112 120 (by decide) (by decide) (by decide) (by decide) (by decide) (by decide) (by decide) (by decide) (by decide)
  | 65, _, h => by subst h; exact own_g8_1 x _ _ 64 72 80 88 96 104 112 120 (by decide) (by decide) (by decide) (by decide) (by decide) (by decide) (by decide) (by decide) (by decide)
  | 66, _, h => by subst h; exact own_g8_2 x _ _ 64 72 80 88 96 104 112 120 (by decide) (by decide) (by decide) (by decide) (by decide) (by decide) (by decide) (by decide) (by decide)
  | 67, _, h => by subst h; exact own_g8_3 x _ _ 64 72 80 88 96 104 112 120 (by decide) (by decide) (by decide) (by decide) (by decide) (by decide) (by decide) (by decide) (by decide)
  | 68, _, h => by subst h; exact own_g8_4 x _ _ 64 72 80 88 96 104 112 120 (by decide) (by decide) (by decide) (by decide) (by decide) (by decide) (by decide) (by decide) (by decide)
  | 69, _, h => by subst h; exact own_g8_5 x _ _ 64 72 80 88 96 104 112 120 (by decide) (by decide) (by decide) (by decide) (by decide) (by decide) (by decide) (by decide) (by decide)
  | 70, _, h => by subst h; exact own_g8_6 x _ _ 64 72 80 88 96 104 112 120 (by decide) (by decide) (by decide) (by decide) (by decide) (by decide) (by decide) (by decide) (by decide)
  | 71, _, h => by subst h; exact own_g8_7 x _ _ 64 72 80 88 96 104 112 120 (by decide) (by decide) (by decide) (by decide) (by decide) (by decide) (by decide) (by decide) (by decide)
  | 72, _, h => by subst h; exact own_g8_8 x _ _ 64 72 80 88 96 104 112 120 (by decide) (by decide) (by decide) (by decide) (by decide) (by decide) (by decide) (by decide) (by decide)
  | 73, _, h => by subst h; exact own_g8_9 x _ _ 64 72 80 88 96 104 112 120 (by decide) (by decide) (by decide) (by decide) (by decide) (by decide) (by decide) (by decide) (by decide)
  | 74, _, h => by subst h; exact own_g8_10 x _ _ 64 72 80 88 96 104 112 120 (by decide) (by decide) (by decide) (by decide) (by decide) (by decide) (by decide) (by decide) (by decide)
  | 75, _, h => by subst h; exact own_g8_11 x _ _ 64 72 80 88 96 104 112 120 (by decide) (by decide) (by decide) (by decide) (by decide) (by decide) (by decide) (by decide) (by decide)
  | 76, _, h => by subst h; exact own_g8_12 x _ _ 64 72 80 88 96 104 112 120 (by decide) (by decide) (by decide) (by decide) (by decide) (by decide) (by decide) (by decide) (by decide)
  | 77, _, h => by subst h; exact own_g8_13 x _ _ 64 72 80 88 96 104 112 120 (by decide) (by decide) (by decide) (by decide) (by decide) (by decide) (by decide) (by decide) (by decide)
  | 78, _, h => by subst h; exact own_g8_14 x _ _ 64 72 80 88 96 104 112 120 (by decide) (by decide) (by decide) (by decide) (by decide) (by decide) (by decide) (by decide) (by decide)
  | 79, _, h => by subst h; exact own_g8_15 x _ _ 64 72 80 88 96 104 112 120 (by decide) (by decide) (by decide) (by decide) (by decide) (by decide) (by decide) (by decide) (by decide)
  | 80, _, h => by subst h; exact own_g8_16 x _ _ 64 72 80 88 96 104 112 120 (by decide) (by decide) (by decide) (by decide) (by decide) (by decide) (by decide) (by decide) (by decide)
  | 81, _, h => by subst h; exact own_g8_17 x _ _ 64 72 80 88 96 104 112 120 (by decide) (by decide) (by decide) (by decide) (by decide) (by decide) (by decide) (by decide) (by decide)
  | 82, _, h => by subst h; exact own_g8_18 x _ _ 64 72 80 88 96 104 112 120 (by decide) (by decide) (by decide) (by decide) (by decide) (by decide) (by decide) (by decide) (by decide)
  | 83, _, h => by subst h; exact own_g8_19 x _ _ 64 72 80 88 96 104 112 120 (by decide) (by decide) (by decide) (by decide) (by decide) (by decide) (by decide) (by decide) (by decide)
  | 84, _, h => by subst h; exact own_g8_20 x _ _ 64 72 80 88 96 104 112 120 (by decide) (by decide) (by decide) (by decide) (by decide) (by decide) (by decide) (by decide) (by decide)
  | 85, _, h => by subst h; exact own_g8_21 x _ _ 64 72 80 88 96 104 112 120 (by decide) (by decide) (by decide) (by decide) (by decide) (by decide) (by decide) (by decide) (by decide)
  | 86, _, h => by subst h; exact own_g8_22 x _ _ 64 72 80 88 96 104 112 120 (by decide) (by decide) (by decide) (by decide) (by decide) (by decide) (by decide) (by decide) (by decide)
  | 87, _, h => by subst h; exact own_g8_23 x _ _ 64 72 80 88 96 104 112 120 (by decide) (by decide) (by decide) (by decide) (by decide) (by decide) (by decide) (by decide) (by decide)
  | 88, _, h => by subst h; exact own_g8_24 x _ _ 64 72 80 88 96 104 112 120 (by decide) (by decide) (by decide) (by decide) (by decide) (by decide) (by decide) (by decide) (by decide)
  | 89, _, h => by subst h; exact own_g8_25 x _ _ 64 72 80 88 96 104 112 120 (by decide) (by decide) (by decide) (by decide) (by decide) (by decide) (by decide) (by decide) (by decide)
  | 90, _, h => by subst h; exact own_g8_26 x _ _ 64 72 80 88 96 104 112 120 (by decide) (by decide) (by decide) (by decide) (by decide) (by decide) (by decide) (by decide) (by decide)
  | 91, _, h => by subst h; exact own_g8_27 x _ _ 64 72 80 88 96 104 112 120 (by decide) (by decide) (by decide) (by decide) (by decide) (by decide) (by decide) (by decide) (by decide)
  | 92, _, h => by subst h; exact own_g8_28 x _ _ 64 72 80 88 96 104 112 120 (by decide) (by decide) (by decide) (by decide) (by decide) (by decide) (by decide) (by decide) (by decide)
  | 93, _, h => by subst h; exact own_g8_29 x _ _ 64 72 80 88 96 104 112 120 (by decide) (by decide) (by decide) (by decide) (by decide) (by decide) (by decide) (by decide) (by decide)
  | 94, _, h => by subst h; exact own_g8_30 x _ _ 64 72 80 88 96 104 112 120 (by decide) (by decide) (by decide) (by decide) (by decide) (by decide) (by decide) (by decide) (by decide)
  | 95, _, h => by subst h; exact own_g8_31 x _ _ 64 72 80 88 96 104 112 120 (by decide) (by decide) (by decide) (by decide) (by decide) (by decide) (by decide) (by decide) (by decide)
  | 96, _, h => by subst h; exact own_g8_32 x _ _ 64 72 80 88 96 104 112 120 (by decide) (by decide) (by decide) (by decide) (by decide) (by decide) (by decide) (by decide) (by decide)
  | 97, _, h => by subst h; exact own_g8_33 x _ _ 64 72 80 88 96 104 112 120 (by decide) (by decide) (by decide) (by decide) (by decide) (by decide) (by decide) (by decide) (by decide)
  | 98, _, h => by subst h; exact own_g8_34 x _ _ 64 72 80 88 96 104 112 120 (by decide) (by decide) (by decide) (by decide) (by decide) (by decide) (by decide) (by decide) (by decide)
  | 99, _, h => by subst h; exact own_g8_35 x _ _ 64 72 80 88 96 104 112 120 (by decide) (by decide) (by decide) (by decide) (by decide) (by decide) (by decide) (by decide) (by decide)
  | 100, _, h => by subst h; exact own_g8_36 x _ _ 64 72 80 88 96 104 112 120 (by decide) (by decide) (by decide) (by decide) (by decide) (by decide) (by decide) (by decide) (by decide)
  | 101, _, h => by subst h; exact own_g8_37 x _ _ 64 72 80 88 96 104 112 120 (by decide) (by decide) (by decide) (by decide) (by decide) (by decide) (by decide) (by decide) (by decide)
  | 102, _, h => by subst h; exact own_g8_38 x _ _ 64 72 80 88 96 104 112 120 (by decide) (by decide) (by decide) (by decide) (by decide) (by decide) (by decide) (by decide) (by decide)
  | 103, _, h => by subst h; exact own_g8_39 x _ _ 64 72 80 88 96 104 112 120 (by decide) (by decide) (by decide) (by decide) (by decide) (by decide) (by decide) (by decide) (by decide)
  | 104, _, h => by subst h; exact own_g8_40 x _ _ 64 72 80 88 96 104 112 120 (by decide) (by decide) (by decide) (by decide) (by decide) (by decide) (by decide) (by decide) (by decide)
  | 105, _, h => by subst h; exact own_g8_41 x _ _ 64 72 80 88 96 104 112 120 (by decide) (by decide) (by decide) (by decide) (by decide) (by decide) (by decide) (by decide) (by decide)
  | 106, _, h => by subst h; exact own_g8_42 x _ _ 64 72 80 88 96 104 112 120 (by decide) (by decide) (by decide) (by decide) (by decide) (by decide) (by decide) (by decide) (by decide)
  | 107, _, h => by subst h; exact own_g8_43 x _ _ 64 72 80 88 96 104 112 120 (by decide) (by decide) (by decide) (by decide) (by decide) (by decide) (by decide) (by decide) (by decide)
  | 108, _, h => by subst h; exact own_g8_44 x _ _ 64 72 80 88 96 104 112 120 (by decide) (by decide) (by decide) (by decide) (by decide) (by decide) (by decide) (by decide) (by decide)
  | 109, _, h => by subst h; exact own_g8_45 x _ _ 64 72 80 88 96 104 112 120 (by decide) (by decide) (by decide) (by decide) (by decide) (by decide) (by decide) (by decide) (by decide)
  | 110, _, h => by subst h; exact own_g8_46 x _ _ 64 72 80 88 96 104 112 120 (by decide) (by decide) (by decide) (by decide) (by decide) (by decide) (by decide) (by decide) (by decide)
  | 111, _, h => by subst h; exact own_g8_47 x _ _ 64 72 80 88 96 104 112 120 (by decide) (by decide) (by decide) (by decide) (by decide) (by decide) (by decide) (by decide) (by decide)
  | 112, _, h => by subst h; exact own_g8_48 x _ _ 64 72 80 88 96 104 112 120 (by decide) (by decide) (by decide) (by decide) (by decide) (by decide) (by decide) (by decide) (by decide)
  | 113, _, h => by subst h; exact own_g8_49 x _ _ 64 72 80 88 96 104 112 120 (by decide) (by decide) (by decide) (by decide) (by decide) (by decide) (by decide) (by decide) (by decide)
  | 114, _, h => by subst h; exact own_g8_50 x _ _ 64 72 80 88 96 104 112 120 (by decide) (by decide) (by decide) (by decide) (by decide) (by decide) (by decide) (by decide) (by decide)
  | 115, _, h => by subst h; exact own_g8_51 x _ _ 64 72 80 88 96 104 112 120 (by decide) (by decide) (by decide) (by decide) (by decide) (by decide) (by decide) (by decide) (by decide)
  | 116, _, h => by subst h; exact own_g8_52 x _ _ 64 72 80 88 96 104 112 120 (by decide) (by decide) (by decide) (by decide) (by decide) (by decide) (by decide) (by decide) (by decide)
  | 117, _, h => by subst h; exact own_g8_53 x _ _ 64 72 80 88 96 104 112 120 (by decide) (by decide) (by decide) (by decide) (by decide) (by decide) (by decide) (by decide) (by decide)
  | 118, _, h => by subst h; exact own_g8_54 x _ _ 64 72 80 88 96 104 112 120 (by decide) (by decide) (by decide) (by decide) (by decide) (by decide) (by decide) (by decide) (by decide)
  | 119, _, h => by subst h; exact own_g8_55 x _ _ 64 72 80 88 96 104 112 120 (by decide) (by decide) (by decide) (by decide) (by decide) (by decide) (by decide) (by decide) (by decide)
  | 120, _, h => by subst h; exact own_g8_56 x _ _ 64 72 80 88 96 104 112 120 (by decide) (by decide) (by decide) (by decide) (by decide) (by decide) (by decide) (by decide) (by decide)
  | 121, _, h => by subst h; exact own_g8_57 x _ _ 64 72 80 88 96 104 112 120 (by decide) (by decide) (by decide) (by decide) (by decide) (by decide) (by decide) (by decide) (by decide)
  | 122, _, h => by subst h; exact own_g8_58 x _ _ 64 72 80 88 96 104 112 120 (by decide) (by decide) (by decide) (by decide) (by decide) (by decide) (by decide) (by decide) (by decide)
  | 123, _, h => by subst h; exact own_g8_59 x _ _ 64 72 80 88 96 104 112 120 (by decide) (by decide) (by decide) (by decide) (by decide) (by decide) (by decide) (by decide) (by decide)
  | 124, _, h => by subst h; exact own_g8_60 x _ _ 64 72 80 88 96 104 112 120 (by decide) (by decide) (by decide) (by decide) (by decide) (by decide) (by decide) (by decide) (by decide)
  | 125, _, h => by subst h; exact own_g8_61 x _ _ 64 72 80 88 96 104 112 120 (by decide) (by decide) (by decide) (by decide) (by decide) (by decide) (by decide) (by decide) (by decide)
  | 126, _, h => by subst h; exact own_g8_62 x _ _ 64 72 80 88 96 104 112 120 (by decide) (by decide) (by decide) (by decide) (by decide) (by decide) (by decide) (by decide) (by decide)
  | 127, _, h => by subst h; exact own_g8_63 x _ _ 64 72 80 88 96 104 112 120 (by decide) (by decide) (by decide) (by decide) (by decide) (by decide) (by decide) (by decide) (by decide)
  | 128, _, h => by subst h; exact own_g8_64 x _ _ 64 72 80 88 96 104 112 120 (by decide) (by decide) (by decide) (by decide) (by decide) (by decide) (by decide) (by decide) (by decide)
  | k + 129, h, _ => absurd h (by omega)
theorem own_md (p x d : Int32) (D : Nat) (h0 : 0 < D) (hD : D < 1000) (hd : d.toInt = (D : Int)) (hx : (p &&& 2147483647) % d = x) : ∃ k : Nat, k < D ∧ x = Int32.ofInt (k : Int) := by
  have a : (p &&& (2147483647 : Int32)).toInt = p.toInt % (2 ^ 31 : Nat) := c_mask _ 2147483647 31 (by decide) (by decide)
  have b : x.toInt = (p &&& (2147483647 : Int32)).toInt.tmod d.toInt := by rw [← hx]; exact Int32.toInt_mod _ _
  rw [hd] at b
  have a0 : 0 ≤ (p &&& (2147483647 : Int32)).toInt := by rw [a]; exact Int.emod_nonneg _ (by decide)
  rw [Int.tmod_eq_emod_of_nonneg a0] at b
  have c1 := Int.emod_nonneg (p &&& (2147483647 : Int32)).toInt (b := (D : Int)) (by omega)
  have c2 := Int.emod_lt_of_pos (p &&& (2147483647 : Int32)).toInt (b := (D : Int)) (by omega)
  rw [← b] at c1 c2
  refine ⟨x.toInt.toNat, by omega, ?_⟩
  have e : ((x.toInt.toNat : Nat) : Int) = x.toInt := by omega
  rw [e, Int32.ofInt_toInt]
theorem own_w4n (w B : Int32) : ∀ k : Nat, k < 33 → B = Int32.ofInt (k : Int) → own_p4 (own_nb (own_bi w 24) B 0) (own_nb (own_bi w 16) B 8) (own_nb (own_bi w 8) B 16) (own_nb (own_bz w) B 24) = w &&& (if B = 0 then 0 else (-1 : Int32) <<< (((32 : Int32) - B) &&& 31))
  | 0, _, h => by subst h; exact own_w4_0 w
  | 1, _, h => by subst h; exact own_w4_1 w
  | 2, _, h => by subst h; exact own_w4_2 w
  | 3, _, h => by subst h; exact own_w4_3 w
  | 4, _, h => by subst h; exact own_w4_4 w
  | 5, _, h => by subst h; exact own_w4_5 w
  | 6, _, h => by subst h; exact own_w4_6 w
  | 7, _, h => by subst h; exact own_w4_7 w
  | 8, _, h => by subst h; exact own_w4_8 w
  | 9, _, h => by subst h; exact own_w4_9 w
  | 10, _, h => by subst h; exact own_w4_10 w
  | 11, _, h => by subst h; exact own_w4_11 w
  | 12, _, h => by subst h; exact own_w4_12 w
  | 13, _, h => by subst h; exact own_w4_13 w
  | 14, _, h => by subst h; exact own_w4_14 w
  | 15, _, h => by subst h; exact own_w4_15 w
  | 16, _, h => by subst h; exact own_w4_16 w
  | 17, _, h => by subst h; exact own_w4_17 w
  | 18, _, h => by subst h; exact own_w4_18 w
  | 19, _, h => by subst h; exact own_w4_19 w
  | 20, _, h => by subst h; exact own_w4_20 w
  | 21, _, h => by subst h; exact own_w4_21 w
  | 22, _, h => by subst h; exact own_w4_22 w
  | 23, _, h => by subst h; exact own_w4_23 w
  | 24, _, h => by subst h; exact own_w4_24 w
  | 25, _, h => by subst h; exact own_w4_25 w
  | 26, _, h => by subst h; exact own_w4_26 w
  | 27, _, h => by subst h; exact own_w4_27 w
  | 28, _, h => by subst h; exact own_w4_28 w
  | 29, _, h => by subst h; exact own_w4_29 w
  | 30, _, h => by subst h; exact own_w4_30 w
  | 31, _, h => by subst h; exact own_w4_31 w
  | 32, _, h => by subst h; exact own_w4_32 w
  | k + 33, h, _ => absurd h (by omega)
theorem own_w4 (w B p m : Int32) (hx : (p &&& 2147483647) % 33 = B) (hm : m = if B = 0 then 0 else (-1 : Int32) <<< (((32 : Int32) - B) &&& 31)) : own_p4 (own_nb (own_bi w 24) B 0) (own_nb (own_bi w 16) B 8) (own_nb (own_bi w 8) B 16) (own_nb (own_bz w) B 24) = w &&& m := by
  obtain ⟨k, h1, h2⟩ := own_md p B 33 33 (by decide) (by decide) (by decide) hx
  rw [hm]; exact own_w4n w B k h1 h2
theorem own_hi (x m : Int64) (B p : Int32) (hx : (p &&& 2147483647) % 129 = B) (hm : m = if B < 64 then (if B = 0 then 0 else (-1 : Int64) <<< (((64 : Int32) - B) &&& 63).toInt64) else (-1 : Int64)) : own_p8 (own_nb (own_by x 56) B 0) (own_nb (own_by x 48) B 8) (own_nb (own_by x 40) B 16) (own_nb (own_by x 32) B 24) (own_nb (own_by x 24) B 32) (own_nb (own_by x 16) B 40) (own_nb (own_by x 8) B 48) (own_nb (own_b0 x) B 56) = x &&& m := by
  obtain ⟨k, h1, h2⟩ := own_md p B 129 129 (by decide) (by decide) (by decide) hx
  rw [hm]; exact own_hin x B k h1 h2
theorem own_lo (x m : Int64) (B p : Int32) (hx : (p &&& 2147483647) % 129 = B) (hm : m = if (64 : Int32) < B then (-1 : Int64) <<< (((128 : Int32) - B) &&& 63).toInt64 else 0) : own_p8 (own_nb (own_by x 56) B 64) (own_nb (own_by x 48) B 72) (own_nb (own_by x 40) B 80) (own_nb (own_by x 32) B 88) (own_nb (own_by x 24) B 96) (own_nb (own_by x 16) B 104) (own_nb (own_by x 8) B 112) (own_nb (own_b0 x) B 120) = x &&& m := by
  obtain ⟨k, h1, h2⟩ := own_md p B 129 129 (by decide) (by decide) (by decide) hx
  rw [hm]; exact own_lon x B k h1 h2
theorem own_id8 (x : Int64) : own_p8 (own_by x 56) (own_by x 48) (own_by x 40) (own_by x 32) (own_by x 24) (own_by x 16) (own_by x 8) (own_b0 x) = x := by
  have b0 := own_byv x 56 56 (by decide) (by decide)
  have b1 := own_byv x 48 48 (by decide) (by decide)
  have b2 := own_byv x 40 40 (by decide) (by decide)
  have b3 := own_byv x 32 32 (by decide) (by decide)
  have b4 := own_byv x 24 24 (by decide) (by decide)
  have b5 := own_byv x 16 16 (by decide) (by decide)
  have b6 := own_byv x 8 8 (by decide) (by decide)
  have b7 := own_b0v x
  have P := own_p8v (own_by x 56) (own_by x 48) (own_by x 40) (own_by x 32) (own_by x 24) (own_by x 16) (own_by x 8) (own_b0 x)
  have R1 := rng64 (own_p8 (own_by x 56) (own_by x 48) (own_by x 40) (own_by x 32) (own_by x 24) (own_by x 16) (own_by x 8) (own_b0 x))
  have R3 := rng64 x
  rw [b0.1, b1.1, b2.1, b3.1, b4.1, b5.1, b6.1, b7.1] at P
  have Z := own_sum x.toInt (x.toInt % 18446744073709551616) _ rfl P
  clear P b0 b1 b2 b3 b4 b5 b6 b7
  apply Int64.toInt_inj.mp
  generalize own_p8 (own_by x 56) (own_by x 48) (own_by x 40) (own_by x 32) (own_by x 24) (own_by x 16) (own_by x 8) (own_b0 x) = p at *
  omega
abbrev fL0 (y0 : Addr) (y1 : Int32) : Array Slot := #[.val (.ref y0), .val (.int y1), .unset, .unset, .unset]
abbrev fL1 (y0 : Addr) (y1 : Int32) (y2 : Addr) : Array Slot := #[.val (.ref y0), .val (.int y1), .val (.ref y2), .unset, .unset]
abbrev fL2 (y0 : Addr) (y1 : Int32) (y2 : Addr) (y3 : Int32) : Array Slot := #[.val (.ref y0), .val (.int y1), .val (.ref y2), .val (.int y3), .unset]
abbrev fL3 (y0 : Addr) (y1 : Int32) (y2 : Addr) (y3 : Int32) (y4 : Int32) : Array Slot := #[.val (.ref y0), .val (.int y1), .val (.ref y2), .val (.int y3), .val (.int y4)]
abbrev fL4 (y0 : Int64) (y1 : Int64) (y2 : Int32) (y3 : Int32) : Array Slot := #[.val (.long y0), .second, .val (.long y1), .second, .val (.int y2), .val (.int y3), .unset, .unset, .unset, .unset, .unset, .unset, .unset]
abbrev fL5 (y0 : Int64) (y1 : Int64) (y2 : Int32) (y3 : Int32) (y4 : Int32) : Array Slot := #[.val (.long y0), .second, .val (.long y1), .second, .val (.int y2), .val (.int y3), .val (.int y4), .unset, .unset, .unset, .unset, .unset, .unset]
abbrev fL6 (y0 : Int64) (y1 : Int64) (y2 : Int32) (y3 : Int32) (y4 : Int32) (y5 : Int32) : Array Slot := #[.val (.long y0), .second, .val (.long y1), .second, .val (.int y2), .val (.int y3), .val (.int y4), .val (.int y5), .unset, .unset, .unset, .unset, .unset]
abbrev fL7 (y0 : Int64) (y1 : Int64) (y2 : Int32) (y3 : Int32) (y4 : Int32) (y5 : Int32) (y6 : Addr) : Array Slot := #[.val (.long y0), .second, .val (.long y1), .second, .val (.int y2), .val (.int y3), .val (.int y4), .val (.int y5), .val (.ref y6), .unset, .unset, .unset, .unset]
abbrev fL8 (y0 : Int64) (y1 : Int64) (y2 : Int32) (y3 : Int32) (y4 : Int32) (y5 : Int32) (y6 : Addr) (y7 : Int32) : Array Slot := #[.val (.long y0), .second, .val (.long y1), .second, .val (.int y2), .val (.int y3), .val (.int y4), .val (.int y5), .val (.ref y6), .val (.int y7), .unset, .unset, .unset]
abbrev fL9 (y0 : Int64) (y1 : Int64) (y2 : Int32) (y3 : Int32) (y4 : Int32) (y5 : Int32) (y6 : Addr) (y7 : Int32) (y8 : Addr) : Array Slot := #[.val (.long y0), .second, .val (.long y1), .second, .val (.int y2), .val (.int y3), .val (.int y4), .val (.int y5), .val (.ref y6), .val (.int y7), .val (.ref y8), .unset, .unset]
abbrev fL10 (y0 : Int64) (y1 : Int64) (y2 : Int32) (y3 : Int32) (y4 : Int32) (y5 : Addr) : Array Slot := #[.val (.long y0), .second, .val (.long y1), .second, .val (.int y2), .val (.int y3), .val (.int y4), .val (.ref y5), .unset, .unset, .unset, .unset, .unset]
abbrev fL11 (y0 : Int64) (y1 : Int64) (y2 : Int32) (y3 : Int32) (y4 : Int32) (y5 : Addr) (y6 : Int64) : Array Slot := #[.val (.long y0), .second, .val (.long y1), .second, .val (.int y2), .val (.int y3), .val (.int y4), .val (.ref y5), .val (.long y6), .second, .unset, .unset, .unset]
abbrev fL12 (y0 : Int64) (y1 : Int64) (y2 : Int32) (y3 : Int32) (y4 : Int32) (y5 : Addr) (y6 : Int64) (y7 : Int64) : Array Slot := #[.val (.long y0), .second, .val (.long y1), .second, .val (.int y2), .val (.int y3), .val (.int y4), .val (.ref y5), .val (.long y6), .second, .val (.long y7), .second, .unset]
abbrev fL13 (y0 : Int64) (y1 : Int64) (y2 : Int32) (y3 : Int32) (y4 : Int32) (y5 : Addr) (y6 : Int64) (y7 : Int64) (y8 : Addr) : Array Slot := #[.val (.long y0), .second, .val (.long y1), .second, .val (.int y2), .val (.int y3), .val (.int y4), .val (.ref y5), .val (.long y6), .second, .val (.long y7), .second, .val (.ref y8)]
theorem d_jdk_29_method_69_code_0 : decode jdk_29_method_69_code 0 = .ok (.iload_n 0, 1) := by decide +kernel
theorem d_jdk_29_method_69_code_1 : decode jdk_29_method_69_code 1 = .ok (.iload_n 1, 1) := by decide +kernel
theorem d_jdk_29_method_69_code_2 : decode jdk_29_method_69_code 2 = .ok (.if_icmp .gt 7, 3) := by decide +kernel
theorem d_jdk_29_method_69_code_9 : decode jdk_29_method_69_code 9 = .ok (.iload_n 1, 1) := by decide +kernel
theorem d_jdk_29_method_69_code_10 : decode jdk_29_method_69_code 10 = .ok (.ireturn, 1) := by decide +kernel
theorem d_jdk_29_method_69_code_5 : decode jdk_29_method_69_code 5 = .ok (.iload_n 0, 1) := by decide +kernel
theorem d_jdk_29_method_69_code_6 : decode jdk_29_method_69_code 6 = .ok (.goto 4, 3) := by decide +kernel
theorem ef_rm_min (m : MethodId) (y0 : Int32) (y1 : Int32) : entryFrame m #[(.int y0), (.int y1)] 2 = mkF m 0 #[.val (.int y0), .val (.int y1)] [] := by first | (simp [entryFrame, mkF, argsToLocals, Value.category]; done) | rfl
def Q_rm_min (Z : State) (p0 : Int32) (p1 : Int32) (h0 : Heap) (n0 : Nat) (v : Option Value) (h : Heap) (L : List Loc) : Prop := v = some (.int (own_min p0 p1)) ∧ Fr n0 L ∧ h = h0
set_option maxRecDepth 65536 in
set_option maxHeartbeats 40000000 in
theorem rm_min (l : Launch) (Z : State) (a0 : Array Value) (hw : ∀ d ∈ tables_1, d.before a0 Z = true) (ws : List Jvm.Cond) (p0 : Int32) (p1 : Int32) (h0 : Heap) (n0 : Nat) :
    MetFree l (⟨"java/lang/Math", "min", "(II)I"⟩ : MethodName) (head1 (Jvm.Cond.code (⟨"java/lang/Math", "min", "(II)I"⟩ : MethodName) jdk_29_method_69_code 2 (some .int) :: ws) ({ frames := 0, cells := 0, slots := 0, locals := 0 } : Room)) (fun a U => a = #[(.int p0), (.int p1)] ∧ Z.Warmed39 U.vm ∧ U.heap = h0) (fun _ _ _ _ _ => True) (fun _ U o U' => ∃ v L, o = .returned v ∧ Q_rm_min Z p0 p1 h0 n0 v U'.heap L ∧ FrameEnd U o U' L 0 0) := by
  refine MetFree.of_bodySF (Jvm.Free.JP.mathPlain rfl (by decide +kernel)) hisR ?_
  intro p e s m args below meth c s₁ Bd hml0 hP hK
  obtain ⟨rfl, hZ, hh⟩ := hP
  have hx := Bd.exec
  have hby := Bd.bytes
  have hlk := Bd.notSynchronized
  have hml : c.maxLocals = 2 := hml0
  have hown : s.vm.findClass "java/lang/Math" = some m.cls := findClass_of_methodNamed Bd.named
  have hnm := (name_of_methodNamed Bd.named Bd.method).1
  have X0 : Stand p l e ({ frames := 0, cells := 0, slots := 0, locals := 0 } : Room) s m #[(.int p0), (.int p1)] below meth c s₁ [] 0 0 := Stand.of_body Bd
  have e0 : s₁.heap = h0 := by rw [← hh, Bd.state]; rfl
  have N0 := Fr.nil n0
  show OwnEnd p e below s (Q_rm_min Z p0 p1 h0 n0) 0 0 (s₁.setTop (entryFrame m #[(.int p0), (.int p1)] 2))
  refine go (fun t k => castTop (ef_rm_min m p0 p1) k) ?_
  show OwnEnd _ _ _ _ _ _ _ (s₁.setTop (mkF m 0 #[.val (.int p0), .val (.int p1)] []))
  refine go (fun _ k => by refine XS.iloadN X0.here hx rfl (hb hby d_jdk_29_method_69_code_0) rfl ?_; exact k) ?_
  refine go (fun _ k => by refine XS.iloadN X0.here hx rfl (hb hby d_jdk_29_method_69_code_1) rfl ?_; exact k) ?_
  show OwnEnd _ _ _ _ _ _ _ (s₁.setTop (mkF m 2 #[.val (.int p0), .val (.int p1)] [(.int p1), (.int p0)]))
  by_cases hc2_1 : p1 < p0
  · refine go (fun _ k => by refine XS.icmpYes X0.here hx rfl (pc0 := 2) (pc' := 9) rfl (hb hby d_jdk_29_method_69_code_2) rfl (tlt hc2_1).2.2.1 (by decide) (by decide) ?_; exact k) ?_
    show OwnEnd _ _ _ _ _ _ _ (s₁.setTop (mkF m 9 #[.val (.int p0), .val (.int p1)] []))
    refine go (fun _ k => by refine XS.iloadN X0.here hx rfl (hb hby d_jdk_29_method_69_code_9) rfl ?_; exact k) ?_
    show OwnEnd _ _ _ _ _ _ _ (s₁.setTop (mkF m 10 #[.val (.int p0), .val (.int p1)] [(.int p1)]))
    refine endI X0 hx hlk Bd.returns (hb hby d_jdk_29_method_69_code_10) e0 (by decide) (by decide) ?_
    exact ⟨by unfold own_min; rw [if_pos (by assumption)], N0, rfl⟩
  · refine go (fun _ k => by refine XS.icmpNo X0.here hx rfl (hb hby d_jdk_29_method_69_code_2) rfl (flt hc2_1).2.2.1 ?_; exact k) ?_
    show OwnEnd _ _ _ _ _ _ _ (s₁.setTop (mkF m 5 #[.val (.int p0), .val (.int p1)] []))
    refine go (fun _ k => by refine XS.iloadN X0.here hx rfl (hb hby d_jdk_29_method_69_code_5) rfl ?_; exact k) ?_
    refine go (fun _ k => by refine XS.goto X0.here hx rfl (pc0 := 6) (pc' := 10) rfl (hb hby d_jdk_29_method_69_code_6) (by decide) (by decide) ?_; exact k) ?_
    show OwnEnd _ _ _ _ _ _ _ (s₁.setTop (mkF m 10 #[.val (.int p0), .val (.int p1)] [(.int p0)]))
    refine endI X0 hx hlk Bd.returns (hb hby d_jdk_29_method_69_code_10) e0 (by decide) (by decide) ?_
    exact ⟨by unfold own_min; rw [if_neg (by assumption)], N0, rfl⟩
theorem d_jdk_29_method_65_code_0 : decode jdk_29_method_65_code 0 = .ok (.iload_n 0, 1) := by decide +kernel
theorem d_jdk_29_method_65_code_1 : decode jdk_29_method_65_code 1 = .ok (.iload_n 1, 1) := by decide +kernel
theorem d_jdk_29_method_65_code_2 : decode jdk_29_method_65_code 2 = .ok (.if_icmp .lt 7, 3) := by decide +kernel
theorem d_jdk_29_method_65_code_9 : decode jdk_29_method_65_code 9 = .ok (.iload_n 1, 1) := by decide +kernel
theorem d_jdk_29_method_65_code_10 : decode jdk_29_method_65_code 10 = .ok (.ireturn, 1) := by decide +kernel
theorem d_jdk_29_method_65_code_5 : decode jdk_29_method_65_code 5 = .ok (.iload_n 0, 1) := by decide +kernel
theorem d_jdk_29_method_65_code_6 : decode jdk_29_method_65_code 6 = .ok (.goto 4, 3) := by decide +kernel
theorem ef_rm_max (m : MethodId) (y0 : Int32) (y1 : Int32) : entryFrame m #[(.int y0), (.int y1)] 2 = mkF m 0 #[.val (.int y0), .val (.int y1)] [] := by first | (simp [entryFrame, mkF, argsToLocals, Value.category]; done) | rfl
def Q_rm_max (Z : State) (p0 : Int32) (p1 : Int32) (h0 : Heap) (n0 : Nat) (v : Option Value) (h : Heap) (L : List Loc) : Prop := v = some (.int (own_max p0 p1)) ∧ Fr n0 L ∧ h = h0
set_option maxRecDepth 65536 in
set_option maxHeartbeats 40000000 in
theorem rm_max (l : Launch) (Z : State) (a0 : Array Value) (hw : ∀ d ∈ tables_1, d.before a0 Z = true) (ws : List Jvm.Cond) (p0 : Int32) (p1 : Int32) (h0 : Heap) (n0 : Nat) :
    MetFree l (⟨"java/lang/Math", "max", "(II)I"⟩ : MethodName) (head1 (Jvm.Cond.code (⟨"java/lang/Math", "max", "(II)I"⟩ : MethodName) jdk_29_method_65_code 2 (some .int) :: ws) ({ frames := 0, cells := 0, slots := 0, locals := 0 } : Room)) (fun a U => a = #[(.int p0), (.int p1)] ∧ Z.Warmed39 U.vm ∧ U.heap = h0) (fun _ _ _ _ _ => True) (fun _ U o U' => ∃ v L, o = .returned v ∧ Q_rm_max Z p0 p1 h0 n0 v U'.heap L ∧ FrameEnd U o U' L 0 0) := by
  refine MetFree.of_bodySF (Jvm.Free.JP.mathPlain rfl (by decide +kernel)) hisR ?_
  intro p e s m args below meth c s₁ Bd hml0 hP hK
  obtain ⟨rfl, hZ, hh⟩ := hP
  have hx := Bd.exec
  have hby := Bd.bytes
  have hlk := Bd.notSynchronized
  have hml : c.maxLocals = 2 := hml0
  have hown : s.vm.findClass "java/lang/Math" = some m.cls := findClass_of_methodNamed Bd.named
  have hnm := (name_of_methodNamed Bd.named Bd.method).1
  have X0 : Stand p l e ({ frames := 0, cells := 0, slots := 0, locals := 0 } : Room) s m #[(.int p0), (.int p1)] below meth c s₁ [] 0 0 := Stand.of_body Bd
  have e0 : s₁.heap = h0 := by rw [← hh, Bd.state]; rfl
  have N0 := Fr.nil n0
  show OwnEnd p e below s (Q_rm_max Z p0 p1 h0 n0) 0 0 (s₁.setTop (entryFrame m #[(.int p0), (.int p1)] 2))
  refine go (fun t k => castTop (ef_rm_max m p0 p1) k) ?_
  show OwnEnd _ _ _ _ _ _ _ (s₁.setTop (mkF m 0 #[.val (.int p0), .val (.int p1)] []))
  refine go (fun _ k => by refine XS.iloadN X0.here hx rfl (hb hby d_jdk_29_method_65_code_0) rfl ?_; exact k) ?_
  refine go (fun _ k => by refine XS.iloadN X0.here hx rfl (hb hby d_jdk_29_method_65_code_1) rfl ?_; exact k) ?_
  show OwnEnd _ _ _ _ _ _ _ (s₁.setTop (mkF m 2 #[.val (.int p0), .val (.int p1)] [(.int p1), (.int p0)]))
  by_cases hc2_1 : p0 < p1
  · refine go (fun _ k => by refine XS.icmpYes X0.here hx rfl (pc0 := 2) (pc' := 9) rfl (hb hby d_jdk_29_method_65_code_2) rfl (tlt hc2_1).1 (by decide) (by decide) ?_; exact k) ?_
    show OwnEnd _ _ _ _ _ _ _ (s₁.setTop (mkF m 9 #[.val (.int p0), .val (.int p1)] []))
    refine go (fun _ k => by refine XS.iloadN X0.here hx rfl (hb hby d_jdk_29_method_65_code_9) rfl ?_; exact k) ?_
    show OwnEnd _ _ _ _ _ _ _ (s₁.setTop (mkF m 10 #[.val (.int p0), .val (.int p1)] [(.int p1)]))
    refine endI X0 hx hlk Bd.returns (hb hby d_jdk_29_method_65_code_10) e0 (by decide) (by decide) ?_
    exact ⟨by unfold own_max; rw [if_pos (by assumption)], N0, rfl⟩
  · refine go (fun _ k => by refine XS.icmpNo X0.here hx rfl (hb hby d_jdk_29_method_65_code_2) rfl (flt hc2_1).1 ?_; exact k) ?_
    show OwnEnd _ _ _ _ _ _ _ (s₁.setTop (mkF m 5 #[.val (.int p0), .val (.int p1)] []))
    refine go (fun _ k => by refine XS.iloadN X0.here hx rfl (hb hby d_jdk_29_method_65_code_5) rfl ?_; exact k) ?_
    refine go (fun _ k => by refine XS.goto X0.here hx rfl (pc0 := 6) (pc' := 10) rfl (hb hby d_jdk_29_method_65_code_6) (by decide) (by decide) ?_; exact k) ?_
    show OwnEnd _ _ _ _ _ _ _ (s₁.setTop (mkF m 10 #[.val (.int p0), .val (.int p1)] [(.int p0)]))
    refine endI X0 hx hlk Bd.returns (hb hby d_jdk_29_method_65_code_10) e0 (by decide) (by decide) ?_
    exact ⟨by unfold own_max; rw [if_neg (by assumption)], N0, rfl⟩
theorem d_method_3_code_0 : decode method_3_code 0 = .ok (.aload_n 0, 1) := by decide +kernel
theorem d_method_3_code_1 : decode method_3_code 1 = .ok (.iload_n 1, 1) := by decide +kernel
theorem d_method_3_code_2 : decode method_3_code 2 = .ok (.lload_n 2, 1) := by decide +kernel
theorem d_method_3_code_3 : decode method_3_code 3 = .ok (.bipush 56, 2) := by decide +kernel
theorem d_method_3_code_5 : decode method_3_code 5 = .ok (.lushr, 1) := by decide +kernel
theorem d_method_3_code_6 : decode method_3_code 6 = .ok (.l2i, 1) := by decide +kernel
theorem d_method_3_code_7 : decode method_3_code 7 = .ok (.i2b, 1) := by decide +kernel
theorem d_method_3_code_8 : decode method_3_code 8 = .ok (.bastore, 1) := by decide +kernel
theorem d_method_3_code_9 : decode method_3_code 9 = .ok (.aload_n 0, 1) := by decide +kernel
theorem d_method_3_code_10 : decode method_3_code 10 = .ok (.iload_n 1, 1) := by decide +kernel
theorem d_method_3_code_11 : decode method_3_code 11 = .ok (.iconst 1, 1) := by decide +kernel
theorem d_method_3_code_12 : decode method_3_code 12 = .ok (.iadd, 1) := by decide +kernel
theorem d_method_3_code_13 : decode method_3_code 13 = .ok (.lload_n 2, 1) := by decide +kernel
theorem d_method_3_code_14 : decode method_3_code 14 = .ok (.bipush 48, 2) := by decide +kernel
theorem d_method_3_code_16 : decode method_3_code 16 = .ok (.lushr, 1) := by decide +kernel
theorem d_method_3_code_17 : decode method_3_code 17 = .ok (.l2i, 1) := by decide +kernel
theorem d_method_3_code_18 : decode method_3_code 18 = .ok (.i2b, 1) := by decide +kernel
theorem d_method_3_code_19 : decode method_3_code 19 = .ok (.bastore, 1) := by decide +kernel
theorem d_method_3_code_20 : decode method_3_code 20 = .ok (.aload_n 0, 1) := by decide +kernel
theorem d_method_3_code_21 : decode method_3_code 21 = .ok (.iload_n 1, 1) := by decide +kernel
theorem d_method_3_code_22 : decode method_3_code 22 = .ok (.iconst 2, 1) := by decide +kernel
theorem d_method_3_code_23 : decode method_3_code 23 = .ok (.iadd, 1) := by decide +kernel
theorem d_method_3_code_24 : decode method_3_code 24 = .ok (.lload_n 2, 1) := by decide +kernel
theorem d_method_3_code_25 : decode method_3_code 25 = .ok (.bipush 40, 2) := by decide +kernel
theorem d_method_3_code_27 : decode method_3_code 27 = .ok (.lushr, 1) := by decide +kernel
theorem d_method_3_code_28 : decode method_3_code 28 = .ok (.l2i, 1) := by decide +kernel
theorem d_method_3_code_29 : decode method_3_code 29 = .ok (.i2b, 1) := by decide +kernel
theorem d_method_3_code_30 : decode method_3_code 30 = .ok (.bastore, 1) := by decide +kernel
theorem d_method_3_code_31 : decode method_3_code 31 = .ok (.aload_n 0, 1) := by decide +kernel
theorem d_method_3_code_32 : decode method_3_code 32 = .ok (.iload_n 1, 1) := by decide +kernel
theorem d_method_3_code_33 : decode method_3_code 33 = .ok (.iconst 3, 1) := by decide +kernel
theorem d_method_3_code_34 : decode method_3_code 34 = .ok (.iadd, 1) := by decide +kernel
theorem d_method_3_code_35 : decode method_3_code 35 = .ok (.lload_n 2, 1) := by decide +kernel
theorem d_method_3_code_36 : decode method_3_code 36 = .ok (.bipush 32, 2) := by decide +kernel
theorem d_method_3_code_38 : decode method_3_code 38 = .ok (.lushr, 1) := by decide +kernel
theorem d_method_3_code_39 : decode method_3_code 39 = .ok (.l2i, 1) := by decide +kernel
theorem d_method_3_code_40 : decode method_3_code 40 = .ok (.i2b, 1) := by decide +kernel
theorem d_method_3_code_41 : decode method_3_code 41 = .ok (.bastore, 1) := by decide +kernel
theorem d_method_3_code_42 : decode method_3_code 42 = .ok (.aload_n 0, 1) := by decide +kernel
theorem d_method_3_code_43 : decode method_3_code 43 = .ok (.iload_n 1, 1) := by decide +kernel
theorem d_method_3_code_44 : decode method_3_code 44 = .ok (.iconst 4, 1) := by decide +kernel
theorem d_method_3_code_45 : decode method_3_code 45 = .ok (.iadd, 1) := by decide +kernel
theorem d_method_3_code_46 : decode method_3_code 46 = .ok (.lload_n 2, 1) := by decide +kernel
theorem d_method_3_code_47 : decode method_3_code 47 = .ok (.bipush 24, 2) := by decide +kernel
theorem d_method_3_code_49 : decode method_3_code 49 = .ok (.lushr, 1) := by decide +kernel
theorem d_method_3_code_50 : decode method_3_code 50 = .ok (.l2i, 1) := by decide +kernel
theorem d_method_3_code_51 : decode method_3_code 51 = .ok (.i2b, 1) := by decide +kernel
theorem d_method_3_code_52 : decode method_3_code 52 = .ok (.bastore, 1) := by decide +kernel
theorem d_method_3_code_53 : decode method_3_code 53 = .ok (.aload_n 0, 1) := by decide +kernel
theorem d_method_3_code_54 : decode method_3_code 54 = .ok (.iload_n 1, 1) := by decide +kernel
theorem d_method_3_code_55 : decode method_3_code 55 = .ok (.iconst 5, 1) := by decide +kernel
theorem d_method_3_code_56 : decode method_3_code 56 = .ok (.iadd, 1) := by decide +kernel
theorem d_method_3_code_57 : decode method_3_code 57 = .ok (.lload_n 2, 1) := by decide +kernel
theorem d_method_3_code_58 : decode method_3_code 58 = .ok (.bipush 16, 2) := by decide +kernel
theorem d_method_3_code_60 : decode method_3_code 60 = .ok (.lushr, 1) := by decide +kernel
theorem d_method_3_code_61 : decode method_3_code 61 = .ok (.l2i, 1) := by decide +kernel
theorem d_method_3_code_62 : decode method_3_code 62 = .ok (.i2b, 1) := by decide +kernel
theorem d_method_3_code_63 : decode method_3_code 63 = .ok (.bastore, 1) := by decide +kernel
theorem d_method_3_code_64 : decode method_3_code 64 = .ok (.aload_n 0, 1) := by decide +kernel
theorem d_method_3_code_65 : decode method_3_code 65 = .ok (.iload_n 1, 1) := by decide +kernel
theorem d_method_3_code_66 : decode method_3_code 66 = .ok (.bipush 6, 2) := by decide +kernel
theorem d_method_3_code_68 : decode method_3_code 68 = .ok (.iadd, 1) := by decide +kernel
theorem d_method_3_code_69 : decode method_3_code 69 = .ok (.lload_n 2, 1) := by decide +kernel
theorem d_method_3_code_70 : decode method_3_code 70 = .ok (.bipush 8, 2) := by decide +kernel
theorem d_method_3_code_72 : decode method_3_code 72 = .ok (.lushr, 1) := by decide +kernel
theorem d_method_3_code_73 : decode method_3_code 73 = .ok (.l2i, 1) := by decide +kernel
theorem d_method_3_code_74 : decode method_3_code 74 = .ok (.i2b, 1) := by decide +kernel
theorem d_method_3_code_75 : decode method_3_code 75 = .ok (.bastore, 1) := by decide +kernel
theorem d_method_3_code_76 : decode method_3_code 76 = .ok (.aload_n 0, 1) := by decide +kernel
theorem d_method_3_code_77 : decode method_3_code 77 = .ok (.iload_n 1, 1) := by decide +kernel
theorem d_method_3_code_78 : decode method_3_code 78 = .ok (.bipush 7, 2) := by decide +kernel
theorem d_method_3_code_80 : decode method_3_code 80 = .ok (.iadd, 1) := by decide +kernel
theorem d_method_3_code_81 : decode method_3_code 81 = .ok (.lload_n 2, 1) := by decide +kernel
theorem d_method_3_code_82 : decode method_3_code 82 = .ok (.l2i, 1) := by decide +kernel
theorem d_method_3_code_83 : decode method_3_code 83 = .ok (.i2b, 1) := by decide +kernel
theorem d_method_3_code_84 : decode method_3_code 84 = .ok (.bastore, 1) := by decide +kernel
theorem d_method_3_code_85 : decode method_3_code 85 = .ok (.return_, 1) := by decide +kernel
theorem pn_com_example_sliding_gate_slidinggate_IpAddressesNetworkPinLaw : plainName "com/example/sliding_gate/slidinggate/IpAddressesNetworkPinLaw" = true := by first | (simp [plainName, overriddenIn]; done) | decide +kernel
theorem ef_rm_put0 (m : MethodId) (y0 : Addr) (y2 : Int64) : entryFrame m #[(.ref y0), (.int (0 : Int32)), (.long y2)] 4 = mkF m 0 #[.val (.ref y0), .val (.int (0 : Int32)), .val (.long y2), .second] [] := by first | (simp [entryFrame, mkF, argsToLocals, Value.category]; done) | rfl
def Q_rm_put0 (Z : State) (a0' : Addr) (q2 : Int64) (k : ClassId) (y0 : Int32) (y1 : Int32) (y2 : Int32) (y3 : Int32) (y4 : Int32) (y5 : Int32) (y6 : Int32) (y7 : Int32) (y8 : Int32) (y9 : Int32) (y10 : Int32) (y11 : Int32) (y12 : Int32) (y13 : Int32) (y14 : Int32) (y15 : Int32) (h0 : Heap) (n0 : Nat) (v : Option Value) (h : Heap) (L : List Loc) : Prop := v = none ∧ Fr n0 L ∧ Keep h0 h [a0'] ∧ Arv Z h a0' k .byte 16 [(.int (own_by q2 56)), (.int (own_by q2 48)), (.int (own_by q2 40)), (.int (own_by q2 32)), (.int (own_by q2 24)), (.int (own_by q2 16)), (.int (own_by q2 8)), (.int (own_b0 q2)), (.int y8), (.int y9), (.int y10), (.int y11), (.int y12), (.int y13), (.int y14), (.int y15)] (.int 0)
set_option maxRecDepth 65536 in
set_option maxHeartbeats 40000000 in
theorem rm_put0 (l : Launch) (Z : State) (a0 : Array Value) (hw : ∀ d ∈ tables_1, d.before a0 Z = true) (ws : List Jvm.Cond) (a0' : Addr) (q2 : Int64) (k : ClassId) (y0 : Int32) (y1 : Int32) (y2 : Int32) (y3 : Int32) (y4 : Int32) (y5 : Int32) (y6 : Int32) (y7 : Int32) (y8 : Int32) (y9 : Int32) (y10 : Int32) (y11 : Int32) (y12 : Int32) (y13 : Int32) (y14 : Int32) (y15 : Int32) (h0 : Heap) (n0 : Nat) (ga : n0 ≤ a0') (VA : Arv Z h0 a0' k .byte 16 [(.int y0), (.int y1), (.int y2), (.int y3), (.int y4), (.int y5), (.int y6), (.int y7), (.int y8), (.int y9), (.int y10), (.int y11), (.int y12), (.int y13), (.int y14), (.int y15)] (.int 0)) :
    MetFree l (⟨"com/example/sliding_gate/slidinggate/IpAddressesNetworkPinLaw", "put8", "([BIJ)V"⟩ : MethodName) (head1 (Jvm.Cond.code (⟨"com/example/sliding_gate/slidinggate/IpAddressesNetworkPinLaw", "put8", "([BIJ)V"⟩ : MethodName) method_3_code 4 none :: ws) ({ frames := 0, cells := 0, slots := 0, locals := 0 } : Room)) (fun a U => a = #[(.ref a0'), (.int (0 : Int32)), (.long q2)] ∧ Z.Warmed39 U.vm ∧ U.heap = h0) (fun _ _ _ _ _ => True) (fun _ U o U' => ∃ v L, o = .returned v ∧ Q_rm_put0 Z a0' q2 k y0 y1 y2 y3 y4 y5 y6 y7 y8 y9 y10 y11 y12 y13 y14 y15 h0 n0 v U'.heap L ∧ FrameEnd U o U' L 0 0) := by
  refine MetFree.of_bodySF (plainFor_of_name pn_com_example_sliding_gate_slidinggate_IpAddressesNetworkPinLaw) hisR ?_
  intro p e s m args below meth c s₁ Bd hml0 hP hK
  obtain ⟨rfl, hZ, hh⟩ := hP
  have hx := Bd.exec
  have hby := Bd.bytes
  have hlk := Bd.notSynchronized
  have hml : c.maxLocals = 4 := hml0
  have hown : s.vm.findClass "com/example/sliding_gate/slidinggate/IpAddressesNetworkPinLaw" = some m.cls := findClass_of_methodNamed Bd.named
  have hnm := (name_of_methodNamed Bd.named Bd.method).1
  have X0 : Stand p l e ({ frames := 0, cells := 0, slots := 0, locals := 0 } : Room) s m #[(.ref a0'), (.int (0 : Int32)), (.long q2)] below meth c s₁ [] 0 0 := Stand.of_body Bd
  have e0 : s₁.heap = h0 := by rw [← hh, Bd.state]; rfl
  have N0 := Fr.nil n0
  show OwnEnd p e below s (Q_rm_put0 Z a0' q2 k y0 y1 y2 y3 y4 y5 y6 y7 y8 y9 y10 y11 y12 y13 y14 y15 h0 n0) 0 0 (s₁.setTop (entryFrame m #[(.ref a0'), (.int (0 : Int32)), (.long q2)] 4))
  refine go (fun t k => castTop (ef_rm_put0 m a0' q2) k) ?_
  have KK := Keep.refl h0 [a0']
  show OwnEnd _ _ _ _ _ _ _ (s₁.setTop (mkF m 0 #[.val (.ref a0'), .val (.int (0 : Int32)), .val (.long q2), .second] []))
  refine go (fun _ k => by refine XS.aloadN X0.here hx rfl (hb hby d_method_3_code_0) rfl rfl ?_; exact k) ?_
  refine go (fun _ k => by refine XS.iloadN X0.here hx rfl (hb hby d_method_3_code_1) rfl ?_; exact k) ?_
  refine go (fun _ k => by refine XS.lloadN X0.here hx rfl (hb hby d_method_3_code_2) rfl ?_; exact k) ?_
  refine go (fun _ k => by refine XS.bipush X0.here hx rfl (hb hby d_method_3_code_3) ?_; exact k) ?_
  show OwnEnd _ _ _ _ _ _ _ (s₁.setTop (mkF m 5 #[.val (.ref a0'), .val (.int (0 : Int32)), .val (.long q2), .second] [(.int (56 : Int32)), (.long q2), (.int (0 : Int32)), (.ref a0')]))
  refine go (fun _ k => by refine XS.lushr X0.here hx rfl (hb hby d_method_3_code_5) rfl ?_; exact k) ?_
  refine go (fun _ k => by refine XS.l2i X0.here hx rfl (hb hby d_method_3_code_6) rfl ?_; exact k) ?_
  refine go (fun _ k => by refine XS.i2b X0.here hx rfl (hb hby d_method_3_code_7) rfl ?_; exact k) ?_
  show OwnEnd _ _ _ _ _ _ _ (s₁.setTop (mkF m 8 #[.val (.ref a0'), .val (.int (0 : Int32)), .val (.long q2), .second] [(.int ((((q2.toUInt64 >>> ((56 : Int32) &&& 0x3f).toInt64.toUInt64).toInt64).toInt32).toInt8.toInt32)), (.int (0 : Int32)), (.ref a0')]))
  obtain ⟨T1, h1, X1, e1, W1, VA', st1⟩ := stBv X0 hx hZ e0 VA (j := (0 : Int32)) (i := 0) (by decide) (by decide) (by decide) (Nat.le_of_ble_eq_true rfl) (g := (mkF m 8 #[.val (.ref a0'), .val (.int (0 : Int32)), .val (.long q2), .second] [(.int ((((q2.toUInt64 >>> ((56 : Int32) &&& 0x3f).toInt64.toUInt64).toInt64).toInt32).toInt8.toInt32)), (.int (0 : Int32)), (.ref a0')])) rfl rfl (hb hby d_method_3_code_8)
  have N1 := Fr.snoc X1 N0 ga
  have KK := Keep.wr KK W1 (Or.inl (List.mem_of_getElem? (i := 0) rfl))
  have VA : Arv Z h1 a0' k .byte (16 : Int32) [(.int (own_by q2 56)), (.int y1), (.int y2), (.int y3), (.int y4), (.int y5), (.int y6), (.int y7), (.int y8), (.int y9), (.int y10), (.int y11), (.int y12), (.int y13), (.int y14), (.int y15)] (.int (0 : Int32)) := VA'
  refine go st1 ?_
  refine go (fun _ k => by refine XS.aloadN X1.here hx rfl (hb hby d_method_3_code_9) rfl rfl ?_; exact k) ?_
  refine go (fun _ k => by refine XS.iloadN X1.here hx rfl (hb hby d_method_3_code_10) rfl ?_; exact k) ?_
  refine go (fun _ k => by refine XS.iconst X1.here hx rfl (hb hby d_method_3_code_11) ?_; exact k) ?_
  show OwnEnd _ _ _ _ _ _ _ (T1.setTop (mkF m 12 #[.val (.ref a0'), .val (.int (0 : Int32)), .val (.long q2), .second] [(.int (1 : Int32)), (.int (0 : Int32)), (.ref a0')]))
  refine go (fun _ k => by refine XS.iadd X1.here hx rfl (hb hby d_method_3_code_12) rfl ?_; exact k) ?_
  show OwnEnd _ _ _ _ _ _ _ (T1.setTop (mkF m 13 #[.val (.ref a0'), .val (.int (0 : Int32)), .val (.long q2), .second] [(.int ((0 : Int32) + (1 : Int32))), (.ref a0')]))
  rw [show ((0 : Int32) + (1 : Int32)) = (1 : Int32) from by decide]
  refine go (fun _ k => by refine XS.lloadN X1.here hx rfl (hb hby d_method_3_code_13) rfl ?_; exact k) ?_
  refine go (fun _ k => by refine XS.bipush X1.here hx rfl (hb hby d_method_3_code_14) ?_; exact k) ?_
  refine go (fun _ k => by refine XS.lushr X1.here hx rfl (hb hby d_method_3_code_16) rfl ?_; exact k) ?_
  show OwnEnd _ _ _ _ _ _ _ (T1.setTop (mkF m 17 #[.val (.ref a0'), .val (.int (0 : Int32)), .val (.long q2), .second] [(.long ((q2.toUInt64 >>> ((48 : Int32) &&& 0x3f).toInt64.toUInt64).toInt64)), (.int (1 : Int32)), (.ref a0')]))
  refine go (fun _ k => by refine XS.l2i X1.here hx rfl (hb hby d_method_3_code_17) rfl ?_; exact k) ?_
  refine go (fun _ k => by refine XS.i2b X1.here hx rfl (hb hby d_method_3_code_18) rfl ?_; exact k) ?_
  show OwnEnd _ _ _ _ _ _ _ (T1.setTop (mkF m 19 #[.val (.ref a0'), .val (.int (0 : Int32)), .val (.long q2), .second] [(.int ((((q2.toUInt64 >>> ((48 : Int32) &&& 0x3f).toInt64.toUInt64).toInt64).toInt32).toInt8.toInt32)), (.int (1 : Int32)), (.ref a0')]))
  obtain ⟨T2, h2, X2, e2, W2, VA', st2⟩ := stBv X1 hx hZ e1 VA (j := (1 : Int32)) (i := 1) (by decide) (by decide) (by decide) (Nat.le_of_ble_eq_true rfl) (g := (mkF m 19 #[.val (.ref a0'), .val (.int (0 : Int32)), .val (.long q2), .second] [(.int ((((q2.toUInt64 >>> ((48 : Int32) &&& 0x3f).toInt64.toUInt64).toInt64).toInt32).toInt8.toInt32)), (.int (1 : Int32)), (.ref a0')])) rfl rfl (hb hby d_method_3_code_19)
  have N2 := Fr.snoc X2 N1 ga
  have KK := Keep.wr KK W2 (Or.inl (List.mem_of_getElem? (i := 0) rfl))
  have VA : Arv Z h2 a0' k .byte (16 : Int32) [(.int (own_by q2 56)), (.int (own_by q2 48)), (.int y2), (.int y3), (.int y4), (.int y5), (.int y6), (.int y7), (.int y8), (.int y9), (.int y10), (.int y11), (.int y12), (.int y13), (.int y14), (.int y15)] (.int (0 : Int32)) := VA'
  refine go st2 ?_
  refine go (fun _ k => by refine XS.aloadN X2.here hx rfl (hb hby d_method_3_code_20) rfl rfl ?_; exact k) ?_
  refine go (fun _ k => by refine XS.iloadN X2.here hx rfl (hb hby d_method_3_code_21) rfl ?_; exact k) ?_
  refine go (fun _ k => by refine XS.iconst X2.here hx rfl (hb hby d_method_3_code_22) ?_; exact k) ?_
  show OwnEnd _ _ _ _ _ _ _ (T2.setTop (mkF m 23 #[.val (.ref a0'), .val (.int (0 : Int32)), .val (.long q2), .second] [(.int (2 : Int32)), (.int (0 : Int32)), (.ref a0')]))
  refine go (fun _ k => by refine XS.iadd X2.here hx rfl (hb hby d_method_3_code_23) rfl ?_; exact k) ?_
  show OwnEnd _ _ _ _ _ _ _ (T2.setTop (mkF m 24 #[.val (.ref a0'), .val (.int (0 : Int32)), .val (.long q2), .second] [(.int ((0 : Int32) + (2 : Int32))), (.ref a0')]))
  rw [show ((0 : Int32) + (2 : Int32)) = (2 : Int32) from by decide]
  refine go (fun _ k => by refine XS.lloadN X2.here hx rfl (hb hby d_method_3_code_24) rfl ?_; exact k) ?_
  refine go (fun _ k => by refine XS.bipush X2.here hx rfl (hb hby d_method_3_code_25) ?_; exact k) ?_
  refine go (fun _ k => by refine XS.lushr X2.here hx rfl (hb hby d_method_3_code_27) rfl ?_; exact k) ?_
  show OwnEnd _ _ _ _ _ _ _ (T2.setTop (mkF m 28 #[.val (.ref a0'), .val (.int (0 : Int32)), .val (.long q2), .second] [(.long ((q2.toUInt64 >>> ((40 : Int32) &&& 0x3f).toInt64.toUInt64).toInt64)), (.int (2 : Int32)), (.ref a0')]))
  refine go (fun _ k => by refine XS.l2i X2.here hx rfl (hb hby d_method_3_code_28) rfl ?_; exact k) ?_
  refine go (fun _ k => by refine XS.i2b X2.here hx rfl (hb hby d_method_3_code_29) rfl ?_; exact k) ?_
  show OwnEnd _ _ _ _ _ _ _ (T2.setTop (mkF m 30 #[.val (.ref a0'), .val (.int (0 : Int32)), .val (.long q2), .second] [(.int ((((q2.toUInt64 >>> ((40 : Int32) &&& 0x3f).toInt64.toUInt64).toInt64).toInt32).toInt8.toInt32)), (.int (2 : Int32)), (.ref a0')]))
  obtain ⟨T3, h3, X3, e3, W3, VA', st3⟩ := stBv X2 hx hZ e2 VA (j := (2 : Int32)) (i := 2) (by decide) (by decide) (by decide) (Nat.le_of_ble_eq_true rfl) (g := (mkF m 30 #[.val (.ref a0'), .val (.int (0 : Int32)), .val (.long q2), .second] [(.int ((((q2.toUInt64 >>> ((40 : Int32) &&& 0x3f).toInt64.toUInt64).toInt64).toInt32).toInt8.toInt32)), (.int (2 : Int32)), (.ref a0')])) rfl rfl (hb hby d_method_3_code_30)
  have N3 := Fr.snoc X3 N2 ga
  have KK := Keep.wr KK W3 (Or.inl (List.mem_of_getElem? (i := 0) rfl))
  have VA : Arv Z h3 a0' k .byte (16 : Int32) [(.int (own_by q2 56)), (.int (own_by q2 48)), (.int (own_by q2 40)), (.int y3), (.int y4), (.int y5), (.int y6), (.int y7), (.int y8), (.int y9), (.int y10), (.int y11), (.int y12), (.int y13), (.int y14), (.int y15)] (.int (0 : Int32)) := VA'
  refine go st3 ?_
  refine go (fun _ k => by refine XS.aloadN X3.here hx rfl (hb hby d_method_3_code_31) rfl rfl ?_; exact k) ?_
  refine go (fun _ k => by refine XS.iloadN X3.here hx rfl (hb hby d_method_3_code_32) rfl ?_; exact k) ?_
  refine go (fun _ k => by refine XS.iconst X3.here hx rfl (hb hby d_method_3_code_33) ?_; exact k) ?_
  show OwnEnd _ _ _ _ _ _ _ (T3.setTop (mkF m 34 #[.val (.ref a0'), .val (.int (0 : Int32)), .val (.long q2), .second] [(.int (3 : Int32)), (.int (0 : Int32)), (.ref a0')]))
  refine go (fun _ k => by refine XS.iadd X3.here hx rfl (hb hby d_method_3_code_34) rfl ?_; exact k) ?_
  show OwnEnd _ _ _ _ _ _ _ (T3.setTop (mkF m 35 #[.val (.ref a0'), .val (.int (0 : Int32)), .val (.long q2), .second] [(.int ((0 : Int32) + (3 : Int32))), (.ref a0')]))
  rw [show ((0 : Int32) + (3 : Int32)) = (3 : Int32) from by decide]
  refine go (fun _ k => by refine XS.lloadN X3.here hx rfl (hb hby d_method_3_code_35) rfl ?_; exact k) ?_
  refine go (fun _ k => by refine XS.bipush X3.here hx rfl (hb hby d_method_3_code_36) ?_; exact k) ?_
  refine go (fun _ k => by refine XS.lushr X3.here hx rfl (hb hby d_method_3_code_38) rfl ?_; exact k) ?_
  show OwnEnd _ _ _ _ _ _ _ (T3.setTop (mkF m 39 #[.val (.ref a0'), .val (.int (0 : Int32)), .val (.long q2), .second] [(.long ((q2.toUInt64 >>> ((32 : Int32) &&& 0x3f).toInt64.toUInt64).toInt64)), (.int (3 : Int32)), (.ref a0')]))
  refine go (fun _ k => by refine XS.l2i X3.here hx rfl (hb hby d_method_3_code_39) rfl ?_; exact k) ?_
  refine go (fun _ k => by refine XS.i2b X3.here hx rfl (hb hby d_method_3_code_40) rfl ?_; exact k) ?_
  show OwnEnd _ _ _ _ _ _ _ (T3.setTop (mkF m 41 #[.val (.ref a0'), .val (.int (0 : Int32)), .val (.long q2), .second] [(.int ((((q2.toUInt64 >>> ((32 : Int32) &&& 0x3f).toInt64.toUInt64).toInt64).toInt32).toInt8.toInt32)), (.int (3 : Int32)), (.ref a0')]))
  obtain ⟨T4, h4, X4, e4, W4, VA', st4⟩ := stBv X3 hx hZ e3 VA (j := (3 : Int32)) (i := 3) (by decide) (by decide) (by decide) (Nat.le_of_ble_eq_true rfl) (g := (mkF m 41 #[.val (.ref a0'), .val (.int (0 : Int32)), .val (.long q2), .second] [(.int ((((q2.toUInt64 >>> ((32 : Int32) &&& 0x3f).toInt64.toUInt64).toInt64).toInt32).toInt8.toInt32)), (.int (3 : Int32)), (.ref a0')])) rfl rfl (hb hby d_method_3_code_41)
  have N4 := Fr.snoc X4 N3 ga
  have KK := Keep.wr KK W4 (Or.inl (List.mem_of_getElem? (i := 0) rfl))
  have VA : Arv Z h4 a0' k .byte (16 : Int32) [(.int (own_by q2 56)), (.int (own_by q2 48)), (.int (own_by q2 40)), (.int (own_by q2 32)), (.int y4), (.int y5), (.int y6), (.int y7), (.int y8), (.int y9), (.int y10), (.int y11), (.int y12), (.int y13), (.int y14), (.int y15)] (.int (0 : Int32)) := VA'
  refine go st4 ?_
  refine go (fun _ k => by refine XS.aloadN X4.here hx rfl (hb hby d_method_3_code_42) rfl rfl ?_; exact k) ?_
  refine go (fun _ k => by refine XS.iloadN X4.here hx rfl (hb hby d_method_3_code_43) rfl ?_; exact k) ?_
  refine go (fun _ k => by refine XS.iconst X4.here hx rfl (hb hby d_method_3_code_44) ?_; exact k) ?_
  show OwnEnd _ _ _ _ _ _ _ (T4.setTop (mkF m 45 #[.val (.ref a0'), .val (.int (0 : Int32)), .val (.long q2), .second] [(.int (4 : Int32)), (.int (0 : Int32)), (.ref a0')]))
  refine go (fun _ k => by refine XS.iadd X4.here hx rfl (hb hby d_method_3_code_45) rfl ?_; exact k) ?_
  show OwnEnd _ _ _ _ _ _ _ (T4.setTop (mkF m 46 #[.val (.ref a0'), .val (.int (0 : Int32)), .val (.long q2), .second] [(.int ((0 : Int32) + (4 : Int32))), (.ref a0')]))
  rw [show ((0 : Int32) + (4 : Int32)) = (4 : Int32) from by decide]
  refine go (fun _ k => by refine XS.lloadN X4.here hx rfl (hb hby d_method_3_code_46) rfl ?_; exact k) ?_
  refine go (fun _ k => by refine XS.bipush X4.here hx rfl (hb hby d_method_3_code_47) ?_; exact k) ?_
  refine go (fun _ k => by refine XS.lushr X4.here hx rfl (hb hby d_method_3_code_49) rfl ?_; exact k) ?_
  show OwnEnd _ _ _ _ _ _ _ (T4.setTop (mkF m 50 #[.val (.ref a0'), .val (.int (0 : Int32)), .val (.long q2), .second] [(.long ((q2.toUInt64 >>> ((24 : Int32) &&& 0x3f).toInt64.toUInt64).toInt64)), (.int (4 : Int32)), (.ref a0')]))
  refine go (fun _ k => by refine XS.l2i X4.here hx rfl (hb hby d_method_3_code_50) rfl ?_; exact k) ?_
  refine go (fun _ k => by refine XS.i2b X4.here hx rfl (hb hby d_method_3_code_51) rfl ?_; exact k) ?_
  show OwnEnd _ _ _ _ _ _ _ (T4.setTop (mkF m 52 #[.val (.ref a0'), .val (.int (0 : Int32)), .val (.long q2), .second] [(.int ((((q2.toUInt64 >>> ((24 : Int32) &&& 0x3f).toInt64.toUInt64).toInt64).toInt32).toInt8.toInt32)), (.int (4 : Int32)), (.ref a0')]))
  obtain ⟨T5, h5, X5, e5, W5, VA', st5⟩ := stBv X4 hx hZ e4 VA (j := (4 : Int32)) (i := 4) (by decide) (by decide) (by decide) (Nat.le_of_ble_eq_true rfl) (g := (mkF m 52 #[.val (.ref a0'), .val (.int (0 : Int32)), .val (.long q2), .second] [(.int ((((q2.toUInt64 >>> ((24 : Int32) &&& 0x3f).toInt64.toUInt64).toInt64).toInt32).toInt8.toInt32)), (.int (4 : Int32)), (.ref a0')])) rfl rfl (hb hby d_method_3_code_52)
  have N5 := Fr.snoc X5 N4 ga
  have KK := Keep.wr KK W5 (Or.inl (List.mem_of_getElem? (i := 0) rfl))
  have VA : Arv Z h5 a0' k .byte (16 : Int32) [(.int (own_by q2 56)), (.int (own_by q2 48)), (.int (own_by q2 40)), (.int (own_by q2 32)), (.int (own_by q2 24)), (.int y5), (.int y6), (.int y7), (.int y8), (.int y9), (.int y10), (.int y11), (.int y12), (.int y13), (.int y14), (.int y15)] (.int (0 : Int32)) := VA'
  refine go st5 ?_
  refine go (fun _ k => by refine XS.aloadN X5.here hx rfl (hb hby d_method_3_code_53) rfl rfl ?_; exact k) ?_
  refine go (fun _ k => by refine XS.iloadN X5.here hx rfl (hb hby d_method_3_code_54) rfl ?_; exact k) ?_
  refine go (fun _ k => by refine XS.iconst X5.here hx rfl (hb hby d_method_3_code_55) ?_; exact k) ?_
  show OwnEnd _ _ _ _ _ _ _ (T5.setTop (mkF m 56 #[.val (.ref a0'), .val (.int (0 : Int32)), .val (.long q2), .second] [(.int (5 : Int32)), (.int (0 : Int32)), (.ref a0')]))
  refine go (fun _ k => by refine XS.iadd X5.here hx rfl (hb hby d_method_3_code_56) rfl ?_; exact k) ?_
  show OwnEnd _ _ _ _ _ _ _ (T5.setTop (mkF m 57 #[.val (.ref a0'), .val (.int (0 : Int32)), .val (.long q2), .second] [(.int ((0 : Int32) + (5 : Int32))), (.ref a0')]))
  rw [show ((0 : Int32) + (5 : Int32)) = (5 : Int32) from by decide]
  refine go (fun _ k => by refine XS.lloadN X5.here hx rfl (hb hby d_method_3_code_57) rfl ?_; exact k) ?_
  refine go (fun _ k => by refine XS.bipush X5.here hx rfl (hb hby d_method_3_code_58) ?_; exact k) ?_
  refine go (fun _ k => by refine XS.lushr X5.here hx rfl (hb hby d_method_3_code_60) rfl ?_; exact k) ?_
  show OwnEnd _ _ _ _ _ _ _ (T5.setTop (mkF m 61 #[.val (.ref a0'), .val (.int (0 : Int32)), .val (.long q2), .second] [(.long ((q2.toUInt64 >>> ((16 : Int32) &&& 0x3f).toInt64.toUInt64).toInt64)), (.int (5 : Int32)), (.ref a0')]))
  refine go (fun _ k => by refine XS.l2i X5.here hx rfl (hb hby d_method_3_code_61) rfl ?_; exact k) ?_
  refine go (fun _ k => by refine XS.i2b X5.here hx rfl (hb hby d_method_3_code_62) rfl ?_; exact k) ?_
  show OwnEnd _ _ _ _ _ _ _ (T5.setTop (mkF m 63 #[.val (.ref a0'), .val (.int (0 : Int32)), .val (.long q2), .second] [(.int ((((q2.toUInt64 >>> ((16 : Int32) &&& 0x3f).toInt64.toUInt64).toInt64).toInt32).toInt8.toInt32)), (.int (5 : Int32)), (.ref a0')]))
  obtain ⟨T6, h6, X6, e6, W6, VA', st6⟩ := stBv X5 hx hZ e5 VA (j := (5 : Int32)) (i := 5) (by decide) (by decide) (by decide) (Nat.le_of_ble_eq_true rfl) (g := (mkF m 63 #[.val (.ref a0'), .val (.int (0 : Int32)), .val (.long q2), .second] [(.int ((((q2.toUInt64 >>> ((16 : Int32) &&& 0x3f).toInt64.toUInt64).toInt64).toInt32).toInt8.toInt32)), (.int (5 : Int32)), (.ref a0')])) rfl rfl (hb hby d_method_3_code_63)
  have N6 := Fr.snoc X6 N5 ga
  have KK := Keep.wr KK W6 (Or.inl (List.mem_of_getElem? (i := 0) rfl))
  have VA : Arv Z h6 a0' k .byte (16 : Int32) [(.int (own_by q2 56)), (.int (own_by q2 48)), (.int (own_by q2 40)), (.int (own_by q2 32)), (.int (own_by q2 24)), (.int (own_by q2 16)), (.int y6), (.int y7), (.int y8), (.int y9), (.int y10), (.int y11), (.int y12), (.int y13), (.int y14), (.int y15)] (.int (0 : Int32)) := VA'
  refine go st6 ?_
  refine go (fun _ k => by refine XS.aloadN X6.here hx rfl (hb hby d_method_3_code_64) rfl rfl ?_; exact k) ?_
  refine go (fun _ k => by refine XS.iloadN X6.here hx rfl (hb hby d_method_3_code_65) rfl ?_; exact k) ?_
  refine go (fun _ k => by refine XS.bipush X6.here hx rfl (hb hby d_method_3_code_66) ?_; exact k) ?_
  show OwnEnd _ _ _ _ _ _ _ (T6.setTop (mkF m 68 #[.val (.ref a0'), .val (.int (0 : Int32)), .val (.long q2), .second] [(.int (6 : Int32)), (.int (0 : Int32)), (.ref a0')]))
  refine go (fun _ k => by refine XS.iadd X6.here hx rfl (hb hby d_method_3_code_68) rfl ?_; exact k) ?_
  show OwnEnd _ _ _ _ _ _ _ (T6.setTop (mkF m 69 #[.val (.ref a0'), .val (.int (0 : Int32)), .val (.long q2), .second] [(.int ((0 : Int32) + (6 : Int32))), (.ref a0')]))
  rw [show ((0 : Int32) + (6 : Int32)) = (6 : Int32) from by decide]
  refine go (fun _ k => by refine XS.lloadN X6.here hx rfl (hb hby d_method_3_code_69) rfl ?_; exact k) ?_
  refine go (fun _ k => by refine XS.bipush X6.here hx rfl (hb hby d_method_3_code_70) ?_; exact k) ?_
  refine go (fun _ k => by refine XS.lushr X6.here hx rfl (hb hby d_method_3_code_72) rfl ?_; exact k) ?_
  show OwnEnd _ _ _ _ _ _ _ (T6.setTop (mkF m 73 #[.val (.ref a0'), .val (.int (0 : Int32)), .val (.long q2), .second] [(.long ((q2.toUInt64 >>> ((8 : Int32) &&& 0x3f).toInt64.toUInt64).toInt64)), (.int (6 : Int32)), (.ref a0')]))
  refine go (fun _ k => by refine XS.l2i X6.here hx rfl (hb hby d_method_3_code_73) rfl ?_; exact k) ?_
  refine go (fun _ k => by refine XS.i2b X6.here hx rfl (hb hby d_method_3_code_74) rfl ?_; exact k) ?_
  show OwnEnd _ _ _ _ _ _ _ (T6.setTop (mkF m 75 #[.val (.ref a0'), .val (.int (0 : Int32)), .val (.long q2), .second] [(.int ((((q2.toUInt64 >>> ((8 : Int32) &&& 0x3f).toInt64.toUInt64).toInt64).toInt32).toInt8.toInt32)), (.int (6 : Int32)), (.ref a0')]))
  obtain ⟨T7, h7, X7, e7, W7, VA', st7⟩ := stBv X6 hx hZ e6 VA (j := (6 : Int32)) (i := 6) (by decide) (by decide) (by decide) (Nat.le_of_ble_eq_true rfl) (g := (mkF m 75 #[.val (.ref a0'), .val (.int (0 : Int32)), .val (.long q2), .second] [(.int ((((q2.toUInt64 >>> ((8 : Int32) &&& 0x3f).toInt64.toUInt64).toInt64).toInt32).toInt8.toInt32)), (.int (6 : Int32)), (.ref a0')])) rfl rfl (hb hby d_method_3_code_75)
  have N7 := Fr.snoc X7 N6 ga
  have KK := Keep.wr KK W7 (Or.inl (List.mem_of_getElem? (i := 0) rfl))
  have VA : Arv Z h7 a0' k .byte (16 : Int32) [(.int (own_by q2 56)), (.int (own_by q2 48)), (.int (own_by q2 40)), (.int (own_by q2 32)), (.int (own_by q2 24)), (.int (own_by q2 16)), (.int (own_by q2 8)), (.int y7), (.int y8), (.int y9), (.int y10), (.int y11), (.int y12), (.int y13), (.int y14), (.int y15)] (.int (0 : Int32)) := VA'
  refine go st7 ?_
  refine go (fun _ k => by refine XS.aloadN X7.here hx rfl (hb hby d_method_3_code_76) rfl rfl ?_; exact k) ?_
  refine go (fun _ k => by refine XS.iloadN X7.here hx rfl (hb hby d_method_3_code_77) rfl ?_; exact k) ?_
  refine go (fun _ k => by refine XS.bipush X7.here hx rfl (hb hby d_method_3_code_78) ?_; exact k) ?_
  show OwnEnd _ _ _ _ _ _ _ (T7.setTop (mkF m 80 #[.val (.ref a0'), .val (.int (0 : Int32)), .val (.long q2), .second] [(.int (7 : Int32)), (.int (0 : Int32)), (.ref a0')]))
  refine go (fun _ k => by refine XS.iadd X7.here hx rfl (hb hby d_method_3_code_80) rfl ?_; exact k) ?_
  show OwnEnd _ _ _ _ _ _ _ (T7.setTop (mkF m 81 #[.val (.ref a0'), .val (.int (0 : Int32)), .val (.long q2), .second] [(.int ((0 : Int32) + (7 : Int32))), (.ref a0')]))
  rw [show ((0 : Int32) + (7 : Int32)) = (7 : Int32) from by decide]
  refine go (fun _ k => by refine XS.lloadN X7.here hx rfl (hb hby d_method_3_code_81) rfl ?_; exact k) ?_
  refine go (fun _ k => by refine XS.l2i X7.here hx rfl (hb hby d_method_3_code_82) rfl ?_; exact k) ?_
  refine go (fun _ k => by refine XS.i2b X7.here hx rfl (hb hby d_method_3_code_83) rfl ?_; exact k) ?_
  show OwnEnd _ _ _ _ _ _ _ (T7.setTop (mkF m 84 #[.val (.ref a0'), .val (.int (0 : Int32)), .val (.long q2), .second] [(.int ((q2.toInt32).toInt8.toInt32)), (.int (7 : Int32)), (.ref a0')]))
  obtain ⟨T8, h8, X8, e8, W8, VA', st8⟩ := stBv X7 hx hZ e7 VA (j := (7 : Int32)) (i := 7) (by decide) (by decide) (by decide) (Nat.le_of_ble_eq_true rfl) (g := (mkF m 84 #[.val (.ref a0'), .val (.int (0 : Int32)), .val (.long q2), .second] [(.int ((q2.toInt32).toInt8.toInt32)), (.int (7 : Int32)), (.ref a0')])) rfl rfl (hb hby d_method_3_code_84)
  have N8 := Fr.snoc X8 N7 ga
  have KK := Keep.wr KK W8 (Or.inl (List.mem_of_getElem? (i := 0) rfl))
  have VA : Arv Z h8 a0' k .byte (16 : Int32) [(.int (own_by q2 56)), (.int (own_by q2 48)), (.int (own_by q2 40)), (.int (own_by q2 32)), (.int (own_by q2 24)), (.int (own_by q2 16)), (.int (own_by q2 8)), (.int (own_b0 q2)), (.int y8), (.int y9), (.int y10), (.int y11), (.int y12), (.int y13), (.int y14), (.int y15)] (.int (0 : Int32)) := VA'
  refine go st8 ?_
  show OwnEnd _ _ _ _ _ _ _ (T8.setTop (mkF m 85 #[.val (.ref a0'), .val (.int (0 : Int32)), .val (.long q2), .second] []))
  refine endV X8 hx hlk Bd.returns (hb hby d_method_3_code_85) e8 (by decide) (by decide) ?_
  exact ⟨rfl, N8, KK, VA⟩
theorem d_method_2_code_0 : decode method_2_code 0 = .ok (.aload_n 0, 1) := by decide +kernel
theorem d_method_2_code_1 : decode method_2_code 1 = .ok (.iload_n 1, 1) := by decide +kernel
theorem d_method_2_code_2 : decode method_2_code 2 = .ok (.baload, 1) := by decide +kernel
theorem d_method_2_code_3 : decode method_2_code 3 = .ok (.i2l, 1) := by decide +kernel
theorem d_method_2_code_4 : decode method_2_code 4 = .ok (.ldc2_w 7, 3) := by decide +kernel
theorem d_method_2_code_7 : decode method_2_code 7 = .ok (.land, 1) := by decide +kernel
theorem d_method_2_code_8 : decode method_2_code 8 = .ok (.bipush 56, 2) := by decide +kernel
theorem d_method_2_code_10 : decode method_2_code 10 = .ok (.lshl, 1) := by decide +kernel
theorem d_method_2_code_11 : decode method_2_code 11 = .ok (.aload_n 0, 1) := by decide +kernel
theorem d_method_2_code_12 : decode method_2_code 12 = .ok (.iload_n 1, 1) := by decide +kernel
theorem d_method_2_code_13 : decode method_2_code 13 = .ok (.iconst 1, 1) := by decide +kernel
theorem d_method_2_code_14 : decode method_2_code 14 = .ok (.iadd, 1) := by decide +kernel
theorem d_method_2_code_15 : decode method_2_code 15 = .ok (.baload, 1) := by decide +kernel
theorem d_method_2_code_16 : decode method_2_code 16 = .ok (.i2l, 1) := by decide +kernel
theorem d_method_2_code_17 : decode method_2_code 17 = .ok (.ldc2_w 7, 3) := by decide +kernel
theorem d_method_2_code_20 : decode method_2_code 20 = .ok (.land, 1) := by decide +kernel
theorem d_method_2_code_21 : decode method_2_code 21 = .ok (.bipush 48, 2) := by decide +kernel
theorem d_method_2_code_23 : decode method_2_code 23 = .ok (.lshl, 1) := by decide +kernel
theorem d_method_2_code_24 : decode method_2_code 24 = .ok (.lor, 1) := by decide +kernel
theorem d_method_2_code_25 : decode method_2_code 25 = .ok (.aload_n 0, 1) := by decide +kernel
theorem d_method_2_code_26 : decode method_2_code 26 = .ok (.iload_n 1, 1) := by decide +kernel
theorem d_method_2_code_27 : decode method_2_code 27 = .ok (.iconst 2, 1) := by decide +kernel
theorem d_method_2_code_28 : decode method_2_code 28 = .ok (.iadd, 1) := by decide +kernel
theorem d_method_2_code_29 : decode method_2_code 29 = .ok (.baload, 1) := by decide +kernel
theorem d_method_2_code_30 : decode method_2_code 30 = .ok (.i2l, 1) := by decide +kernel
theorem d_method_2_code_31 : decode method_2_code 31 = .ok (.ldc2_w 7, 3) := by decide +kernel
theorem d_method_2_code_34 : decode method_2_code 34 = .ok (.land, 1) := by decide +kernel
theorem d_method_2_code_35 : decode method_2_code 35 = .ok (.bipush 40, 2) := by decide +kernel
theorem d_method_2_code_37 : decode method_2_code 37 = .ok (.lshl, 1) := by decide +kernel
theorem d_method_2_code_38 : decode method_2_code 38 = .ok (.lor, 1) := by decide +kernel
theorem d_method_2_code_39 : decode method_2_code 39 = .ok (.aload_n 0, 1) := by decide +kernel
theorem d_method_2_code_40 : decode method_2_code 40 = .ok (.iload_n 1, 1) := by decide +kernel
theorem d_method_2_code_41 : decode method_2_code 41 = .ok (.iconst 3, 1) := by decide +kernel
theorem d_method_2_code_42 : decode method_2_code 42 = .ok (.iadd, 1) := by decide +kernel
theorem d_method_2_code_43 : decode method_2_code 43 = .ok (.baload, 1) := by decide +kernel
theorem d_method_2_code_44 : decode method_2_code 44 = .ok (.i2l, 1) := by decide +kernel
theorem d_method_2_code_45 : decode method_2_code 45 = .ok (.ldc2_w 7, 3) := by decide +kernel
theorem d_method_2_code_48 : decode method_2_code 48 = .ok (.land, 1) := by decide +kernel
theorem d_method_2_code_49 : decode method_2_code 49 = .ok (.bipush 32, 2) := by decide +kernel
theorem d_method_2_code_51 : decode method_2_code 51 = .ok (.lshl, 1) := by decide +kernel
theorem d_method_2_code_52 : decode method_2_code 52 = .ok (.lor, 1) := by decide +kernel
theorem d_method_2_code_53 : decode method_2_code 53 = .ok (.aload_n 0, 1) := by decide +kernel
theorem d_method_2_code_54 : decode method_2_code 54 = .ok (.iload_n 1, 1) := by decide +kernel
theorem d_method_2_code_55 : decode method_2_code 55 = .ok (.iconst 4, 1) := by decide +kernel
theorem d_method_2_code_56 : decode method_2_code 56 = .ok (.iadd, 1) := by decide +kernel
theorem d_method_2_code_57 : decode method_2_code 57 = .ok (.baload, 1) := by decide +kernel
theorem d_method_2_code_58 : decode method_2_code 58 = .ok (.i2l, 1) := by decide +kernel
theorem d_method_2_code_59 : decode method_2_code 59 = .ok (.ldc2_w 7, 3) := by decide +kernel
theorem d_method_2_code_62 : decode method_2_code 62 = .ok (.land, 1) := by decide +kernel
theorem d_method_2_code_63 : decode method_2_code 63 = .ok (.bipush 24, 2) := by decide +kernel
theorem d_method_2_code_65 : decode method_2_code 65 = .ok (.lshl, 1) := by decide +kernel
theorem d_method_2_code_66 : decode method_2_code 66 = .ok (.lor, 1) := by decide +kernel
theorem d_method_2_code_67 : decode method_2_code 67 = .ok (.aload_n 0, 1) := by decide +kernel
theorem d_method_2_code_68 : decode method_2_code 68 = .ok (.iload_n 1, 1) := by decide +kernel
theorem d_method_2_code_69 : decode method_2_code 69 = .ok (.iconst 5, 1) := by decide +kernel
theorem d_method_2_code_70 : decode method_2_code 70 = .ok (.iadd, 1) := by decide +kernel
theorem d_method_2_code_71 : decode method_2_code 71 = .ok (.baload, 1) := by decide +kernel
theorem d_method_2_code_72 : decode method_2_code 72 = .ok (.i2l, 1) := by decide +kernel
theorem d_method_2_code_73 : decode method_2_code 73 = .ok (.ldc2_w 7, 3) := by decide +kernel
theorem d_method_2_code_76 : decode method_2_code 76 = .ok (.land, 1) := by decide +kernel
theorem d_method_2_code_77 : decode method_2_code 77 = .ok (.bipush 16, 2) := by decide +kernel
theorem d_method_2_code_79 : decode method_2_code 79 = .ok (.lshl, 1) := by decide +kernel
theorem d_method_2_code_80 : decode method_2_code 80 = .ok (.lor, 1) := by decide +kernel
theorem d_method_2_code_81 : decode method_2_code 81 = .ok (.aload_n 0, 1) := by decide +kernel
theorem d_method_2_code_82 : decode method_2_code 82 = .ok (.iload_n 1, 1) := by decide +kernel
theorem d_method_2_code_83 : decode method_2_code 83 = .ok (.bipush 6, 2) := by decide +kernel
theorem d_method_2_code_85 : decode method_2_code 85 = .ok (.iadd, 1) := by decide +kernel
theorem d_method_2_code_86 : decode method_2_code 86 = .ok (.baload, 1) := by decide +kernel
theorem d_method_2_code_87 : decode method_2_code 87 = .ok (.i2l, 1) := by decide +kernel
theorem d_method_2_code_88 : decode method_2_code 88 = .ok (.ldc2_w 7, 3) := by decide +kernel
theorem d_method_2_code_91 : decode method_2_code 91 = .ok (.land, 1) := by decide +kernel
theorem d_method_2_code_92 : decode method_2_code 92 = .ok (.bipush 8, 2) := by decide +kernel
theorem d_method_2_code_94 : decode method_2_code 94 = .ok (.lshl, 1) := by decide +kernel
theorem d_method_2_code_95 : decode method_2_code 95 = .ok (.lor, 1) := by decide +kernel
theorem d_method_2_code_96 : decode method_2_code 96 = .ok (.aload_n 0, 1) := by decide +kernel
theorem d_method_2_code_97 : decode method_2_code 97 = .ok (.iload_n 1, 1) := by decide +kernel
theorem d_method_2_code_98 : decode method_2_code 98 = .ok (.bipush 7, 2) := by decide +kernel
theorem d_method_2_code_100 : decode method_2_code 100 = .ok (.iadd, 1) := by decide +kernel
theorem d_method_2_code_101 : decode method_2_code 101 = .ok (.baload, 1) := by decide +kernel
theorem d_method_2_code_102 : decode method_2_code 102 = .ok (.i2l, 1) := by decide +kernel
theorem d_method_2_code_103 : decode method_2_code 103 = .ok (.ldc2_w 7, 3) := by decide +kernel
theorem d_method_2_code_106 : decode method_2_code 106 = .ok (.land, 1) := by decide +kernel
theorem d_method_2_code_107 : decode method_2_code 107 = .ok (.lor, 1) := by decide +kernel
theorem d_method_2_code_108 : decode method_2_code 108 = .ok (.lreturn, 1) := by decide +kernel
theorem ef_rm_pk0 (m : MethodId) (y0 : Addr) : entryFrame m #[(.ref y0), (.int (0 : Int32))] 2 = mkF m 0 #[.val (.ref y0), .val (.int (0 : Int32))] [] := by first | (simp [entryFrame, mkF, argsToLocals, Value.category]; done) | rfl
def Q_rm_pk0 (Z : State) (a0' : Addr) (k : ClassId) (y0 : Int32) (y1 : Int32) (y2 : Int32) (y3 : Int32) (y4 : Int32) (y5 : Int32) (y6 : Int32) (y7 : Int32) (y8 : Int32) (y9 : Int32) (y10 : Int32) (y11 : Int32) (y12 : Int32) (y13 : Int32) (y14 : Int32) (y15 : Int32) (h0 : Heap) (n0 : Nat) (v : Option Value) (h : Heap) (L : List Loc) : Prop := v = some (.long (own_p8 y0 y1 y2 y3 y4 y5 y6 y7)) ∧ Fr n0 L ∧ h = h0
set_option maxRecDepth 65536 in
set_option maxHeartbeats 40000000 in
theorem rm_pk0 (l : Launch) (Z : State) (a0 : Array Value) (hw : ∀ d ∈ tables_1, d.before a0 Z = true) (ws : List Jvm.Cond) (a0' : Addr) (k : ClassId) (y0 : Int32) (y1 : Int32) (y2 : Int32) (y3 : Int32) (y4 : Int32) (y5 : Int32) (y6 : Int32) (y7 : Int32) (y8 : Int32) (y9 : Int32) (y10 : Int32) (y11 : Int32) (y12 : Int32) (y13 : Int32) (y14 : Int32) (y15 : Int32) (h0 : Heap) (n0 : Nat) (VA : Arv Z h0 a0' k .byte 16 [(.int y0), (.int y1), (.int y2), (.int y3), (.int y4), (.int y5), (.int y6), (.int y7), (.int y8), (.int y9), (.int y10), (.int y11), (.int y12), (.int y13), (.int y14), (.int y15)] (.int 0)) :
    MetFree l (⟨"com/example/sliding_gate/slidinggate/IpAddressesNetworkPinLaw", "pack8", "([BI)J"⟩ : MethodName) (head1 (Jvm.Cond.code (⟨"com/example/sliding_gate/slidinggate/IpAddressesNetworkPinLaw", "pack8", "([BI)J"⟩ : MethodName) method_2_code 2 (some .long) :: ws) ({ frames := 0, cells := 0, slots := 0, locals := 0 } : Room)) (fun a U => a = #[(.ref a0'), (.int (0 : Int32))] ∧ Z.Warmed39 U.vm ∧ U.heap = h0) (fun _ _ _ _ _ => True) (fun _ U o U' => ∃ v L, o = .returned v ∧ Q_rm_pk0 Z a0' k y0 y1 y2 y3 y4 y5 y6 y7 y8 y9 y10 y11 y12 y13 y14 y15 h0 n0 v U'.heap L ∧ FrameEnd U o U' L 0 0) := by
  refine MetFree.of_bodySF (plainFor_of_name pn_com_example_sliding_gate_slidinggate_IpAddressesNetworkPinLaw) hisR ?_
  intro p e s m args below meth c s₁ Bd hml0 hP hK
  obtain ⟨rfl, hZ, hh⟩ := hP
  have hx := Bd.exec
  have hby := Bd.bytes
  have hlk := Bd.notSynchronized
  have hml : c.maxLocals = 2 := hml0
  have hown : s.vm.findClass "com/example/sliding_gate/slidinggate/IpAddressesNetworkPinLaw" = some m.cls := findClass_of_methodNamed Bd.named
  have hnm := (name_of_methodNamed Bd.named Bd.method).1
  have X0 : Stand p l e ({ frames := 0, cells := 0, slots := 0, locals := 0 } : Room) s m #[(.ref a0'), (.int (0 : Int32))] below meth c s₁ [] 0 0 := Stand.of_body Bd
  have e0 : s₁.heap = h0 := by rw [← hh, Bd.state]; rfl
  have N0 := Fr.nil n0
  show OwnEnd p e below s (Q_rm_pk0 Z a0' k y0 y1 y2 y3 y4 y5 y6 y7 y8 y9 y10 y11 y12 y13 y14 y15 h0 n0) 0 0 (s₁.setTop (entryFrame m #[(.ref a0'), (.int (0 : Int32))] 2))
  refine go (fun t k => castTop (ef_rm_pk0 m a0') k) ?_
  show OwnEnd _ _ _ _ _ _ _ (s₁.setTop (mkF m 0 #[.val (.ref a0'), .val (.int (0 : Int32))] []))
  refine go (fun _ k => by refine XS.aloadN X0.here hx rfl (hb hby d_method_2_code_0) rfl rfl ?_; exact k) ?_
  refine go (fun _ k => by refine XS.iloadN X0.here hx rfl (hb hby d_method_2_code_1) rfl ?_; exact k) ?_
  show OwnEnd _ _ _ _ _ _ _ (s₁.setTop (mkF m 2 #[.val (.ref a0'), .val (.int (0 : Int32))] [(.int (0 : Int32)), (.ref a0')]))
  refine go (ldBv X0 hx hZ e0 VA (j := (0 : Int32)) (i := 0) (w := y0) (by decide) (by decide) (by decide) rfl (g := (mkF m 2 #[.val (.ref a0'), .val (.int (0 : Int32))] [(.int (0 : Int32)), (.ref a0')])) rfl rfl (hb hby d_method_2_code_2)) ?_
  refine go (fun _ k => by refine XS.i2l X0.here hx rfl (hb hby d_method_2_code_3) rfl ?_; exact k) ?_
  show OwnEnd _ _ _ _ _ _ _ (s₁.setTop (mkF m 4 #[.val (.ref a0'), .val (.int (0 : Int32))] [(.long (y0.toInt64))]))
  refine go (X0.ldc2Long hx hown (mvT hZ (hw _ (List.mem_of_getElem? (i := 20) rfl))) (g := (mkF m 4 #[.val (.ref a0'), .val (.int (0 : Int32))] [(.long (y0.toInt64))])) rfl (hb hby d_method_2_code_4)) ?_
  refine go (fun _ k => by refine XS.land X0.here hx rfl (hb hby d_method_2_code_7) rfl ?_; exact k) ?_
  refine go (fun _ k => by refine XS.bipush X0.here hx rfl (hb hby d_method_2_code_8) ?_; exact k) ?_
  refine go (fun _ k => by refine XS.lshl X0.here hx rfl (hb hby d_method_2_code_10) rfl ?_; exact k) ?_
  show OwnEnd _ _ _ _ _ _ _ (s₁.setTop (mkF m 11 #[.val (.ref a0'), .val (.int (0 : Int32))] [(.long (((y0.toInt64) &&& (255 : Int64)) <<< ((56 : Int32) &&& 0x3f).toInt64))]))
  refine go (fun _ k => by refine XS.aloadN X0.here hx rfl (hb hby d_method_2_code_11) rfl rfl ?_; exact k) ?_
  refine go (fun _ k => by refine XS.iloadN X0.here hx rfl (hb hby d_method_2_code_12) rfl ?_; exact k) ?_
  refine go (fun _ k => by refine XS.iconst X0.here hx rfl (hb hby d_method_2_code_13) ?_; exact k) ?_
  refine go (fun _ k => by refine XS.iadd X0.here hx rfl (hb hby d_method_2_code_14) rfl ?_; exact k) ?_
  show OwnEnd _ _ _ _ _ _ _ (s₁.setTop (mkF m 15 #[.val (.ref a0'), .val (.int (0 : Int32))] [(.int ((0 : Int32) + (1 : Int32))), (.ref a0'), (.long (((y0.toInt64) &&& (255 : Int64)) <<< ((56 : Int32) &&& 0x3f).toInt64))]))
  rw [show ((0 : Int32) + (1 : Int32)) = (1 : Int32) from by decide]
  show OwnEnd _ _ _ _ _ _ _ (s₁.setTop (mkF m 15 #[.val (.ref a0'), .val (.int (0 : Int32))] [(.int (1 : Int32)), (.ref a0'), (.long (((y0.toInt64) &&& (255 : Int64)) <<< ((56 : Int32) &&& 0x3f).toInt64))]))
  refine go (ldBv X0 hx hZ e0 VA (j := (1 : Int32)) (i := 1) (w := y1) (by decide) (by decide) (by decide) rfl (g := (mkF m 15 #[.val (.ref a0'), .val (.int (0 : Int32))] [(.int (1 : Int32)), (.ref a0'), (.long (((y0.toInt64) &&& (255 : Int64)) <<< ((56 : Int32) &&& 0x3f).toInt64))])) rfl rfl (hb hby d_method_2_code_15)) ?_
  refine go (fun _ k => by refine XS.i2l X0.here hx rfl (hb hby d_method_2_code_16) rfl ?_; exact k) ?_
  show OwnEnd _ _ _ _ _ _ _ (s₁.setTop (mkF m 17 #[.val (.ref a0'), .val (.int (0 : Int32))] [(.long (y1.toInt64)), (.long (((y0.toInt64) &&& (255 : Int64)) <<< ((56 : Int32) &&& 0x3f).toInt64))]))
  refine go (X0.ldc2Long hx hown (mvT hZ (hw _ (List.mem_of_getElem? (i := 20) rfl))) (g := (mkF m 17 #[.val (.ref a0'), .val (.int (0 : Int32))] [(.long (y1.toInt64)), (.long (((y0.toInt64) &&& (255 : Int64)) <<< ((56 : Int32) &&& 0x3f).toInt64))])) rfl (hb hby d_method_2_code_17)) ?_
  refine go (fun _ k => by refine XS.land X0.here hx rfl (hb hby d_method_2_code_20) rfl ?_; exact k) ?_
  refine go (fun _ k => by refine XS.bipush X0.here hx rfl (hb hby d_method_2_code_21) ?_; exact k) ?_
  refine go (fun _ k => by refine XS.lshl X0.here hx rfl (hb hby d_method_2_code_23) rfl ?_; exact k) ?_
  show OwnEnd _ _ _ _ _ _ _ (s₁.setTop (mkF m 24 #[.val (.ref a0'), .val (.int (0 : Int32))] [(.long (((y1.toInt64) &&& (255 : Int64)) <<< ((48 : Int32) &&& 0x3f).toInt64)), (.long (((y0.toInt64) &&& (255 : Int64)) <<< ((56 : Int32) &&& 0x3f).toInt64))]))
  refine go (fun _ k => by refine XS.lor X0.here hx rfl (hb hby d_method_2_code_24) rfl ?_; exact k) ?_
  refine go (fun _ k => by refine XS.aloadN X0.here hx rfl (hb hby d_method_2_code_25) rfl rfl ?_; exact k) ?_
  refine go (fun _ k => by refine XS.iloadN X0.here hx rfl (hb hby d_method_2_code_26) rfl ?_; exact k) ?_
  refine go (fun _ k => by refine XS.iconst X0.here hx rfl (hb hby d_method_2_code_27) ?_; exact k) ?_
  show OwnEnd _ _ _ _ _ _ _ (s₁.setTop (mkF m 28 #[.val (.ref a0'), .val (.int (0 : Int32))] [(.int (2 : Int32)), (.int (0 : Int32)), (.ref a0'), (.long ((((y0.toInt64) &&& (255 : Int64)) <<< ((56 : Int32) &&& 0x3f).toInt64) ||| (((y1.toInt64) &&& (255 : Int64)) <<< ((48 : Int32) &&& 0x3f).toInt64)))]))
  refine go (fun _ k => by refine XS.iadd X0.here hx rfl (hb hby d_method_2_code_28) rfl ?_; exact k) ?_
  show OwnEnd _ _ _ _ _ _ _ (s₁.setTop (mkF m 29 #[.val (.ref a0'), .val (.int (0 : Int32))] [(.int ((0 : Int32) + (2 : Int32))), (.ref a0'), (.long ((((y0.toInt64) &&& (255 : Int64)) <<< ((56 : Int32) &&& 0x3f).toInt64) ||| (((y1.toInt64) &&& (255 : Int64)) <<< ((48 : Int32) &&& 0x3f).toInt64)))]))
  rw [show ((0 : Int32) + (2 : Int32)) = (2 : Int32) from by decide]
  show OwnEnd _ _ _ _ _ _ _ (s₁.setTop (mkF m 29 #[.val (.ref a0'), .val (.int (0 : Int32))] [(.int (2 : Int32)), (.ref a0'), (.long ((((y0.toInt64) &&& (255 : Int64)) <<< ((56 : Int32) &&& 0x3f).toInt64) ||| (((y1.toInt64) &&& (255 : Int64)) <<< ((48 : Int32) &&& 0x3f).toInt64)))]))
  refine go (ldBv X0 hx hZ e0 VA (j := (2 : Int32)) (i := 2) (w := y2) (by decide) (by decide) (by decide) rfl (g := (mkF m 29 #[.val (.ref a0'), .val (.int (0 : Int32))] [(.int (2 : Int32)), (.ref a0'), (.long ((((y0.toInt64) &&& (255 : Int64)) <<< ((56 : Int32) &&& 0x3f).toInt64) ||| (((y1.toInt64) &&& (255 : Int64)) <<< ((48 : Int32) &&& 0x3f).toInt64)))])) rfl rfl (hb hby d_method_2_code_29)) ?_
  refine go (fun _ k => by refine XS.i2l X0.here hx rfl (hb hby d_method_2_code_30) rfl ?_; exact k) ?_
  show OwnEnd _ _ _ _ _ _ _ (s₁.setTop (mkF m 31 #[.val (.ref a0'), .val (.int (0 : Int32))] [(.long (y2.toInt64)), (.long ((((y0.toInt64) &&& (255 : Int64)) <<< ((56 : Int32) &&& 0x3f).toInt64) ||| (((y1.toInt64) &&& (255 : Int64)) <<< ((48 : Int32) &&& 0x3f).toInt64)))]))
  refine go (X0.ldc2Long hx hown (mvT hZ (hw _ (List.mem_of_getElem? (i := 20) rfl))) (g := (mkF m 31 #[.val (.ref a0'), .val (.int (0 : Int32))] [(.long (y2.toInt64)), (.long ((((y0.toInt64) &&& (255 : Int64)) <<< ((56 : Int32) &&& 0x3f).toInt64) ||| (((y1.toInt64) &&& (255 : Int64)) <<< ((48 : Int32) &&& 0x3f).toInt64)))])) rfl (hb hby d_method_2_code_31)) ?_
  refine go (fun _ k => by refine XS.land X0.here hx rfl (hb hby d_method_2_code_34) rfl ?_; exact k) ?_
  refine go (fun _ k => by refine XS.bipush X0.here hx rfl (hb hby d_method_2_code_35) ?_; exact k) ?_
  refine go (fun _ k => by refine XS.lshl X0.here hx rfl (hb hby d_method_2_code_37) rfl ?_; exact k) ?_
  show OwnEnd _ _ _ _ _ _ _ (s₁.setTop (mkF m 38 #[.val (.ref a0'), .val (.int (0 : Int32))] [(.long (((y2.toInt64) &&& (255 : Int64)) <<< ((40 : Int32) &&& 0x3f).toInt64)), (.long ((((y0.toInt64) &&& (255 : Int64)) <<< ((56 : Int32) &&& 0x3f).toInt64) ||| (((y1.toInt64) &&& (255 : Int64)) <<< ((48 : Int32) &&& 0x3f).toInt64)))]))
  refine go (fun _ k => by refine XS.lor X0.here hx rfl (hb hby d_method_2_code_38) rfl ?_; exact k) ?_
  refine go (fun _ k => by refine XS.aloadN X0.here hx rfl (hb hby d_method_2_code_39) rfl rfl ?_; exact k) ?_
  refine go (fun _ k => by refine XS.iloadN X0.here hx rfl (hb hby d_method_2_code_40) rfl ?_; exact k) ?_
  refine go (fun _ k => by refine XS.iconst X0.here hx rfl (hb hby d_method_2_code_41) ?_; exact k) ?_
  show OwnEnd _ _ _ _ _ _ _ (s₁.setTop (mkF m 42 #[.val (.ref a0'), .val (.int (0 : Int32))] [(.int (3 : Int32)), (.int (0 : Int32)), (.ref a0'), (.long (((((y0.toInt64) &&& (255 : Int64)) <<< ((56 : Int32) &&& 0x3f).toInt64) ||| (((y1.toInt64) &&& (255 : Int64)) <<< ((48 : Int32) &&& 0x3f).toInt64)) ||| (((y2.toInt64) &&& (255 : Int64)) <<< ((40 : Int32) &&& 0x3f).toInt64)))]))
  refine go (fun _ k => by refine XS.iadd X0.here hx rfl (hb hby d_method_2_code_42) rfl ?_; exact k) ?_
  show OwnEnd _ _ _ _ _ _ _ (s₁.setTop (mkF m 43 #[.val (.ref a0'), .val (.int (0 : Int32))] [(.int ((0 : Int32) + (3 : Int32))), (.ref a0'), (.long (((((y0.toInt64) &&& (255 : Int64)) <<< ((56 : Int32) &&& 0x3f).toInt64) ||| (((y1.toInt64) &&& (255 : Int64)) <<< ((48 : Int32) &&& 0x3f).toInt64)) ||| (((y2.toInt64) &&& (255 : Int64)) <<< ((40 : Int32) &&& 0x3f).toInt64)))]))
  rw [show ((0 : Int32) + (3 : Int32)) = (3 : Int32) from by decide]
  show OwnEnd _ _ _ _ _ _ _ (s₁.setTop (mkF m 43 #[.val (.ref a0'), .val (.int (0 : Int32))] [(.int (3 : Int32)), (.ref a0'), (.long (((((y0.toInt64) &&& (255 : Int64)) <<< ((56 : Int32) &&& 0x3f).toInt64) ||| (((y1.toInt64) &&& (255 : Int64)) <<< ((48 : Int32) &&& 0x3f).toInt64)) ||| (((y2.toInt64) &&& (255 : Int64)) <<< ((40 : Int32) &&& 0x3f).toInt64)))]))
  refine go (ldBv X0 hx hZ e0 VA (j := (3 : Int32)) (i := 3) (w := y3) (by decide) (by decide) (by decide) rfl (g := (mkF m 43 #[.val (.ref a0'), .val (.int (0 : Int32))] [(.int (3 : Int32)), (.ref a0'), (.long (((((y0.toInt64) &&& (255 : Int64)) <<< ((56 : Int32) &&& 0x3f).toInt64) ||| (((y1.toInt64) &&& (255 : Int64)) <<< ((48 : Int32) &&& 0x3f).toInt64)) ||| (((y2.toInt64) &&& (255 : Int64)) <<< ((40 : Int32) &&& 0x3f).toInt64)))])) rfl rfl (hb hby d_method_2_code_43)) ?_
  refine go (fun _ k => by refine XS.i2l X0.here hx rfl (hb hby d_method_2_code_44) rfl ?_; exact k) ?_
  show OwnEnd _ _ _ _ _ _ _ (s₁.setTop (mkF m 45 #[.val (.ref a0'), .val (.int (0 : Int32))] [(.long (y3.toInt64)), (.long (((((y0.toInt64) &&& (255 : Int64)) <<< ((56 : Int32) &&& 0x3f).toInt64) ||| (((y1.toInt64) &&& (255 : Int64)) <<< ((48 : Int32) &&& 0x3f).toInt64)) ||| (((y2.toInt64) &&& (255 : Int64)) <<< ((40 : Int32) &&& 0x3f).toInt64)))]))
  refine go (X0.ldc2Long hx hown (mvT hZ (hw _ (List.mem_of_getElem? (i := 20) rfl))) (g := (mkF m 45 #[.val (.ref a0'), .val (.int (0 : Int32))] [(.long (y3.toInt64)), (.long (((((y0.toInt64) &&& (255 : Int64)) <<< ((56 : Int32) &&& 0x3f).toInt64) ||| (((y1.toInt64) &&& (255 : Int64)) <<< ((48 : Int32) &&& 0x3f).toInt64)) ||| (((y2.toInt64) &&& (255 : Int64)) <<< ((40 : Int32) &&& 0x3f).toInt64)))])) rfl (hb hby d_method_2_code_45)) ?_
  refine go (fun _ k => by refine XS.land X0.here hx rfl (hb hby d_method_2_code_48) rfl ?_; exact k) ?_
  refine go (fun _ k => by refine XS.bipush X0.here hx rfl (hb hby d_method_2_code_49) ?_; exact k) ?_
  refine go (fun _ k => by refine XS.lshl X0.here hx rfl (hb hby d_method_2_code_51) rfl ?_; exact k) ?_
  show OwnEnd _ _ _ _ _ _ _ (s₁.setTop (mkF m 52 #[.val (.ref a0'), .val (.int (0 : Int32))] [(.long (((y3.toInt64) &&& (255 : Int64)) <<< ((32 : Int32) &&& 0x3f).toInt64)), (.long (((((y0.toInt64) &&& (255 : Int64)) <<< ((56 : Int32) &&& 0x3f).toInt64) ||| (((y1.toInt64) &&& (255 : Int64)) <<< ((48 : Int32) &&& 0x3f).toInt64)) ||| (((y2.toInt64) &&& (255 : Int64)) <<< ((40 : Int32) &&& 0x3f).toInt64)))]))
  refine go (fun _ k => by refine XS.lor X0.here hx rfl (hb hby d_method_2_code_52) rfl ?_; exact k) ?_
  refine go (fun _ k => by refine XS.aloadN X0.here hx rfl (hb hby d_method_2_code_53) rfl rfl ?_; exact k) ?_
  refine go (fun _ k => by refine XS.iloadN X0.here hx rfl (hb hby d_method_2_code_54) rfl ?_; exact k) ?_
  refine go (fun _ k => by refine XS.iconst X0.here hx rfl (hb hby d_method_2_code_55) ?_; exact k) ?_
  show OwnEnd _ _ _ _ _ _ _ (s₁.setTop (mkF m 56 #[.val (.ref a0'), .val (.int (0 : Int32))] [(.int (4 : Int32)), (.int (0 : Int32)), (.ref a0'), (.long ((((((y0.toInt64) &&& (255 : Int64)) <<< ((56 : Int32) &&& 0x3f).toInt64) ||| (((y1.toInt64) &&& (255 : Int64)) <<< ((48 : Int32) &&& 0x3f).toInt64)) ||| (((y2.toInt64) &&& (255 : Int64)) <<< ((40 : Int32) &&& 0x3f).toInt64)) ||| (((y3.toInt64) &&& (255 : Int64)) <<< ((32 : Int32) &&& 0x3f).toInt64)))]))
  refine go (fun _ k => by refine XS.iadd X0.here hx rfl (hb hby d_method_2_code_56) rfl ?_; exact k) ?_
  show OwnEnd _ _ _ _ _ _ _ (s₁.setTop (mkF m 57 #[.val (.ref a0'), .val (.int (0 : Int32))] [(.int ((0 : Int32) + (4 : Int32))), (.ref a0'), (.long ((((((y0.toInt64) &&& (255 : Int64)) <<< ((56 : Int32) &&& 0x3f).toInt64) ||| (((y1.toInt64) &&& (255 : Int64)) <<< ((48 : Int32) &&& 0x3f).toInt64)) ||| (((y2.toInt64) &&& (255 : Int64)) <<< ((40 : Int32) &&& 0x3f).toInt64)) ||| (((y3.toInt64) &&& (255 : Int64)) <<< ((32 : Int32) &&& 0x3f).toInt64)))]))
  rw [show ((0 : Int32) + (4 : Int32)) = (4 : Int32) from by decide]
  show OwnEnd _ _ _ _ _ _ _ (s₁.setTop (mkF m 57 #[.val (.ref a0'), .val (.int (0 : Int32))] [(.int (4 : Int32)), (.ref a0'), (.long ((((((y0.toInt64) &&& (255 : Int64)) <<< ((56 : Int32) &&& 0x3f).toInt64) ||| (((y1.toInt64) &&& (255 : Int64)) <<< ((48 : Int32) &&& 0x3f).toInt64)) ||| (((y2.toInt64) &&& (255 : Int64)) <<< ((40 : Int32) &&& 0x3f).toInt64)) ||| (((y3.toInt64) &&& (255 : Int64)) <<< ((32 : Int32) &&& 0x3f).toInt64)))]))
  refine go (ldBv X0 hx hZ e0 VA (j := (4 : Int32)) (i := 4) (w := y4) (by decide) (by decide) (by decide) rfl (g := (mkF m 57 #[.val (.ref a0'), .val (.int (0 : Int32))] [(.int (4 : Int32)), (.ref a0'), (.long ((((((y0.toInt64) &&& (255 : Int64)) <<< ((56 : Int32) &&& 0x3f).toInt64) ||| (((y1.toInt64) &&& (255 : Int64)) <<< ((48 : Int32) &&& 0x3f).toInt64)) ||| (((y2.toInt64) &&& (255 : Int64)) <<< ((40 : Int32) &&& 0x3f).toInt64)) ||| (((y3.toInt64) &&& (255 : Int64)) <<< ((32 : Int32) &&& 0x3f).toInt64)))])) rfl rfl (hb hby d_method_2_code_57)) ?_
  refine go (fun _ k => by refine XS.i2l X0.here hx rfl (hb hby d_method_2_code_58) rfl ?_; exact k) ?_
  show OwnEnd _ _ _ _ _ _ _ (s₁.setTop (mkF m 59 #[.val (.ref a0'), .val (.int (0 : Int32))] [(.long (y4.toInt64)), (.long ((((((y0.toInt64) &&& (255 : Int64)) <<< ((56 : Int32) &&& 0x3f).toInt64) ||| (((y1.toInt64) &&& (255 : Int64)) <<< ((48 : Int32) &&& 0x3f).toInt64)) ||| (((y2.toInt64) &&& (255 : Int64)) <<< ((40 : Int32) &&& 0x3f).toInt64)) ||| (((y3.toInt64) &&& (255 : Int64)) <<< ((32 : Int32) &&& 0x3f).toInt64)))]))
  refine go (X0.ldc2Long hx hown (mvT hZ (hw _ (List.mem_of_getElem? (i := 20) rfl))) (g := (mkF m 59 #[.val (.ref a0'), .val (.int (0 : Int32))] [(.long (y4.toInt64)), (.long ((((((y0.toInt64) &&& (255 : Int64)) <<< ((56 : Int32) &&& 0x3f).toInt64) ||| (((y1.toInt64) &&& (255 : Int64)) <<< ((48 : Int32) &&& 0x3f).toInt64)) ||| (((y2.toInt64) &&& (255 : Int64)) <<< ((40 : Int32) &&& 0x3f).toInt64)) ||| (((y3.toInt64) &&& (255 : Int64)) <<< ((32 : Int32) &&& 0x3f).toInt64)))])) rfl (hb hby d_method_2_code_59)) ?_
  refine go (fun _ k => by refine XS.land X0.here hx rfl (hb hby d_method_2_code_62) rfl ?_; exact k) ?_
  refine go (fun _ k => by refine XS.bipush X0.here hx rfl (hb hby d_method_2_code_63) ?_; exact k) ?_
  refine go (fun _ k => by refine XS.lshl X0.here hx rfl (hb hby d_method_2_code_65) rfl ?_; exact k) ?_
  show OwnEnd _ _ _ _ _ _ _ (s₁.setTop (mkF m 66 #[.val (.ref a0'), .val (.int (0 : Int32))] [(.long (((y4.toInt64) &&& (255 : Int64)) <<< ((24 : Int32) &&& 0x3f).toInt64)), (.long ((((((y0.toInt64) &&& (255 : Int64)) <<< ((56 : Int32) &&& 0x3f).toInt64) ||| (((y1.toInt64) &&& (255 : Int64)) <<< ((48 : Int32) &&& 0x3f).toInt64)) ||| (((y2.toInt64) &&& (255 : Int64)) <<< ((40 : Int32) &&& 0x3f).toInt64)) ||| (((y3.toInt64) &&& (255 : Int64)) <<< ((32 : Int32) &&& 0x3f).toInt64)))]))
  refine go (fun _ k => by refine XS.lor X0.here hx rfl (hb hby d_method_2_code_66) rfl ?_; exact k) ?_
  refine go (fun _ k => by refine XS.aloadN X0.here hx rfl (hb hby d_method_2_code_67) rfl rfl ?_; exact k) ?_
  refine go (fun _ k => by refine XS.iloadN X0.here hx rfl (hb hby d_method_2_code_68) rfl ?_; exact k) ?_
  refine go (fun _ k => by refine XS.iconst X0.here hx rfl (hb hby d_method_2_code_69) ?_; exact k) ?_
  show OwnEnd _ _ _ _ _ _ _ (s₁.setTop (mkF m 70 #[.val (.ref a0'), .val (.int (0 : Int32))] [(.int (5 : Int32)), (.int (0 : Int32)), (.ref a0'), (.long (((((((y0.toInt64) &&& (255 : Int64)) <<< ((56 : Int32) &&& 0x3f).toInt64) ||| (((y1.toInt64) &&& (255 : Int64)) <<< ((48 : Int32) &&& 0x3f).toInt64)) ||| (((y2.toInt64) &&& (255 : Int64)) <<< ((40 : Int32) &&& 0x3f).toInt64)) ||| (((y3.toInt64) &&& (255 : Int64)) <<< ((32 : Int32) &&& 0x3f).toInt64)) ||| (((y4.toInt64) &&& (255 : Int64)) <<< ((24 : Int32) &&& 0x3f).toInt64)))]))
  refine go (fun _ k => by refine XS.iadd X0.here hx rfl (hb hby d_method_2_code_70) rfl ?_; exact k) ?_
  show OwnEnd _ _ _ _ _ _ _ (s₁.setTop (mkF m 71 #[.val (.ref a0'), .val (.int (0 : Int32))] [(.int ((0 : Int32) + (5 : Int32))), (.ref a0'), (.long (((((((y0.toInt64) &&& (255 : Int64)) <<< ((56 : Int32) &&& 0x3f).toInt64) ||| (((y1.toInt64) &&& (255 : Int64)) <<< ((48 : Int32) &&& 0x3f).toInt64)) ||| (((y2.toInt64) &&& (255 : Int64)) <<< ((40 : Int32) &&& 0x3f).toInt64)) ||| (((y3.toInt64) &&& (255 : Int64)) <<< ((32 : Int32) &&& 0x3f).toInt64)) ||| (((y4.toInt64) &&& (255 : Int64)) <<< ((24 : Int32) &&& 0x3f).toInt64)))]))
  rw [show ((0 : Int32) + (5 : Int32)) = (5 : Int32) from by decide]
  show OwnEnd _ _ _ _ _ _ _ (s₁.setTop (mkF m 71 #[.val (.ref a0'), .val (.int (0 : Int32))] [(.int (5 : Int32)), (.ref a0'), (.long (((((((y0.toInt64) &&& (255 : Int64)) <<< ((56 : Int32) &&& 0x3f).toInt64) ||| (((y1.toInt64) &&& (255 : Int64)) <<< ((48 : Int32) &&& 0x3f).toInt64)) ||| (((y2.toInt64) &&& (255 : Int64)) <<< ((40 : Int32) &&& 0x3f).toInt64)) ||| (((y3.toInt64) &&& (255 : Int64)) <<< ((32 : Int32) &&& 0x3f).toInt64)) ||| (((y4.toInt64) &&& (255 : Int64)) <<< ((24 : Int32) &&& 0x3f).toInt64)))]))
  refine go (ldBv X0 hx hZ e0 VA (j := (5 : Int32)) (i := 5) (w := y5) (by decide) (by decide) (by decide) rfl (g := (mkF m 71 #[.val (.ref a0'), .val (.int (0 : Int32))] [(.int (5 : Int32)), (.ref a0'), (.long (((((((y0.toInt64) &&& (255 : Int64)) <<< ((56 : Int32) &&& 0x3f).toInt64) ||| (((y1.toInt64) &&& (255 : Int64)) <<< ((48 : Int32) &&& 0x3f).toInt64)) ||| (((y2.toInt64) &&& (255 : Int64)) <<< ((40 : Int32) &&& 0x3f).toInt64)) ||| (((y3.toInt64) &&& (255 : Int64)) <<< ((32 : Int32) &&& 0x3f).toInt64)) ||| (((y4.toInt64) &&& (255 : Int64)) <<< ((24 : Int32) &&& 0x3f).toInt64)))])) rfl rfl (hb hby d_method_2_code_71)) ?_
  refine go (fun _ k => by refine XS.i2l X0.here hx rfl (hb hby d_method_2_code_72) rfl ?_; exact k) ?_
  show OwnEnd _ _ _ _ _ _ _ (s₁.setTop (mkF m 73 #[.val (.ref a0'), .val (.int (0 : Int32))] [(.long (y5.toInt64)), (.long (((((((y0.toInt64) &&& (255 : Int64)) <<< ((56 : Int32) &&& 0x3f).toInt64) ||| (((y1.toInt64) &&& (255 : Int64)) <<< ((48 : Int32) &&& 0x3f).toInt64)) ||| (((y2.toInt64) &&& (255 : Int64)) <<< ((40 : Int32) &&& 0x3f).toInt64)) ||| (((y3.toInt64) &&& (255 : Int64)) <<< ((32 : Int32) &&& 0x3f).toInt64)) ||| (((y4.toInt64) &&& (255 : Int64)) <<< ((24 : Int32) &&& 0x3f).toInt64)))]))
  refine go (X0.ldc2Long hx hown (mvT hZ (hw _ (List.mem_of_getElem? (i := 20) rfl))) (g := (mkF m 73 #[.val (.ref a0'), .val (.int (0 : Int32))] [(.long (y5.toInt64)), (.long (((((((y0.toInt64) &&& (255 : Int64)) <<< ((56 : Int32) &&& 0x3f).toInt64) ||| (((y1.toInt64) &&& (255 : Int64)) <<< ((48 : Int32) &&& 0x3f).toInt64)) ||| (((y2.toInt64) &&& (255 : Int64)) <<< ((40 : Int32) &&& 0x3f).toInt64)) ||| (((y3.toInt64) &&& (255 : Int64)) <<< ((32 : Int32) &&& 0x3f).toInt64)) ||| (((y4.toInt64) &&& (255 : Int64)) <<< ((24 : Int32) &&& 0x3f).toInt64)))])) rfl (hb hby d_method_2_code_73)) ?_
  refine go (fun _ k => by refine XS.land X0.here hx rfl (hb hby d_method_2_code_76) rfl ?_; exact k) ?_
  refine go (fun _ k => by refine XS.bipush X0.here hx rfl (hb hby d_method_2_code_77) ?_; exact k) ?_
  refine go (fun _ k => by refine XS.lshl X0.here hx rfl (hb hby d_method_2_code_79) rfl ?_; exact k) ?_
  show OwnEnd _ _ _ _ _ _ _ (s₁.setTop (mkF m 80 #[.val (.ref a0'), .val (.int (0 : Int32))] [(.long (((y5.toInt64) &&& (255 : Int64)) <<< ((16 : Int32) &&& 0x3f).toInt64)), (.long (((((((y0.toInt64) &&& (255 : Int64)) <<< ((56 : Int32) &&& 0x3f).toInt64) ||| (((y1.toInt64) &&& (255 : Int64)) <<< ((48 : Int32) &&& 0x3f).toInt64)) ||| (((y2.toInt64) &&& (255 : Int64)) <<< ((40 : Int32) &&& 0x3f).toInt64)) ||| (((y3.toInt64) &&& (255 : Int64)) <<< ((32 : Int32) &&& 0x3f).toInt64)) ||| (((y4.toInt64) &&& (255 : Int64)) <<< ((24 : Int32) &&& 0x3f).toInt64)))]))
  refine go (fun _ k => by refine XS.lor X0.here hx rfl (hb hby d_method_2_code_80) rfl ?_; exact k) ?_
  refine go (fun _ k => by refine XS.aloadN X0.here hx rfl (hb hby d_method_2_code_81) rfl rfl ?_; exact k) ?_
  refine go (fun _ k => by refine XS.iloadN X0.here hx rfl (hb hby d_method_2_code_82) rfl ?_; exact k) ?_
  refine go (fun _ k => by refine XS.bipush X0.here hx rfl (hb hby d_method_2_code_83) ?_; exact k) ?_
  show OwnEnd _ _ _ _ _ _ _ (s₁.setTop (mkF m 85 #[.val (.ref a0'), .val (.int (0 : Int32))] [(.int (6 : Int32)), (.int (0 : Int32)), (.ref a0'), (.long ((((((((y0.toInt64) &&& (255 : Int64)) <<< ((56 : Int32) &&& 0x3f).toInt64) ||| (((y1.toInt64) &&& (255 : Int64)) <<< ((48 : Int32) &&& 0x3f).toInt64)) ||| (((y2.toInt64) &&& (255 : Int64)) <<< ((40 : Int32) &&& 0x3f).toInt64)) ||| (((y3.toInt64) &&& (255 : Int64)) <<< ((32 : Int32) &&& 0x3f).toInt64)) ||| (((y4.toInt64) &&& (255 : Int64)) <<< ((24 : Int32) &&& 0x3f).toInt64)) ||| (((y5.toInt64) &&& (255 : Int64)) <<< ((16 : Int32) &&& 0x3f).toInt64)))]))
  refine go (fun _ k => by refine XS.iadd X0.here hx rfl (hb hby d_method_2_code_85) rfl ?_; exact k) ?_
  show OwnEnd _ _ _ _ _ _ _ (s₁.setTop (mkF m 86 #[.val (.ref a0'), .val (.int (0 : Int32))] [(.int ((0 : Int32) + (6 : Int32))), (.ref a0'), (.long ((((((((y0.toInt64) &&& (255 : Int64)) <<< ((56 : Int32) &&& 0x3f).toInt64) ||| (((y1.toInt64) &&& (255 : Int64)) <<< ((48 : Int32) &&& 0x3f).toInt64)) ||| (((y2.toInt64) &&& (255 : Int64)) <<< ((40 : Int32) &&& 0x3f).toInt64)) ||| (((y3.toInt64) &&& (255 : Int64)) <<< ((32 : Int32) &&& 0x3f).toInt64)) ||| (((y4.toInt64) &&& (255 : Int64)) <<< ((24 : Int32) &&& 0x3f).toInt64)) ||| (((y5.toInt64) &&& (255 : Int64)) <<< ((16 : Int32) &&& 0x3f).toInt64)))]))
  rw [show ((0 : Int32) + (6 : Int32)) = (6 : Int32) from by decide]
  show OwnEnd _ _ _ _ _ _ _ (s₁.setTop (mkF m 86 #[.val (.ref a0'), .val (.int (0 : Int32))] [(.int (6 : Int32)), (.ref a0'), (.long ((((((((y0.toInt64) &&& (255 : Int64)) <<< ((56 : Int32) &&& 0x3f).toInt64) ||| (((y1.toInt64) &&& (255 : Int64)) <<< ((48 : Int32) &&& 0x3f).toInt64)) ||| (((y2.toInt64) &&& (255 : Int64)) <<< ((40 : Int32) &&& 0x3f).toInt64)) ||| (((y3.toInt64) &&& (255 : Int64)) <<< ((32 : Int32) &&& 0x3f).toInt64)) ||| (((y4.toInt64) &&& (255 : Int64)) <<< ((24 : Int32) &&& 0x3f).toInt64)) ||| (((y5.toInt64) &&& (255 : Int64)) <<< ((16 : Int32) &&& 0x3f).toInt64)))]))
  refine go (ldBv X0 hx hZ e0 VA (j := (6 : Int32)) (i := 6) (w := y6) (by decide) (by decide) (by decide) rfl (g := (mkF m 86 #[.val (.ref a0'), .val (.int (0 : Int32))] [(.int (6 : Int32)), (.ref a0'), (.long ((((((((y0.toInt64) &&& (255 : Int64)) <<< ((56 : Int32) &&& 0x3f).toInt64) ||| (((y1.toInt64) &&& (255 : Int64)) <<< ((48 : Int32) &&& 0x3f).toInt64)) ||| (((y2.toInt64) &&& (255 : Int64)) <<< ((40 : Int32) &&& 0x3f).toInt64)) ||| (((y3.toInt64) &&& (255 : Int64)) <<< ((32 : Int32) &&& 0x3f).toInt64)) ||| (((y4.toInt64) &&& (255 : Int64)) <<< ((24 : Int32) &&& 0x3f).toInt64)) ||| (((y5.toInt64) &&& (255 : Int64)) <<< ((16 : Int32) &&& 0x3f).toInt64)))])) rfl rfl (hb hby d_method_2_code_86)) ?_
  refine go (fun _ k => by refine XS.i2l X0.here hx rfl (hb hby d_method_2_code_87) rfl ?_; exact k) ?_
  show OwnEnd _ _ _ _ _ _ _ (s₁.setTop (mkF m 88 #[.val (.ref a0'), .val (.int (0 : Int32))] [(.long (y6.toInt64)), (.long ((((((((y0.toInt64) &&& (255 : Int64)) <<< ((56 : Int32) &&& 0x3f).toInt64) ||| (((y1.toInt64) &&& (255 : Int64)) <<< ((48 : Int32) &&& 0x3f).toInt64)) ||| (((y2.toInt64) &&& (255 : Int64)) <<< ((40 : Int32) &&& 0x3f).toInt64)) ||| (((y3.toInt64) &&& (255 : Int64)) <<< ((32 : Int32) &&& 0x3f).toInt64)) ||| (((y4.toInt64) &&& (255 : Int64)) <<< ((24 : Int32) &&& 0x3f).toInt64)) ||| (((y5.toInt64) &&& (255 : Int64)) <<< ((16 : Int32) &&& 0x3f).toInt64)))]))
  refine go (X0.ldc2Long hx hown (mvT hZ (hw _ (List.mem_of_getElem? (i := 20) rfl))) (g := (mkF m 88 #[.val (.ref a0'), .val (.int (0 : Int32))] [(.long (y6.toInt64)), (.long ((((((((y0.toInt64) &&& (255 : Int64)) <<< ((56 : Int32) &&& 0x3f).toInt64) ||| (((y1.toInt64) &&& (255 : Int64)) <<< ((48 : Int32) &&& 0x3f).toInt64)) ||| (((y2.toInt64) &&& (255 : Int64)) <<< ((40 : Int32) &&& 0x3f).toInt64)) ||| (((y3.toInt64) &&& (255 : Int64)) <<< ((32 : Int32) &&& 0x3f).toInt64)) ||| (((y4.toInt64) &&& (255 : Int64)) <<< ((24 : Int32) &&& 0x3f).toInt64)) ||| (((y5.toInt64) &&& (255 : Int64)) <<< ((16 : Int32) &&& 0x3f).toInt64)))])) rfl (hb hby d_method_2_code_88)) ?_
  refine go (fun _ k => by refine XS.land X0.here hx rfl (hb hby d_method_2_code_91) rfl ?_; exact k) ?_
  refine go (fun _ k => by refine XS.bipush X0.here hx rfl (hb hby d_method_2_code_92) ?_; exact k) ?_
  refine go (fun _ k => by refine XS.lshl X0.here hx rfl (hb hby d_method_2_code_94) rfl ?_; exact k) ?_
  show OwnEnd _ _ _ _ _ _ _ (s₁.setTop (mkF m 95 #[.val (.ref a0'), .val (.int (0 : Int32))] [(.long (((y6.toInt64) &&& (255 : Int64)) <<< ((8 : Int32) &&& 0x3f).toInt64)), (.long ((((((((y0.toInt64) &&& (255 : Int64)) <<< ((56 : Int32) &&& 0x3f).toInt64) ||| (((y1.toInt64) &&& (255 : Int64)) <<< ((48 : Int32) &&& 0x3f).toInt64)) ||| (((y2.toInt64) &&& (255 : Int64)) <<< ((40 : Int32) &&& 0x3f).toInt64)) ||| (((y3.toInt64) &&& (255 : Int64)) <<< ((32 : Int32) &&& 0x3f).toInt64)) ||| (((y4.toInt64) &&& (255 : Int64)) <<< ((24 : Int32) &&& 0x3f).toInt64)) ||| (((y5.toInt64) &&& (255 : Int64)) <<< ((16 : Int32) &&& 0x3f).toInt64)))]))
  refine go (fun _ k => by refine XS.lor X0.here hx rfl (hb hby d_method_2_code_95) rfl ?_; exact k) ?_
  refine go (fun _ k => by refine XS.aloadN X0.here hx rfl (hb hby d_method_2_code_96) rfl rfl ?_; exact k) ?_
  refine go (fun _ k => by refine XS.iloadN X0.here hx rfl (hb hby d_method_2_code_97) rfl ?_; exact k) ?_
  refine go (fun _ k => by refine XS.bipush X0.here hx rfl (hb hby d_method_2_code_98) ?_; exact k) ?_
  show OwnEnd _ _ _ _ _ _ _ (s₁.setTop (mkF m 100 #[.val (.ref a0'), .val (.int (0 : Int32))] [(.int (7 : Int32)), (.int (0 : Int32)), (.ref a0'), (.long (((((((((y0.toInt64) &&& (255 : Int64)) <<< ((56 : Int32) &&& 0x3f).toInt64) ||| (((y1.toInt64) &&& (255 : Int64)) <<< ((48 : Int32) &&& 0x3f).toInt64)) ||| (((y2.toInt64) &&& (255 : Int64)) <<< ((40 : Int32) &&& 0x3f).toInt64)) ||| (((y3.toInt64) &&& (255 : Int64)) <<< ((32 : Int32) &&& 0x3f).toInt64)) ||| (((y4.toInt64) &&& (255 : Int64)) <<< ((24 : Int32) &&& 0x3f).toInt64)) ||| (((y5.toInt64) &&& (255 : Int64)) <<< ((16 : Int32) &&& 0x3f).toInt64)) ||| (((y6.toInt64) &&& (255 : Int64)) <<< ((8 : Int32) &&& 0x3f).toInt64)))]))
  refine go (fun _ k => by refine XS.iadd X0.here hx rfl (hb hby d_method_2_code_100) rfl ?_; exact k) ?_
  show OwnEnd _ _ _ _ _ _ _ (s₁.setTop (mkF m 101 #[.val (.ref a0'), .val (.int (0 : Int32))] [(.int ((0 : Int32) + (7 : Int32))), (.ref a0'), (.long (((((((((y0.toInt64) &&& (255 : Int64)) <<< ((56 : Int32) &&& 0x3f).toInt64) ||| (((y1.toInt64) &&& (255 : Int64)) <<< ((48 : Int32) &&& 0x3f).toInt64)) ||| (((y2.toInt64) &&& (255 : Int64)) <<< ((40 : Int32) &&& 0x3f).toInt64)) ||| (((y3.toInt64) &&& (255 : Int64)) <<< ((32 : Int32) &&& 0x3f).toInt64)) ||| (((y4.toInt64) &&& (255 : Int64)) <<< ((24 : Int32) &&& 0x3f).toInt64)) ||| (((y5.toInt64) &&& (255 : Int64)) <<< ((16 : Int32) &&& 0x3f).toInt64)) ||| (((y6.toInt64) &&& (255 : Int64)) <<< ((8 : Int32) &&& 0x3f).toInt64)))]))
  rw [show ((0 : Int32) + (7 : Int32)) = (7 : Int32) from by decide]
  show OwnEnd _ _ _ _ _ _ _ (s₁.setTop (mkF m 101 #[.val (.ref a0'), .val (.int (0 : Int32))] [(.int (7 : Int32)), (.ref a0'), (.long (((((((((y0.toInt64) &&& (255 : Int64)) <<< ((56 : Int32) &&& 0x3f).toInt64) ||| (((y1.toInt64) &&& (255 : Int64)) <<< ((48 : Int32) &&& 0x3f).toInt64)) ||| (((y2.toInt64) &&& (255 : Int64)) <<< ((40 : Int32) &&& 0x3f).toInt64)) ||| (((y3.toInt64) &&& (255 : Int64)) <<< ((32 : Int32) &&& 0x3f).toInt64)) ||| (((y4.toInt64) &&& (255 : Int64)) <<< ((24 : Int32) &&& 0x3f).toInt64)) ||| (((y5.toInt64) &&& (255 : Int64)) <<< ((16 : Int32) &&& 0x3f).toInt64)) ||| (((y6.toInt64) &&& (255 : Int64)) <<< ((8 : Int32) &&& 0x3f).toInt64)))]))
  refine go (ldBv X0 hx hZ e0 VA (j := (7 : Int32)) (i := 7) (w := y7) (by decide) (by decide) (by decide) rfl (g := (mkF m 101 #[.val (.ref a0'), .val (.int (0 : Int32))] [(.int (7 : Int32)), (.ref a0'), (.long (((((((((y0.toInt64) &&& (255 : Int64)) <<< ((56 : Int32) &&& 0x3f).toInt64) ||| (((y1.toInt64) &&& (255 : Int64)) <<< ((48 : Int32) &&& 0x3f).toInt64)) ||| (((y2.toInt64) &&& (255 : Int64)) <<< ((40 : Int32) &&& 0x3f).toInt64)) ||| (((y3.toInt64) &&& (255 : Int64)) <<< ((32 : Int32) &&& 0x3f).toInt64)) ||| (((y4.toInt64) &&& (255 : Int64)) <<< ((24 : Int32) &&& 0x3f).toInt64)) ||| (((y5.toInt64) &&& (255 : Int64)) <<< ((16 : Int32) &&& 0x3f).toInt64)) ||| (((y6.toInt64) &&& (255 : Int64)) <<< ((8 : Int32) &&& 0x3f).toInt64)))])) rfl rfl (hb hby d_method_2_code_101)) ?_
  refine go (fun _ k => by refine XS.i2l X0.here hx rfl (hb hby d_method_2_code_102) rfl ?_; exact k) ?_
  show OwnEnd _ _ _ _ _ _ _ (s₁.setTop (mkF m 103 #[.val (.ref a0'), .val (.int (0 : Int32))] [(.long (y7.toInt64)), (.long (((((((((y0.toInt64) &&& (255 : Int64)) <<< ((56 : Int32) &&& 0x3f).toInt64) ||| (((y1.toInt64) &&& (255 : Int64)) <<< ((48 : Int32) &&& 0x3f).toInt64)) ||| (((y2.toInt64) &&& (255 : Int64)) <<< ((40 : Int32) &&& 0x3f).toInt64)) ||| (((y3.toInt64) &&& (255 : Int64)) <<< ((32 : Int32) &&& 0x3f).toInt64)) ||| (((y4.toInt64) &&& (255 : Int64)) <<< ((24 : Int32) &&& 0x3f).toInt64)) ||| (((y5.toInt64) &&& (255 : Int64)) <<< ((16 : Int32) &&& 0x3f).toInt64)) ||| (((y6.toInt64) &&& (255 : Int64)) <<< ((8 : Int32) &&& 0x3f).toInt64)))]))
  refine go (X0.ldc2Long hx hown (mvT hZ (hw _ (List.mem_of_getElem? (i := 20) rfl))) (g := (mkF m 103 #[.val (.ref a0'), .val (.int (0 : Int32))] [(.long (y7.toInt64)), (.long (((((((((y0.toInt64) &&& (255 : Int64)) <<< ((56 : Int32) &&& 0x3f).toInt64) ||| (((y1.toInt64) &&& (255 : Int64)) <<< ((48 : Int32) &&& 0x3f).toInt64)) ||| (((y2.toInt64) &&& (255 : Int64)) <<< ((40 : Int32) &&& 0x3f).toInt64)) ||| (((y3.toInt64) &&& (255 : Int64)) <<< ((32 : Int32) &&& 0x3f).toInt64)) ||| (((y4.toInt64) &&& (255 : Int64)) <<< ((24 : Int32) &&& 0x3f).toInt64)) ||| (((y5.toInt64) &&& (255 : Int64)) <<< ((16 : Int32) &&& 0x3f).toInt64)) ||| (((y6.toInt64) &&& (255 : Int64)) <<< ((8 : Int32) &&& 0x3f).toInt64)))])) rfl (hb hby d_method_2_code_103)) ?_
  refine go (fun _ k => by refine XS.land X0.here hx rfl (hb hby d_method_2_code_106) rfl ?_; exact k) ?_
  refine go (fun _ k => by refine XS.lor X0.here hx rfl (hb hby d_method_2_code_107) rfl ?_; exact k) ?_
  show OwnEnd _ _ _ _ _ _ _ (s₁.setTop (mkF m 108 #[.val (.ref a0'), .val (.int (0 : Int32))] [(.long ((((((((((y0.toInt64) &&& (255 : Int64)) <<< ((56 : Int32) &&& 0x3f).toInt64) ||| (((y1.toInt64) &&& (255 : Int64)) <<< ((48 : Int32) &&& 0x3f).toInt64)) ||| (((y2.toInt64) &&& (255 : Int64)) <<< ((40 : Int32) &&& 0x3f).toInt64)) ||| (((y3.toInt64) &&& (255 : Int64)) <<< ((32 : Int32) &&& 0x3f).toInt64)) ||| (((y4.toInt64) &&& (255 : Int64)) <<< ((24 : Int32) &&& 0x3f).toInt64)) ||| (((y5.toInt64) &&& (255 : Int64)) <<< ((16 : Int32) &&& 0x3f).toInt64)) ||| (((y6.toInt64) &&& (255 : Int64)) <<< ((8 : Int32) &&& 0x3f).toInt64)) ||| ((y7.toInt64) &&& (255 : Int64))))]))
  refine endJ X0 hx hlk Bd.returns (hb hby d_method_2_code_108) e0 (by decide) (by decide) ?_
  exact ⟨rfl, N0, rfl⟩
theorem ef_rm_put8 (m : MethodId) (y0 : Addr) (y2 : Int64) : entryFrame m #[(.ref y0), (.int (8 : Int32)), (.long y2)] 4 = mkF m 0 #[.val (.ref y0), .val (.int (8 : Int32)), .val (.long y2), .second] [] := by first | (simp [entryFrame, mkF, argsToLocals, Value.category]; done) | rfl
def Q_rm_put8 (Z : State) (a0' : Addr) (q2 : Int64) (k : ClassId) (y0 : Int32) (y1 : Int32) (y2 : Int32) (y3 : Int32) (y4 : Int32) (y5 : Int32) (y6 : Int32) (y7 : Int32) (y8 : Int32) (y9 : Int32) (y10 : Int32) (y11 : Int32) (y12 : Int32) (y13 : Int32) (y14 : Int32) (y15 : Int32) (h0 : Heap) (n0 : Nat) (v : Option Value) (h : Heap) (L : List Loc) : Prop := v = none ∧ Fr n0 L ∧ Keep h0 h [a0'] ∧ Arv Z h a0' k .byte 16 [(.int y0), (.int y1), (.int y2), (.int y3), (.int y4), (.int y5), (.int y6), (.int y7), (.int (own_by q2 56)), (.int (own_by q2 48)), (.int (own_by q2 40)), (.int (own_by q2 32)), (.int (own_by q2 24)), (.int (own_by q2 16)), (.int (own_by q2 8)), (.int (own_b0 q2))] (.int 0)
set_option maxRecDepth 65536 in
set_option maxHeartbeats 40000000 in
theorem rm_put8 (l : Launch) (Z : State) (a0 : Array Value) (hw : ∀ d ∈ tables_1, d.before a0 Z = true) (ws : List Jvm.Cond) (a0' : Addr) (q2 : Int64) (k : ClassId) (y0 : Int32) (y1 : Int32) (y2 : Int32) (y3 : Int32) (y4 : Int32) (y5 : Int32) (y6 : Int32) (y7 : Int32) (y8 : Int32) (y9 : Int32) (y10 : Int32) (y11 : Int32) (y12 : Int32) (y13 : Int32) (y14 : Int32) (y15 : Int32) (h0 : Heap) (n0 : Nat) (ga : n0 ≤ a0') (VA : Arv Z h0 a0' k .byte 16 [(.int y0), (.int y1), (.int y2), (.int y3), (.int y4), (.int y5), (.int y6), (.int y7), (.int y8), (.int y9), (.int y10), (.int y11), (.int y12), (.int y13), (.int y14), (.int y15)] (.int 0)) :
    MetFree l (⟨"com/example/sliding_gate/slidinggate/IpAddressesNetworkPinLaw", "put8", "([BIJ)V"⟩ : MethodName) (head1 (Jvm.Cond.code (⟨"com/example/sliding_gate/slidinggate/IpAddressesNetworkPinLaw", "put8", "([BIJ)V"⟩ : MethodName) method_3_code 4 none :: ws) ({ frames := 0, cells := 0, slots := 0, locals := 0 } : Room)) (fun a U => a = #[(.ref a0'), (.int (8 : Int32)), (.long q2)] ∧ Z.Warmed39 U.vm ∧ U.heap = h0) (fun _ _ _ _ _ => True) (fun _ U o U' => ∃ v L, o = .returned v ∧ Q_rm_put8 Z a0' q2 k y0 y1 y2 y3 y4 y5 y6 y7 y8 y9 y10 y11 y12 y13 y14 y15 h0 n0 v U'.heap L ∧ FrameEnd U o U' L 0 0) := by
  refine MetFree.of_bodySF (plainFor_of_name pn_com_example_sliding_gate_slidinggate_IpAddressesNetworkPinLaw) hisR ?_
  intro p e s m args below meth c s₁ Bd hml0 hP hK
  obtain ⟨rfl, hZ, hh⟩ := hP
  have hx := Bd.exec
  have hby := Bd.bytes
  have hlk := Bd.notSynchronized
  have hml : c.maxLocals = 4 := hml0
  have hown : s.vm.findClass "com/example/sliding_gate/slidinggate/IpAddressesNetworkPinLaw" = some m.cls := findClass_of_methodNamed Bd.named
  have hnm := (name_of_methodNamed Bd.named Bd.method).1
  have X0 : Stand p l e ({ frames := 0, cells := 0, slots := 0, locals := 0 } : Room) s m #[(.ref a0'), (.int (8 : Int32)), (.long q2)] below meth c s₁ [] 0 0 := Stand.of_body Bd
  have e0 : s₁.heap = h0 := by rw [← hh, Bd.state]; rfl
  have N0 := Fr.nil n0
  show OwnEnd p e below s (Q_rm_put8 Z a0' q2 k y0 y1 y2 y3 y4 y5 y6 y7 y8 y9 y10 y11 y12 y13 y14 y15 h0 n0) 0 0 (s₁.setTop (entryFrame m #[(.ref a0'), (.int (8 : Int32)), (.long q2)] 4))
  refine go (fun t k => castTop (ef_rm_put8 m a0' q2) k) ?_
  have KK := Keep.refl h0 [a0']
  show OwnEnd _ _ _ _ _ _ _ (s₁.setTop (mkF m 0 #[.val (.ref a0'), .val (.int (8 : Int32)), .val (.long q2), .second] []))
  refine go (fun _ k => by refine XS.aloadN X0.here hx rfl (hb hby d_method_3_code_0) rfl rfl ?_; exact k) ?_
  refine go (fun _ k => by refine XS.iloadN X0.here hx rfl (hb hby d_method_3_code_1) rfl ?_; exact k) ?_
  refine go (fun _ k => by refine XS.lloadN X0.here hx rfl (hb hby d_method_3_code_2) rfl ?_; exact k) ?_
  refine go (fun _ k => by refine XS.bipush X0.here hx rfl (hb hby d_method_3_code_3) ?_; exact k) ?_
  show OwnEnd _ _ _ _ _ _ _ (s₁.setTop (mkF m 5 #[.val (.ref a0'), .val (.int (8 : Int32)), .val (.long q2), .second] [(.int (56 : Int32)), (.long q2), (.int (8 : Int32)), (.ref a0')]))
  refine go (fun _ k => by refine XS.lushr X0.here hx rfl (hb hby d_method_3_code_5) rfl ?_; exact k) ?_
  refine go (fun _ k => by refine XS.l2i X0.here hx rfl (hb hby d_method_3_code_6) rfl ?_; exact k) ?_
  refine go (fun _ k => by refine XS.i2b X0.here hx rfl (hb hby d_method_3_code_7) rfl ?_; exact k) ?_
  show OwnEnd _ _ _ _ _ _ _ (s₁.setTop (mkF m 8 #[.val (.ref a0'), .val (.int (8 : Int32)), .val (.long q2), .second] [(.int ((((q2.toUInt64 >>> ((56 : Int32) &&& 0x3f).toInt64.toUInt64).toInt64).toInt32).toInt8.toInt32)), (.int (8 : Int32)), (.ref a0')]))
  obtain ⟨T1, h1, X1, e1, W1, VA', st1⟩ := stBv X0 hx hZ e0 VA (j := (8 : Int32)) (i := 8) (by decide) (by decide) (by decide) (Nat.le_of_ble_eq_true rfl) (g := (mkF m 8 #[.val (.ref a0'), .val (.int (8 : Int32)), .val (.long q2), .second] [(.int ((((q2.toUInt64 >>> ((56 : Int32) &&& 0x3f).toInt64.toUInt64).toInt64).toInt32).toInt8.toInt32)), (.int (8 : Int32)), (.ref a0')])) rfl rfl (hb hby d_method_3_code_8)
  have N1 := Fr.snoc X1 N0 ga
  have KK := Keep.wr KK W1 (Or.inl (List.mem_of_getElem? (i := 0) rfl))
  have VA : Arv Z h1 a0' k .byte (16 : Int32) [(.int y0), (.int y1), (.int y2), (.int y3), (.int y4), (.int y5), (.int y6), (.int y7), (.int (own_by q2 56)), (.int y9), (.int y10), (.int y11), (.int y12), (.int y13), (.int y14), (.int y15)] (.int (0 : Int32)) := VA'
  refine go st1 ?_
  refine go (fun _ k => by refine XS.aloadN X1.here hx rfl (hb hby d_method_3_code_9) rfl rfl ?_; exact k) ?_
  refine go (fun _ k => by refine XS.iloadN X1.here hx rfl (hb hby d_method_3_code_10) rfl ?_; exact k) ?_
  refine go (fun _ k => by refine XS.iconst X1.here hx rfl (hb hby d_method_3_code_11) ?_; exact k) ?_
  show OwnEnd _ _ _ _ _ _ _ (T1.setTop (mkF m 12 #[.val (.ref a0'), .val (.int (8 : Int32)), .val (.long q2), .second] [(.int (1 : Int32)), (.int (8 : Int32)), (.ref a0')]))
  refine go (fun _ k => by refine XS.iadd X1.here hx rfl (hb hby d_method_3_code_12) rfl ?_; exact k) ?_
  show OwnEnd _ _ _ _ _ _ _ (T1.setTop (mkF m 13 #[.val (.ref a0'), .val (.int (8 : Int32)), .val (.long q2), .second] [(.int ((8 : Int32) + (1 : Int32))), (.ref a0')]))
  rw [show ((8 : Int32) + (1 : Int32)) = (9 : Int32) from by decide]
  refine go (fun _ k => by refine XS.lloadN X1.here hx rfl (hb hby d_method_3_code_13) rfl ?_; exact k) ?_
  refine go (fun _ k => by refine XS.bipush X1.here hx rfl (hb hby d_method_3_code_14) ?_; exact k) ?_
  refine go (fun _ k => by refine XS.lushr X1.here hx rfl (hb hby d_method_3_code_16) rfl ?_; exact k) ?_
  show OwnEnd _ _ _ _ _ _ _ (T1.setTop (mkF m 17 #[.val (.ref a0'), .val (.int (8 : Int32)), .val (.long q2), .second] [(.long ((q2.toUInt64 >>> ((48 : Int32) &&& 0x3f).toInt64.toUInt64).toInt64)), (.int (9 : Int32)), (.ref a0')]))
  refine go (fun _ k => by refine XS.l2i X1.here hx rfl (hb hby d_method_3_code_17) rfl ?_; exact k) ?_
  refine go (fun _ k => by refine XS.i2b X1.here hx rfl (hb hby d_method_3_code_18) rfl ?_; exact k) ?_
  show OwnEnd _ _ _ _ _ _ _ (T1.setTop (mkF m 19 #[.val (.ref a0'), .val (.int (8 : Int32)), .val (.long q2), .second] [(.int ((((q2.toUInt64 >>> ((48 : Int32) &&& 0x3f).toInt64.toUInt64).toInt64).toInt32).toInt8.toInt32)), (.int (9 : Int32)), (.ref a0')]))
  obtain ⟨T2, h2, X2, e2, W2, VA', st2⟩ := stBv X1 hx hZ e1 VA (j := (9 : Int32)) (i := 9) (by decide) (by decide) (by decide) (Nat.le_of_ble_eq_true rfl) (g := (mkF m 19 #[.val (.ref a0'), .val (.int (8 : Int32)), .val (.long q2), .second] [(.int ((((q2.toUInt64 >>> ((48 : Int32) &&& 0x3f).toInt64.toUInt64).toInt64).toInt32).toInt8.toInt32)), (.int (9 : Int32)), (.ref a0')])) rfl rfl (hb hby d_method_3_code_19)
  have N2 := Fr.snoc X2 N1 ga
  have KK := Keep.wr KK W2 (Or.inl (List.mem_of_getElem? (i := 0) rfl))
  have VA : Arv Z h2 a0' k .byte (16 : Int32) [(.int y0), (.int y1), (.int y2), (.int y3), (.int y4), (.int y5), (.int y6), (.int y7), (.int (own_by q2 56)), (.int (own_by q2 48)), (.int y10), (.int y11), (.int y12), (.int y13), (.int y14), (.int y15)] (.int (0 : Int32)) := VA'
  refine go st2 ?_
  refine go (fun _ k => by refine XS.aloadN X2.here hx rfl (hb hby d_method_3_code_20) rfl rfl ?_; exact k) ?_
  refine go (fun _ k => by refine XS.iloadN X2.here hx rfl (hb hby d_method_3_code_21) rfl ?_; exact k) ?_
  refine go (fun _ k => by refine XS.iconst X2.here hx rfl (hb hby d_method_3_code_22) ?_; exact k) ?_
  show OwnEnd _ _ _ _ _ _ _ (T2.setTop (mkF m 23 #[.val (.ref a0'), .val (.int (8 : Int32)), .val (.long q2), .second] [(.int (2 : Int32)), (.int (8 : Int32)), (.ref a0')]))
  refine go (fun _ k => by refine XS.iadd X2.here hx rfl (hb hby d_method_3_code_23) rfl ?_; exact k) ?_
  show OwnEnd _ _ _ _ _ _ _ (T2.setTop (mkF m 24 #[.val (.ref a0'), .val (.int (8 : Int32)), .val (.long q2), .second] [(.int ((8 : Int32) + (2 : Int32))), (.ref a0')]))
  rw [show ((8 : Int32) + (2 : Int32)) = (10 : Int32) from by decide]
  refine go (fun _ k => by refine XS.lloadN X2.here hx rfl (hb hby d_method_3_code_24) rfl ?_; exact k) ?_
  refine go (fun _ k => by refine XS.bipush X2.here hx rfl (hb hby d_method_3_code_25) ?_; exact k) ?_
  refine go (fun _ k => by refine XS.lushr X2.here hx rfl (hb hby d_method_3_code_27) rfl ?_; exact k) ?_
  show OwnEnd _ _ _ _ _ _ _ (T2.setTop (mkF m 28 #[.val (.ref a0'), .val (.int (8 : Int32)), .val (.long q2), .second] [(.long ((q2.toUInt64 >>> ((40 : Int32) &&& 0x3f).toInt64.toUInt64).toInt64)), (.int (10 : Int32)), (.ref a0')]))
  refine go (fun _ k => by refine XS.l2i X2.here hx rfl (hb hby d_method_3_code_28) rfl ?_; exact k) ?_
  refine go (fun _ k => by refine XS.i2b X2.here hx rfl (hb hby d_method_3_code_29) rfl ?_; exact k) ?_
  show OwnEnd _ _ _ _ _ _ _ (T2.setTop (mkF m 30 #[.val (.ref a0'), .val (.int (8 : Int32)), .val (.long q2), .second] [(.int ((((q2.toUInt64 >>> ((40 : Int32) &&& 0x3f).toInt64.toUInt64).toInt64).toInt32).toInt8.toInt32)), (.int (10 : Int32)), (.ref a0')]))
  obtain ⟨T3, h3, X3, e3, W3, VA', st3⟩ := stBv X2 hx hZ e2 VA (j := (10 : Int32)) (i := 10) (by decide) (by decide) (by decide) (Nat.le_of_ble_eq_true rfl) (g := (mkF m 30 #[.val (.ref a0'), .val (.int (8 : Int32)), .val (.long q2), .second] [(.int ((((q2.toUInt64 >>> ((40 : Int32) &&& 0x3f).toInt64.toUInt64).toInt64).toInt32).toInt8.toInt32)), (.int (10 : Int32)), (.ref a0')])) rfl rfl (hb hby d_method_3_code_30)
  have N3 := Fr.snoc X3 N2 ga
  have KK := Keep.wr KK W3 (Or.inl (List.mem_of_getElem? (i := 0) rfl))
  have VA : Arv Z h3 a0' k .byte (16 : Int32) [(.int y0), (.int y1), (.int y2), (.int y3), (.int y4), (.int y5), (.int y6), (.int y7), (.int (own_by q2 56)), (.int (own_by q2 48)), (.int (own_by q2 40)), (.int y11), (.int y12), (.int y13), (.int y14), (.int y15)] (.int (0 : Int32)) := VA'
  refine go st3 ?_
  refine go (fun _ k => by refine XS.aloadN X3.here hx rfl (hb hby d_method_3_code_31) rfl rfl ?_; exact k) ?_
  refine go (fun _ k => by refine XS.iloadN X3.here hx rfl (hb hby d_method_3_code_32) rfl ?_; exact k) ?_
  refine go (fun _ k => by refine XS.iconst X3.here hx rfl (hb hby d_method_3_code_33) ?_; exact k) ?_
  show OwnEnd _ _ _ _ _ _ _ (T3.setTop (mkF m 34 #[.val (.ref a0'), .val (.int (8 : Int32)), .val (.long q2), .second] [(.int (3 : Int32)), (.int (8 : Int32)), (.ref a0')]))
  refine go (fun _ k => by refine XS.iadd X3.here hx rfl (hb hby d_method_3_code_34) rfl ?_; exact k) ?_
  show OwnEnd _ _ _ _ _ _ _ (T3.setTop (mkF m 35 #[.val (.ref a0'), .val (.int (8 : Int32)), .val (.long q2), .second] [(.int ((8 : Int32) + (3 : Int32))), (.ref a0')]))
  rw [show ((8 : Int32) + (3 : Int32)) = (11 : Int32) from by decide]
  refine go (fun _ k => by refine XS.lloadN X3.here hx rfl (hb hby d_method_3_code_35) rfl ?_; exact k) ?_
  refine go (fun _ k => by refine XS.bipush X3.here hx rfl (hb hby d_method_3_code_36) ?_; exact k) ?_
  refine go (fun _ k => by refine XS.lushr X3.here hx rfl (hb hby d_method_3_code_38) rfl ?_; exact k) ?_
  show OwnEnd _ _ _ _ _ _ _ (T3.setTop (mkF m 39 #[.val (.ref a0'), .val (.int (8 : Int32)), .val (.long q2), .second] [(.long ((q2.toUInt64 >>> ((32 : Int32) &&& 0x3f).toInt64.toUInt64).toInt64)), (.int (11 : Int32)), (.ref a0')]))
  refine go (fun _ k => by refine XS.l2i X3.here hx rfl (hb hby d_method_3_code_39) rfl ?_; exact k) ?_
  refine go (fun _ k => by refine XS.i2b X3.here hx rfl (hb hby d_method_3_code_40) rfl ?_; exact k) ?_
  show OwnEnd _ _ _ _ _ _ _ (T3.setTop (mkF m 41 #[.val (.ref a0'), .val (.int (8 : Int32)), .val (.long q2), .second] [(.int ((((q2.toUInt64 >>> ((32 : Int32) &&& 0x3f).toInt64.toUInt64).toInt64).toInt32).toInt8.toInt32)), (.int (11 : Int32)), (.ref a0')]))
  obtain ⟨T4, h4, X4, e4, W4, VA', st4⟩ := stBv X3 hx hZ e3 VA (j := (11 : Int32)) (i := 11) (by decide) (by decide) (by decide) (Nat.le_of_ble_eq_true rfl) (g := (mkF m 41 #[.val (.ref a0'), .val (.int (8 : Int32)), .val (.long q2), .second] [(.int ((((q2.toUInt64 >>> ((32 : Int32) &&& 0x3f).toInt64.toUInt64).toInt64).toInt32).toInt8.toInt32)), (.int (11 : Int32)), (.ref a0')])) rfl rfl (hb hby d_method_3_code_41)
  have N4 := Fr.snoc X4 N3 ga
  have KK := Keep.wr KK W4 (Or.inl (List.mem_of_getElem? (i := 0) rfl))
  have VA : Arv Z h4 a0' k .byte (16 : Int32) [(.int y0), (.int y1), (.int y2), (.int y3), (.int y4), (.int y5), (.int y6), (.int y7), (.int (own_by q2 56)), (.int (own_by q2 48)), (.int (own_by q2 40)), (.int (own_by q2 32)), (.int y12), (.int y13), (.int y14), (.int y15)] (.int (0 : Int32)) := VA'
  refine go st4 ?_
  refine go (fun _ k => by refine XS.aloadN X4.here hx rfl (hb hby d_method_3_code_42) rfl rfl ?_; exact k) ?_
  refine go (fun _ k => by refine XS.iloadN X4.here hx rfl (hb hby d_method_3_code_43) rfl ?_; exact k) ?_
  refine go (fun _ k => by refine XS.iconst X4.here hx rfl (hb hby d_method_3_code_44) ?_; exact k) ?_
  show OwnEnd _ _ _ _ _ _ _ (T4.setTop (mkF m 45 #[.val (.ref a0'), .val (.int (8 : Int32)), .val (.long q2), .second] [(.int (4 : Int32)), (.int (8 : Int32)), (.ref a0')]))
  refine go (fun _ k => by refine XS.iadd X4.here hx rfl (hb hby d_method_3_code_45) rfl ?_; exact k) ?_
  show OwnEnd _ _ _ _ _ _ _ (T4.setTop (mkF m 46 #[.val (.ref a0'), .val (.int (8 : Int32)), .val (.long q2), .second] [(.int ((8 : Int32) + (4 : Int32))), (.ref a0')]))
  rw [show ((8 : Int32) + (4 : Int32)) = (12 : Int32) from by decide]
  refine go (fun _ k => by refine XS.lloadN X4.here hx rfl (hb hby d_method_3_code_46) rfl ?_; exact k) ?_
  refine go (fun _ k => by refine XS.bipush X4.here hx rfl (hb hby d_method_3_code_47) ?_; exact k) ?_
  refine go (fun _ k => by refine XS.lushr X4.here hx rfl (hb hby d_method_3_code_49) rfl ?_; exact k) ?_
  show OwnEnd _ _ _ _ _ _ _ (T4.setTop (mkF m 50 #[.val (.ref a0'), .val (.int (8 : Int32)), .val (.long q2), .second] [(.long ((q2.toUInt64 >>> ((24 : Int32) &&& 0x3f).toInt64.toUInt64).toInt64)), (.int (12 : Int32)), (.ref a0')]))
  refine go (fun _ k => by refine XS.l2i X4.here hx rfl (hb hby d_method_3_code_50) rfl ?_; exact k) ?_
  refine go (fun _ k => by refine XS.i2b X4.here hx rfl (hb hby d_method_3_code_51) rfl ?_; exact k) ?_
  show OwnEnd _ _ _ _ _ _ _ (T4.setTop (mkF m 52 #[.val (.ref a0'), .val (.int (8 : Int32)), .val (.long q2), .second] [(.int ((((q2.toUInt64 >>> ((24 : Int32) &&& 0x3f).toInt64.toUInt64).toInt64).toInt32).toInt8.toInt32)), (.int (12 : Int32)), (.ref a0')]))
  obtain ⟨T5, h5, X5, e5, W5, VA', st5⟩ := stBv X4 hx hZ e4 VA (j := (12 : Int32)) (i := 12) (by decide) (by decide) (by decide) (Nat.le_of_ble_eq_true rfl) (g := (mkF m 52 #[.val (.ref a0'), .val (.int (8 : Int32)), .val (.long q2), .second] [(.int ((((q2.toUInt64 >>> ((24 : Int32) &&& 0x3f).toInt64.toUInt64).toInt64).toInt32).toInt8.toInt32)), (.int (12 : Int32)), (.ref a0')])) rfl rfl (hb hby d_method_3_code_52)
  have N5 := Fr.snoc X5 N4 ga
  have KK := Keep.wr KK W5 (Or.inl (List.mem_of_getElem? (i := 0) rfl))
  have VA : Arv Z h5 a0' k .byte (16 : Int32) [(.int y0), (.int y1), (.int y2), (.int y3), (.int y4), (.int y5), (.int y6), (.int y7), (.int (own_by q2 56)), (.int (own_by q2 48)), (.int (own_by q2 40)), (.int (own_by q2 32)), (.int (own_by q2 24)), (.int y13), (.int y14), (.int y15)] (.int (0 : Int32)) := VA'
  refine go st5 ?_
  refine go (fun _ k => by refine XS.aloadN X5.here hx rfl (hb hby d_method_3_code_53) rfl rfl ?_; exact k) ?_
  refine go (fun _ k => by refine XS.iloadN X5.here hx rfl (hb hby d_method_3_code_54) rfl ?_; exact k) ?_
  refine go (fun _ k => by refine XS.iconst X5.here hx rfl (hb hby d_method_3_code_55) ?_; exact k) ?_
  show OwnEnd _ _ _ _ _ _ _ (T5.setTop (mkF m 56 #[.val (.ref a0'), .val (.int (8 : Int32)), .val (.long q2), .second] [(.int (5 : Int32)), (.int (8 : Int32)), (.ref a0')]))
  refine go (fun _ k => by refine XS.iadd X5.here hx rfl (hb hby d_method_3_code_56) rfl ?_; exact k) ?_
  show OwnEnd _ _ _ _ _ _ _ (T5.setTop (mkF m 57 #[.val (.ref a0'), .val (.int (8 : Int32)), .val (.long q2), .second] [(.int ((8 : Int32) + (5 : Int32))), (.ref a0')]))
  rw [show ((8 : Int32) + (5 : Int32)) = (13 : Int32) from by decide]
  refine go (fun _ k => by refine XS.lloadN X5.here hx rfl (hb hby d_method_3_code_57) rfl ?_; exact k) ?_
  refine go (fun _ k => by refine XS.bipush X5.here hx rfl (hb hby d_method_3_code_58) ?_; exact k) ?_
  refine go (fun _ k => by refine XS.lushr X5.here hx rfl (hb hby d_method_3_code_60) rfl ?_; exact k) ?_
  show OwnEnd _ _ _ _ _ _ _ (T5.setTop (mkF m 61 #[.val (.ref a0'), .val (.int (8 : Int32)), .val (.long q2), .second] [(.long ((q2.toUInt64 >>> ((16 : Int32) &&& 0x3f).toInt64.toUInt64).toInt64)), (.int (13 : Int32)), (.ref a0')]))
  refine go (fun _ k => by refine XS.l2i X5.here hx rfl (hb hby d_method_3_code_61) rfl ?_; exact k) ?_
  refine go (fun _ k => by refine XS.i2b X5.here hx rfl (hb hby d_method_3_code_62) rfl ?_; exact k) ?_
  show OwnEnd _ _ _ _ _ _ _ (T5.setTop (mkF m 63 #[.val (.ref a0'), .val (.int (8 : Int32)), .val (.long q2), .second] [(.int ((((q2.toUInt64 >>> ((16 : Int32) &&& 0x3f).toInt64.toUInt64).toInt64).toInt32).toInt8.toInt32)), (.int (13 : Int32)), (.ref a0')]))
  obtain ⟨T6, h6, X6, e6, W6, VA', st6⟩ := stBv X5 hx hZ e5 VA (j := (13 : Int32)) (i := 13) (by decide) (by decide) (by decide) (Nat.le_of_ble_eq_true rfl) (g := (mkF m 63 #[.val (.ref a0'), .val (.int (8 : Int32)), .val (.long q2), .second] [(.int ((((q2.toUInt64 >>> ((16 : Int32) &&& 0x3f).toInt64.toUInt64).toInt64).toInt32).toInt8.toInt32)), (.int (13 : Int32)), (.ref a0')])) rfl rfl (hb hby d_method_3_code_63)
  have N6 := Fr.snoc X6 N5 ga
  have KK := Keep.wr KK W6 (Or.inl (List.mem_of_getElem? (i := 0) rfl))
  have VA : Arv Z h6 a0' k .byte (16 : Int32) [(.int y0), (.int y1), (.int y2), (.int y3), (.int y4), (.int y5), (.int y6), (.int y7), (.int (own_by q2 56)), (.int (own_by q2 48)), (.int (own_by q2 40)), (.int (own_by q2 32)), (.int (own_by q2 24)), (.int (own_by q2 16)), (.int y14), (.int y15)] (.int (0 : Int32)) := VA'
  refine go st6 ?_
  refine go (fun _ k => by refine XS.aloadN X6.here hx rfl (hb hby d_method_3_code_64) rfl rfl ?_; exact k) ?_
  refine go (fun _ k => by refine XS.iloadN X6.here hx rfl (hb hby d_method_3_code_65) rfl ?_; exact k) ?_
  refine go (fun _ k => by refine XS.bipush X6.here hx rfl (hb hby d_method_3_code_66) ?_; exact k) ?_
  show OwnEnd _ _ _ _ _ _ _ (T6.setTop (mkF m 68 #[.val (.ref a0'), .val (.int (8 : Int32)), .val (.long q2), .second] [(.int (6 : Int32)), (.int (8 : Int32)), (.ref a0')]))
  refine go (fun _ k => by refine XS.iadd X6.here hx rfl (hb hby d_method_3_code_68) rfl ?_; exact k) ?_
  show OwnEnd _ _ _ _ _ _ _ (T6.setTop (mkF m 69 #[.val (.ref a0'), .val (.int (8 : Int32)), .val (.long q2), .second] [(.int ((8 : Int32) + (6 : Int32))), (.ref a0')]))
  rw [show ((8 : Int32) + (6 : Int32)) = (14 : Int32) from by decide]
  refine go (fun _ k => by refine XS.lloadN X6.here hx rfl (hb hby d_method_3_code_69) rfl ?_; exact k) ?_
  refine go (fun _ k => by refine XS.bipush X6.here hx rfl (hb hby d_method_3_code_70) ?_; exact k) ?_
  refine go (fun _ k => by refine XS.lushr X6.here hx rfl (hb hby d_method_3_code_72) rfl ?_; exact k) ?_
  show OwnEnd _ _ _ _ _ _ _ (T6.setTop (mkF m 73 #[.val (.ref a0'), .val (.int (8 : Int32)), .val (.long q2), .second] [(.long ((q2.toUInt64 >>> ((8 : Int32) &&& 0x3f).toInt64.toUInt64).toInt64)), (.int (14 : Int32)), (.ref a0')]))
  refine go (fun _ k => by refine XS.l2i X6.here hx rfl (hb hby d_method_3_code_73) rfl ?_; exact k) ?_
  refine go (fun _ k => by refine XS.i2b X6.here hx rfl (hb hby d_method_3_code_74) rfl ?_; exact k) ?_
  show OwnEnd _ _ _ _ _ _ _ (T6.setTop (mkF m 75 #[.val (.ref a0'), .val (.int (8 : Int32)), .val (.long q2), .second] [(.int ((((q2.toUInt64 >>> ((8 : Int32) &&& 0x3f).toInt64.toUInt64).toInt64).toInt32).toInt8.toInt32)), (.int (14 : Int32)), (.ref a0')]))
  obtain ⟨T7, h7, X7, e7, W7, VA', st7⟩ := stBv X6 hx hZ e6 VA (j := (14 : Int32)) (i := 14) (by decide) (by decide) (by decide) (Nat.le_of_ble_eq_true rfl) (g := (mkF m 75 #[.val (.ref a0'), .val (.int (8 : Int32)), .val (.long q2), .second] [(.int ((((q2.toUInt64 >>> ((8 : Int32) &&& 0x3f).toInt64.toUInt64).toInt64).toInt32).toInt8.toInt32)), (.int (14 : Int32)), (.ref a0')])) rfl rfl (hb hby d_method_3_code_75)
  have N7 := Fr.snoc X7 N6 ga
  have KK := Keep.wr KK W7 (Or.inl (List.mem_of_getElem? (i := 0) rfl))
  have VA : Arv Z h7 a0' k .byte (16 : Int32) [(.int y0), (.int y1), (.int y2), (.int y3), (.int y4), (.int y5), (.int y6), (.int y7), (.int (own_by q2 56)), (.int (own_by q2 48)), (.int (own_by q2 40)), (.int (own_by q2 32)), (.int (own_by q2 24)), (.int (own_by q2 16)), (.int (own_by q2 8)), (.int y15)] (.int (0 : Int32)) := VA'
  refine go st7 ?_
  refine go (fun _ k => by refine XS.aloadN X7.here hx rfl (hb hby d_method_3_code_76) rfl rfl ?_; exact k) ?_
  refine go (fun _ k => by refine XS.iloadN X7.here hx rfl (hb hby d_method_3_code_77) rfl ?_; exact k) ?_
  refine go (fun _ k => by refine XS.bipush X7.here hx rfl (hb hby d_method_3_code_78) ?_; exact k) ?_
  show OwnEnd _ _ _ _ _ _ _ (T7.setTop (mkF m 80 #[.val (.ref a0'), .val (.int (8 : Int32)), .val (.long q2), .second] [(.int (7 : Int32)), (.int (8 : Int32)), (.ref a0')]))
  refine go (fun _ k => by refine XS.iadd X7.here hx rfl (hb hby d_method_3_code_80) rfl ?_; exact k) ?_
  show OwnEnd _ _ _ _ _ _ _ (T7.setTop (mkF m 81 #[.val (.ref a0'), .val (.int (8 : Int32)), .val (.long q2), .second] [(.int ((8 : Int32) + (7 : Int32))), (.ref a0')]))
  rw [show ((8 : Int32) + (7 : Int32)) = (15 : Int32) from by decide]
  refine go (fun _ k => by refine XS.lloadN X7.here hx rfl (hb hby d_method_3_code_81) rfl ?_; exact k) ?_
  refine go (fun _ k => by refine XS.l2i X7.here hx rfl (hb hby d_method_3_code_82) rfl ?_; exact k) ?_
  refine go (fun _ k => by refine XS.i2b X7.here hx rfl (hb hby d_method_3_code_83) rfl ?_; exact k) ?_
  show OwnEnd _ _ _ _ _ _ _ (T7.setTop (mkF m 84 #[.val (.ref a0'), .val (.int (8 : Int32)), .val (.long q2), .second] [(.int ((q2.toInt32).toInt8.toInt32)), (.int (15 : Int32)), (.ref a0')]))
  obtain ⟨T8, h8, X8, e8, W8, VA', st8⟩ := stBv X7 hx hZ e7 VA (j := (15 : Int32)) (i := 15) (by decide) (by decide) (by decide) (Nat.le_of_ble_eq_true rfl) (g := (mkF m 84 #[.val (.ref a0'), .val (.int (8 : Int32)), .val (.long q2), .second] [(.int ((q2.toInt32).toInt8.toInt32)), (.int (15 : Int32)), (.ref a0')])) rfl rfl (hb hby d_method_3_code_84)
  have N8 := Fr.snoc X8 N7 ga
  have KK := Keep.wr KK W8 (Or.inl (List.mem_of_getElem? (i := 0) rfl))
  have VA : Arv Z h8 a0' k .byte (16 : Int32) [(.int y0), (.int y1), (.int y2), (.int y3), (.int y4), (.int y5), (.int y6), (.int y7), (.int (own_by q2 56)), (.int (own_by q2 48)), (.int (own_by q2 40)), (.int (own_by q2 32)), (.int (own_by q2 24)), (.int (own_by q2 16)), (.int (own_by q2 8)), (.int (own_b0 q2))] (.int (0 : Int32)) := VA'
  refine go st8 ?_
  show OwnEnd _ _ _ _ _ _ _ (T8.setTop (mkF m 85 #[.val (.ref a0'), .val (.int (8 : Int32)), .val (.long q2), .second] []))
  refine endV X8 hx hlk Bd.returns (hb hby d_method_3_code_85) e8 (by decide) (by decide) ?_
  exact ⟨rfl, N8, KK, VA⟩
theorem ef_rm_pk8 (m : MethodId) (y0 : Addr) : entryFrame m #[(.ref y0), (.int (8 : Int32))] 2 = mkF m 0 #[.val (.ref y0), .val (.int (8 : Int32))] [] := by first | (simp [entryFrame, mkF, argsToLocals, Value.category]; done) | rfl
def Q_rm_pk8 (Z : State) (a0' : Addr) (k : ClassId) (y0 : Int32) (y1 : Int32) (y2 : Int32) (y3 : Int32) (y4 : Int32) (y5 : Int32) (y6 : Int32) (y7 : Int32) (y8 : Int32) (y9 : Int32) (y10 : Int32) (y11 : Int32) (y12 : Int32) (y13 : Int32) (y14 : Int32) (y15 : Int32) (h0 : Heap) (n0 : Nat) (v : Option Value) (h : Heap) (L : List Loc) : Prop := v = some (.long (own_p8 y8 y9 y10 y11 y12 y13 y14 y15)) ∧ Fr n0 L ∧ h = h0
set_option maxRecDepth 65536 in
set_option maxHeartbeats 40000000 in
theorem rm_pk8 (l : Launch) (Z : State) (a0 : Array Value) (hw : ∀ d ∈ tables_1, d.before a0 Z = true) (ws : List Jvm.Cond) (a0' : Addr) (k : ClassId) (y0 : Int32) (y1 : Int32) (y2 : Int32) (y3 : Int32) (y4 : Int32) (y5 : Int32) (y6 : Int32) (y7 : Int32) (y8 : Int32) (y9 : Int32) (y10 : Int32) (y11 : Int32) (y12 : Int32) (y13 : Int32) (y14 : Int32) (y15 : Int32) (h0 : Heap) (n0 : Nat) (VA : Arv Z h0 a0' k .byte 16 [(.int y0), (.int y1), (.int y2), (.int y3), (.int y4), (.int y5), (.int y6), (.int y7), (.int y8), (.int y9), (.int y10), (.int y11), (.int y12), (.int y13), (.int y14), (.int y15)] (.int 0)) :
    MetFree l (⟨"com/example/sliding_gate/slidinggate/IpAddressesNetworkPinLaw", "pack8", "([BI)J"⟩ : MethodName) (head1 (Jvm.Cond.code (⟨"com/example/sliding_gate/slidinggate/IpAddressesNetworkPinLaw", "pack8", "([BI)J"⟩ : MethodName) method_2_code 2 (some .long) :: ws) ({ frames := 0, cells := 0, slots := 0, locals := 0 } : Room)) (fun a U => a = #[(.ref a0'), (.int (8 : Int32))] ∧ Z.Warmed39 U.vm ∧ U.heap = h0) (fun _ _ _ _ _ => True) (fun _ U o U' => ∃ v L, o = .returned v ∧ Q_rm_pk8 Z a0' k y0 y1 y2 y3 y4 y5 y6 y7 y8 y9 y10 y11 y12 y13 y14 y15 h0 n0 v U'.heap L ∧ FrameEnd U o U' L 0 0) := by
  refine MetFree.of_bodySF (plainFor_of_name pn_com_example_sliding_gate_slidinggate_IpAddressesNetworkPinLaw) hisR ?_
  intro p e s m args below meth c s₁ Bd hml0 hP hK
  obtain ⟨rfl, hZ, hh⟩ := hP
  have hx := Bd.exec
  have hby := Bd.bytes
  have hlk := Bd.notSynchronized
  have hml : c.maxLocals = 2 := hml0
  have hown : s.vm.findClass "com/example/sliding_gate/slidinggate/IpAddressesNetworkPinLaw" = some m.cls := findClass_of_methodNamed Bd.named
  have hnm := (name_of_methodNamed Bd.named Bd.method).1
  have X0 : Stand p l e ({ frames := 0, cells := 0, slots := 0, locals := 0 } : Room) s m #[(.ref a0'), (.int (8 : Int32))] below meth c s₁ [] 0 0 := Stand.of_body Bd
  have e0 : s₁.heap = h0 := by rw [← hh, Bd.state]; rfl
  have N0 := Fr.nil n0
  show OwnEnd p e below s (Q_rm_pk8 Z a0' k y0 y1 y2 y3 y4 y5 y6 y7 y8 y9 y10 y11 y12 y13 y14 y15 h0 n0) 0 0 (s₁.setTop (entryFrame m #[(.ref a0'), (.int (8 : Int32))] 2))
  refine go (fun t k => castTop (ef_rm_pk8 m a0') k) ?_
  show OwnEnd _ _ _ _ _ _ _ (s₁.setTop (mkF m 0 #[.val (.ref a0'), .val (.int (8 : Int32))] []))
  refine go (fun _ k => by refine XS.aloadN X0.here hx rfl (hb hby d_method_2_code_0) rfl rfl ?_; exact k) ?_
  refine go (fun _ k => by refine XS.iloadN X0.here hx rfl (hb hby d_method_2_code_1) rfl ?_; exact k) ?_
  show OwnEnd _ _ _ _ _ _ _ (s₁.setTop (mkF m 2 #[.val (.ref a0'), .val (.int (8 : Int32))] [(.int (8 : Int32)), (.ref a0')]))
  refine go (ldBv X0 hx hZ e0 VA (j := (8 : Int32)) (i := 8) (w := y8) (by decide) (by decide) (by decide) rfl (g := (mkF m 2 #[.val (.ref a0'), .val (.int (8 : Int32))] [(.int (8 : Int32)), (.ref a0')])) rfl rfl (hb hby d_method_2_code_2)) ?_
  refine go (fun _ k => by refine XS.i2l X0.here hx rfl (hb hby d_method_2_code_3) rfl ?_; exact k) ?_
  show OwnEnd _ _ _ _ _ _ _ (s₁.setTop (mkF m 4 #[.val (.ref a0'), .val (.int (8 : Int32))] [(.long (y8.toInt64))]))
  refine go (X0.ldc2Long hx hown (mvT hZ (hw _ (List.mem_of_getElem? (i := 20) rfl))) (g := (mkF m 4 #[.val (.ref a0'), .val (.int (8 : Int32))] [(.long (y8.toInt64))])) rfl (hb hby d_method_2_code_4)) ?_
  refine go (fun _ k => by refine XS.land X0.here hx rfl (hb hby d_method_2_code_7) rfl ?_; exact k) ?_
  refine go (fun _ k => by refine XS.bipush X0.here hx rfl (hb hby d_method_2_code_8) ?_; exact k) ?_
  refine go (fun _ k => by refine XS.lshl X0.here hx rfl (hb hby d_method_2_code_10) rfl ?_; exact k) ?_
  show OwnEnd _ _ _ _ _ _ _ (s₁.setTop (mkF m 11 #[.val (.ref a0'), .val (.int (8 : Int32))] [(.long (((y8.toInt64) &&& (255 : Int64)) <<< ((56 : Int32) &&& 0x3f).toInt64))]))
  refine go (fun _ k => by refine XS.aloadN X0.here hx rfl (hb hby d_method_2_code_11) rfl rfl ?_; exact k) ?_
  refine go (fun _ k => by refine XS.iloadN X0.here hx rfl (hb hby d_method_2_code_12) rfl ?_; exact k) ?_
  refine go (fun _ k => by refine XS.iconst X0.here hx rfl (hb hby d_method_2_code_13) ?_; exact k) ?_
  refine go (fun _ k => by refine XS.iadd X0.here hx rfl (hb hby d_method_2_code_14) rfl ?_; exact k) ?_
  show OwnEnd _ _ _ _ _ _ _ (s₁.setTop (mkF m 15 #[.val (.ref a0'), .val (.int (8 : Int32))] [(.int ((8 : Int32) + (1 : Int32))), (.ref a0'), (.long (((y8.toInt64) &&& (255 : Int64)) <<< ((56 : Int32) &&& 0x3f).toInt64))]))
  rw [show ((8 : Int32) + (1 : Int32)) = (9 : Int32) from by decide]
  show OwnEnd _ _ _ _ _ _ _ (s₁.setTop (mkF m 15 #[.val (.ref a0'), .val (.int (8 : Int32))] [(.int (9 : Int32)), (.ref a0'), (.long (((y8.toInt64) &&& (255 : Int64)) <<< ((56 : Int32) &&& 0x3f).toInt64))]))
  refine go (ldBv X0 hx hZ e0 VA (j := (9 : Int32)) (i := 9) (w := y9) (by decide) (by decide) (by decide) rfl (g := (mkF m 15 #[.val (.ref a0'), .val (.int (8 : Int32))] [(.int (9 : Int32)), (.ref a0'), (.long (((y8.toInt64) &&& (255 : Int64)) <<< ((56 : Int32) &&& 0x3f).toInt64))])) rfl rfl (hb hby d_method_2_code_15)) ?_
  refine go (fun _ k => by refine XS.i2l X0.here hx rfl (hb hby d_method_2_code_16) rfl ?_; exact k) ?_
  show OwnEnd _ _ _ _ _ _ _ (s₁.setTop (mkF m 17 #[.val (.ref a0'), .val (.int (8 : Int32))] [(.long (y9.toInt64)), (.long (((y8.toInt64) &&& (255 : Int64)) <<< ((56 : Int32) &&& 0x3f).toInt64))]))
  refine go (X0.ldc2Long hx hown (mvT hZ (hw _ (List.mem_of_getElem? (i := 20) rfl))) (g := (mkF m 17 #[.val (.ref a0'), .val (.int (8 : Int32))] [(.long (y9.toInt64)), (.long (((y8.toInt64) &&& (255 : Int64)) <<< ((56 : Int32) &&& 0x3f).toInt64))])) rfl (hb hby d_method_2_code_17)) ?_
  refine go (fun _ k => by refine XS.land X0.here hx rfl (hb hby d_method_2_code_20) rfl ?_; exact k) ?_
  refine go (fun _ k => by refine XS.bipush X0.here hx rfl (hb hby d_method_2_code_21) ?_; exact k) ?_
  refine go (fun _ k => by refine XS.lshl X0.here hx rfl (hb hby d_method_2_code_23) rfl ?_; exact k) ?_
  show OwnEnd _ _ _ _ _ _ _ (s₁.setTop (mkF m 24 #[.val (.ref a0'), .val (.int (8 : Int32))] [(.long (((y9.toInt64) &&& (255 : Int64)) <<< ((48 : Int32) &&& 0x3f).toInt64)), (.long (((y8.toInt64) &&& (255 : Int64)) <<< ((56 : Int32) &&& 0x3f).toInt64))]))
  refine go (fun _ k => by refine XS.lor X0.here hx rfl (hb hby d_method_2_code_24) rfl ?_; exact k) ?_
  refine go (fun _ k => by refine XS.aloadN X0.here hx rfl (hb hby d_method_2_code_25) rfl rfl ?_; exact k) ?_
  refine go (fun _ k => by refine XS.iloadN X0.here hx rfl (hb hby d_method_2_code_26) rfl ?_; exact k) ?_
  refine go (fun _ k => by refine XS.iconst X0.here hx rfl (hb hby d_method_2_code_27) ?_; exact k) ?_
  show OwnEnd _ _ _ _ _ _ _ (s₁.setTop (mkF m 28 #[.val (.ref a0'), .val (.int (8 : Int32))] [(.int (2 : Int32)), (.int (8 : Int32)), (.ref a0'), (.long ((((y8.toInt64) &&& (255 : Int64)) <<< ((56 : Int32) &&& 0x3f).toInt64) ||| (((y9.toInt64) &&& (255 : Int64)) <<< ((48 : Int32) &&& 0x3f).toInt64)))]))
  refine go (fun _ k => by refine XS.iadd X0.here hx rfl (hb hby d_method_2_code_28) rfl ?_; exact k) ?_
  show OwnEnd _ _ _ _ _ _ _ (s₁.setTop (mkF m 29 #[.val (.ref a0'), .val (.int (8 : Int32))] [(.int ((8 : Int32) + (2 : Int32))), (.ref a0'), (.long ((((y8.toInt64) &&& (255 : Int64)) <<< ((56 : Int32) &&& 0x3f).toInt64) ||| (((y9.toInt64) &&& (255 : Int64)) <<< ((48 : Int32) &&& 0x3f).toInt64)))]))
  rw [show ((8 : Int32) + (2 : Int32)) = (10 : Int32) from by decide]
  show OwnEnd _ _ _ _ _ _ _ (s₁.setTop (mkF m 29 #[.val (.ref a0'), .val (.int (8 : Int32))] [(.int (10 : Int32)), (.ref a0'), (.long ((((y8.toInt64) &&& (255 : Int64)) <<< ((56 : Int32) &&& 0x3f).toInt64) ||| (((y9.toInt64) &&& (255 : Int64)) <<< ((48 : Int32) &&& 0x3f).toInt64)))]))
  refine go (ldBv X0 hx hZ e0 VA (j := (10 : Int32)) (i := 10) (w := y10) (by decide) (by decide) (by decide) rfl (g := (mkF m 29 #[.val (.ref a0'), .val (.int (8 : Int32))] [(.int (10 : Int32)), (.ref a0'), (.long ((((y8.toInt64) &&& (255 : Int64)) <<< ((56 : Int32) &&& 0x3f).toInt64) ||| (((y9.toInt64) &&& (255 : Int64)) <<< ((48 : Int32) &&& 0x3f).toInt64)))])) rfl rfl (hb hby d_method_2_code_29)) ?_
  refine go (fun _ k => by refine XS.i2l X0.here hx rfl (hb hby d_method_2_code_30) rfl ?_; exact k) ?_
  show OwnEnd _ _ _ _ _ _ _ (s₁.setTop (mkF m 31 #[.val (.ref a0'), .val (.int (8 : Int32))] [(.long (y10.toInt64)), (.long ((((y8.toInt64) &&& (255 : Int64)) <<< ((56 : Int32) &&& 0x3f).toInt64) ||| (((y9.toInt64) &&& (255 : Int64)) <<< ((48 : Int32) &&& 0x3f).toInt64)))]))
  refine go (X0.ldc2Long hx hown (mvT hZ (hw _ (List.mem_of_getElem? (i := 20) rfl))) (g := (mkF m 31 #[.val (.ref a0'), .val (.int (8 : Int32))] [(.long (y10.toInt64)), (.long ((((y8.toInt64) &&& (255 : Int64)) <<< ((56 : Int32) &&& 0x3f).toInt64) ||| (((y9.toInt64) &&& (255 : Int64)) <<< ((48 : Int32) &&& 0x3f).toInt64)))])) rfl (hb hby d_method_2_code_31)) ?_
  refine go (fun _ k => by refine XS.land X0.here hx rfl (hb hby d_method_2_code_34) rfl ?_; exact k) ?_
  refine go (fun _ k => by refine XS.bipush X0.here hx rfl (hb hby d_method_2_code_35) ?_; exact k) ?_
  refine go (fun _ k => by refine XS.lshl X0.here hx rfl (hb hby d_method_2_code_37) rfl ?_; exact k) ?_
  show OwnEnd _ _ _ _ _ _ _ (s₁.setTop (mkF m 38 #[.val (.ref a0'), .val (.int (8 : Int32))] [(.long (((y10.toInt64) &&& (255 : Int64)) <<< ((40 : Int32) &&& 0x3f).toInt64)), (.long ((((y8.toInt64) &&& (255 : Int64)) <<< ((56 : Int32) &&& 0x3f).toInt64) ||| (((y9.toInt64) &&& (255 : Int64)) <<< ((48 : Int32) &&& 0x3f).toInt64)))]))
  refine go (fun _ k => by refine XS.lor X0.here hx rfl (hb hby d_method_2_code_38) rfl ?_; exact k) ?_
  refine go (fun _ k => by refine XS.aloadN X0.here hx rfl (hb hby d_method_2_code_39) rfl rfl ?_; exact k) ?_
  refine go (fun _ k => by refine XS.iloadN X0.here hx rfl (hb hby d_method_2_code_40) rfl ?_; exact k) ?_
  refine go (fun _ k => by refine XS.iconst X0.here hx rfl (hb hby d_method_2_code_41) ?_; exact k) ?_
  show OwnEnd _ _ _ _ _ _ _ (s₁.setTop (mkF m 42 #[.val (.ref a0'), .val (.int (8 : Int32))] [(.int (3 : Int32)), (.int (8 : Int32)), (.ref a0'), (.long (((((y8.toInt64) &&& (255 : Int64)) <<< ((56 : Int32) &&& 0x3f).toInt64) ||| (((y9.toInt64) &&& (255 : Int64)) <<< ((48 : Int32) &&& 0x3f).toInt64)) ||| (((y10.toInt64) &&& (255 : Int64)) <<< ((40 : Int32) &&& 0x3f).toInt64)))]))
  refine go (fun _ k => by refine XS.iadd X0.here hx rfl (hb hby d_method_2_code_42) rfl ?_; exact k) ?_
  show OwnEnd _ _ _ _ _ _ _ (s₁.setTop (mkF m 43 #[.val (.ref a0'), .val (.int (8 : Int32))] [(.int ((8 : Int32) + (3 : Int32))), (.ref a0'), (.long (((((y8.toInt64) &&& (255 : Int64)) <<< ((56 : Int32) &&& 0x3f).toInt64) ||| (((y9.toInt64) &&& (255 : Int64)) <<< ((48 : Int32) &&& 0x3f).toInt64)) ||| (((y10.toInt64) &&& (255 : Int64)) <<< ((40 : Int32) &&& 0x3f).toInt64)))]))
  rw [show ((8 : Int32) + (3 : Int32)) = (11 : Int32) from by decide]
  show OwnEnd _ _ _ _ _ _ _ (s₁.setTop (mkF m 43 #[.val (.ref a0'), .val (.int (8 : Int32))] [(.int (11 : Int32)), (.ref a0'), (.long (((((y8.toInt64) &&& (255 : Int64)) <<< ((56 : Int32) &&& 0x3f).toInt64) ||| (((y9.toInt64) &&& (255 : Int64)) <<< ((48 : Int32) &&& 0x3f).toInt64)) ||| (((y10.toInt64) &&& (255 : Int64)) <<< ((40 : Int32) &&& 0x3f).toInt64)))]))
  refine go (ldBv X0 hx hZ e0 VA (j := (11 : Int32)) (i := 11) (w := y11) (by decide) (by decide) (by decide) rfl (g := (mkF m 43 #[.val (.ref a0'), .val (.int (8 : Int32))] [(.int (11 : Int32)), (.ref a0'), (.long (((((y8.toInt64) &&& (255 : Int64)) <<< ((56 : Int32) &&& 0x3f).toInt64) ||| (((y9.toInt64) &&& (255 : Int64)) <<< ((48 : Int32) &&& 0x3f).toInt64)) ||| (((y10.toInt64) &&& (255 : Int64)) <<< ((40 : Int32) &&& 0x3f).toInt64)))])) rfl rfl (hb hby d_method_2_code_43)) ?_
  refine go (fun _ k => by refine XS.i2l X0.here hx rfl (hb hby d_method_2_code_44) rfl ?_; exact k) ?_
  show OwnEnd _ _ _ _ _ _ _ (s₁.setTop (mkF m 45 #[.val (.ref a0'), .val (.int (8 : Int32))] [(.long (y11.toInt64)), (.long (((((y8.toInt64) &&& (255 : Int64)) <<< ((56 : Int32) &&& 0x3f).toInt64) ||| (((y9.toInt64) &&& (255 : Int64)) <<< ((48 : Int32) &&& 0x3f).toInt64)) ||| (((y10.toInt64) &&& (255 : Int64)) <<< ((40 : Int32) &&& 0x3f).toInt64)))]))
  refine go (X0.ldc2Long hx hown (mvT hZ (hw _ (List.mem_of_getElem? (i := 20) rfl))) (g := (mkF m 45 #[.val (.ref a0'), .val (.int (8 : Int32))] [(.long (y11.toInt64)), (.long (((((y8.toInt64) &&& (255 : Int64)) <<< ((56 : Int32) &&& 0x3f).toInt64) ||| (((y9.toInt64) &&& (255 : Int64)) <<< ((48 : Int32) &&& 0x3f).toInt64)) ||| (((y10.toInt64) &&& (255 : Int64)) <<< ((40 : Int32) &&& 0x3f).toInt64)))])) rfl (hb hby d_method_2_code_45)) ?_
  refine go (fun _ k => by refine XS.land X0.here hx rfl (hb hby d_method_2_code_48) rfl ?_; exact k) ?_
  refine go (fun _ k => by refine XS.bipush X0.here hx rfl (hb hby d_method_2_code_49) ?_; exact k) ?_
  refine go (fun _ k => by refine XS.lshl X0.here hx rfl (hb hby d_method_2_code_51) rfl ?_; exact k) ?_
  show OwnEnd _ _ _ _ _ _ _ (s₁.setTop (mkF m 52 #[.val (.ref a0'), .val (.int (8 : Int32))] [(.long (((y11.toInt64) &&& (255 : Int64)) <<< ((32 : Int32) &&& 0x3f).toInt64)), (.long (((((y8.toInt64) &&& (255 : Int64)) <<< ((56 : Int32) &&& 0x3f).toInt64) ||| (((y9.toInt64) &&& (255 : Int64)) <<< ((48 : Int32) &&& 0x3f).toInt64)) ||| (((y10.toInt64) &&& (255 : Int64)) <<< ((40 : Int32) &&& 0x3f).toInt64)))]))
  refine go (fun _ k => by refine XS.lor X0.here hx rfl (hb hby d_method_2_code_52) rfl ?_; exact k) ?_
  refine go (fun _ k => by refine XS.aloadN X0.here hx rfl (hb hby d_method_2_code_53) rfl rfl ?_; exact k) ?_
  refine go (fun _ k => by refine XS.iloadN X0.here hx rfl (hb hby d_method_2_code_54) rfl ?_; exact k) ?_
  refine go (fun _ k => by refine XS.iconst X0.here hx rfl (hb hby d_method_2_code_55) ?_; exact k) ?_
  show OwnEnd _ _ _ _ _ _ _ (s₁.setTop (mkF m 56 #[.val (.ref a0'), .val (.int (8 : Int32))] [(.int (4 : Int32)), (.int (8 : Int32)), (.ref a0'), (.long ((((((y8.toInt64) &&& (255 : Int64)) <<< ((56 : Int32) &&& 0x3f).toInt64) ||| (((y9.toInt64) &&& (255 : Int64)) <<< ((48 : Int32) &&& 0x3f).toInt64)) ||| (((y10.toInt64) &&& (255 : Int64)) <<< ((40 : Int32) &&& 0x3f).toInt64)) ||| (((y11.toInt64) &&& (255 : Int64)) <<< ((32 : Int32) &&& 0x3f).toInt64)))]))
  refine go (fun _ k => by refine XS.iadd X0.here hx rfl (hb hby d_method_2_code_56) rfl ?_; exact k) ?_
  show OwnEnd _ _ _ _ _ _ _ (s₁.setTop (mkF m 57 #[.val (.ref a0'), .val (.int (8 : Int32))] [(.int ((8 : Int32) + (4 : Int32))), (.ref a0'), (.long ((((((y8.toInt64) &&& (255 : Int64)) <<< ((56 : Int32) &&& 0x3f).toInt64) ||| (((y9.toInt64) &&& (255 : Int64)) <<< ((48 : Int32) &&& 0x3f).toInt64)) ||| (((y10.toInt64) &&& (255 : Int64)) <<< ((40 : Int32) &&& 0x3f).toInt64)) ||| (((y11.toInt64) &&& (255 : Int64)) <<< ((32 : Int32) &&& 0x3f).toInt64)))]))
  rw [show ((8 : Int32) + (4 : Int32)) = (12 : Int32) from by decide]
  show OwnEnd _ _ _ _ _ _ _ (s₁.setTop (mkF m 57 #[.val (.ref a0'), .val (.int (8 : Int32))] [(.int (12 : Int32)), (.ref a0'), (.long ((((((y8.toInt64) &&& (255 : Int64)) <<< ((56 : Int32) &&& 0x3f).toInt64) ||| (((y9.toInt64) &&& (255 : Int64)) <<< ((48 : Int32) &&& 0x3f).toInt64)) ||| (((y10.toInt64) &&& (255 : Int64)) <<< ((40 : Int32) &&& 0x3f).toInt64)) ||| (((y11.toInt64) &&& (255 : Int64)) <<< ((32 : Int32) &&& 0x3f).toInt64)))]))
  refine go (ldBv X0 hx hZ e0 VA (j := (12 : Int32)) (i := 12) (w := y12) (by decide) (by decide) (by decide) rfl (g := (mkF m 57 #[.val (.ref a0'), .val (.int (8 : Int32))] [(.int (12 : Int32)), (.ref a0'), (.long ((((((y8.toInt64) &&& (255 : Int64)) <<< ((56 : Int32) &&& 0x3f).toInt64) ||| (((y9.toInt64) &&& (255 : Int64)) <<< ((48 : Int32) &&& 0x3f).toInt64)) ||| (((y10.toInt64) &&& (255 : Int64)) <<< ((40 : Int32) &&& 0x3f).toInt64)) ||| (((y11.toInt64) &&& (255 : Int64)) <<< ((32 : Int32) &&& 0x3f).toInt64)))])) rfl rfl (hb hby d_method_2_code_57)) ?_
  refine go (fun _ k => by refine XS.i2l X0.here hx rfl (hb hby d_method_2_code_58) rfl ?_; exact k) ?_
  show OwnEnd _ _ _ _ _ _ _ (s₁.setTop (mkF m 59 #[.val (.ref a0'), .val (.int (8 : Int32))] [(.long (y12.toInt64)), (.long ((((((y8.toInt64) &&& (255 : Int64)) <<< ((56 : Int32) &&& 0x3f).toInt64) ||| (((y9.toInt64) &&& (255 : Int64)) <<< ((48 : Int32) &&& 0x3f).toInt64)) ||| (((y10.toInt64) &&& (255 : Int64)) <<< ((40 : Int32) &&& 0x3f).toInt64)) ||| (((y11.toInt64) &&& (255 : Int64)) <<< ((32 : Int32) &&& 0x3f).toInt64)))]))
  refine go (X0.ldc2Long hx hown (mvT hZ (hw _ (List.mem_of_getElem? (i := 20) rfl))) (g := (mkF m 59 #[.val (.ref a0'), .val (.int (8 : Int32))] [(.long (y12.toInt64)), (.long ((((((y8.toInt64) &&& (255 : Int64)) <<< ((56 : Int32) &&& 0x3f).toInt64) ||| (((y9.toInt64) &&& (255 : Int64)) <<< ((48 : Int32) &&& 0x3f).toInt64)) ||| (((y10.toInt64) &&& (255 : Int64)) <<< ((40 : Int32) &&& 0x3f).toInt64)) ||| (((y11.toInt64) &&& (255 : Int64)) <<< ((32 : Int32) &&& 0x3f).toInt64)))])) rfl (hb hby d_method_2_code_59)) ?_
  refine go (fun _ k => by refine XS.land X0.here hx rfl (hb hby d_method_2_code_62) rfl ?_; exact k) ?_
  refine go (fun _ k => by refine XS.bipush X0.here hx rfl (hb hby d_method_2_code_63) ?_; exact k) ?_
  refine go (fun _ k => by refine XS.lshl X0.here hx rfl (hb hby d_method_2_code_65) rfl ?_; exact k) ?_
  show OwnEnd _ _ _ _ _ _ _ (s₁.setTop (mkF m 66 #[.val (.ref a0'), .val (.int (8 : Int32))] [(.long (((y12.toInt64) &&& (255 : Int64)) <<< ((24 : Int32) &&& 0x3f).toInt64)), (.long ((((((y8.toInt64) &&& (255 : Int64)) <<< ((56 : Int32) &&& 0x3f).toInt64) ||| (((y9.toInt64) &&& (255 : Int64)) <<< ((48 : Int32) &&& 0x3f).toInt64)) ||| (((y10.toInt64) &&& (255 : Int64)) <<< ((40 : Int32) &&& 0x3f).toInt64)) ||| (((y11.toInt64) &&& (255 : Int64)) <<< ((32 : Int32) &&& 0x3f).toInt64)))]))
  refine go (fun _ k => by refine XS.lor X0.here hx rfl (hb hby d_method_2_code_66) rfl ?_; exact k) ?_
  refine go (fun _ k => by refine XS.aloadN X0.here hx rfl (hb hby d_method_2_code_67) rfl rfl ?_; exact k) ?_
  refine go (fun _ k => by refine XS.iloadN X0.here hx rfl (hb hby d_method_2_code_68) rfl ?_; exact k) ?_
  refine go (fun _ k => by refine XS.iconst X0.here hx rfl (hb hby d_method_2_code_69) ?_; exact k) ?_
  show OwnEnd _ _ _ _ _ _ _ (s₁.setTop (mkF m 70 #[.val (.ref a0'), .val (.int (8 : Int32))] [(.int (5 : Int32)), (.int (8 : Int32)), (.ref a0'), (.long (((((((y8.toInt64) &&& (255 : Int64)) <<< ((56 : Int32) &&& 0x3f).toInt64) ||| (((y9.toInt64) &&& (255 : Int64)) <<< ((48 : Int32) &&& 0x3f).toInt64)) ||| (((y10.toInt64) &&& (255 : Int64)) <<< ((40 : Int32) &&& 0x3f).toInt64)) ||| (((y11.toInt64) &&& (255 : Int64)) <<< ((32 : Int32) &&& 0x3f).toInt64)) ||| (((y12.toInt64) &&& (255 : Int64)) <<< ((24 : Int32) &&& 0x3f).toInt64)))]))
  refine go (fun _ k => by refine XS.iadd X0.here hx rfl (hb hby d_method_2_code_70) rfl ?_; exact k) ?_
  show OwnEnd _ _ _ _ _ _ _ (s₁.setTop (mkF m 71 #[.val (.ref a0'), .val (.int (8 : Int32))] [(.int ((8 : Int32) + (5 : Int32))), (.ref a0'), (.long (((((((y8.toInt64) &&& (255 : Int64)) <<< ((56 : Int32) &&& 0x3f).toInt64) ||| (((y9.toInt64) &&& (255 : Int64)) <<< ((48 : Int32) &&& 0x3f).toInt64)) ||| (((y10.toInt64) &&& (255 : Int64)) <<< ((40 : Int32) &&& 0x3f).toInt64)) ||| (((y11.toInt64) &&& (255 : Int64)) <<< ((32 : Int32) &&& 0x3f).toInt64)) ||| (((y12.toInt64) &&& (255 : Int64)) <<< ((24 : Int32) &&& 0x3f).toInt64)))]))
  rw [show ((8 : Int32) + (5 : Int32)) = (13 : Int32) from by decide]
  show OwnEnd _ _ _ _ _ _ _ (s₁.setTop (mkF m 71 #[.val (.ref a0'), .val (.int (8 : Int32))] [(.int (13 : Int32)), (.ref a0'), (.long (((((((y8.toInt64) &&& (255 : Int64)) <<< ((56 : Int32) &&& 0x3f).toInt64) ||| (((y9.toInt64) &&& (255 : Int64)) <<< ((48 : Int32) &&& 0x3f).toInt64)) ||| (((y10.toInt64) &&& (255 : Int64)) <<< ((40 : Int32) &&& 0x3f).toInt64)) ||| (((y11.toInt64) &&& (255 : Int64)) <<< ((32 : Int32) &&& 0x3f).toInt64)) ||| (((y12.toInt64) &&& (255 : Int64)) <<< ((24 : Int32) &&& 0x3f).toInt64)))]))
  refine go (ldBv X0 hx hZ e0 VA (j := (13 : Int32)) (i := 13) (w := y13) (by decide) (by decide) (by decide) rfl (g := (mkF m 71 #[.val (.ref a0'), .val (.int (8 : Int32))] [(.int (13 : Int32)), (.ref a0'), (.long (((((((y8.toInt64) &&& (255 : Int64)) <<< ((56 : Int32) &&& 0x3f).toInt64) ||| (((y9.toInt64) &&& (255 : Int64)) <<< ((48 : Int32) &&& 0x3f).toInt64)) ||| (((y10.toInt64) &&& (255 : Int64)) <<< ((40 : Int32) &&& 0x3f).toInt64)) ||| (((y11.toInt64) &&& (255 : Int64)) <<< ((32 : Int32) &&& 0x3f).toInt64)) ||| (((y12.toInt64) &&& (255 : Int64)) <<< ((24 : Int32) &&& 0x3f).toInt64)))])) rfl rfl (hb hby d_method_2_code_71)) ?_
  refine go (fun _ k => by refine XS.i2l X0.here hx rfl (hb hby d_method_2_code_72) rfl ?_; exact k) ?_
  show OwnEnd _ _ _ _ _ _ _ (s₁.setTop (mkF m 73 #[.val (.ref a0'), .val (.int (8 : Int32))] [(.long (y13.toInt64)), (.long (((((((y8.toInt64) &&& (255 : Int64)) <<< ((56 : Int32) &&& 0x3f).toInt64) ||| (((y9.toInt64) &&& (255 : Int64)) <<< ((48 : Int32) &&& 0x3f).toInt64)) ||| (((y10.toInt64) &&& (255 : Int64)) <<< ((40 : Int32) &&& 0x3f).toInt64)) ||| (((y11.toInt64) &&& (255 : Int64)) <<< ((32 : Int32) &&& 0x3f).toInt64)) ||| (((y12.toInt64) &&& (255 : Int64)) <<< ((24 : Int32) &&& 0x3f).toInt64)))]))
  refine go (X0.ldc2Long hx hown (mvT hZ (hw _ (List.mem_of_getElem? (i := 20) rfl))) (g := (mkF m 73 #[.val (.ref a0'), .val (.int (8 : Int32))] [(.long (y13.toInt64)), (.long (((((((y8.toInt64) &&& (255 : Int64)) <<< ((56 : Int32) &&& 0x3f).toInt64) ||| (((y9.toInt64) &&& (255 : Int64)) <<< ((48 : Int32) &&& 0x3f).toInt64)) ||| (((y10.toInt64) &&& (255 : Int64)) <<< ((40 : Int32) &&& 0x3f).toInt64)) ||| (((y11.toInt64) &&& (255 : Int64)) <<< ((32 : Int32) &&& 0x3f).toInt64)) ||| (((y12.toInt64) &&& (255 : Int64)) <<< ((24 : Int32) &&& 0x3f).toInt64)))])) rfl (hb hby d_method_2_code_73)) ?_
  refine go (fun _ k => by refine XS.land X0.here hx rfl (hb hby d_method_2_code_76) rfl ?_; exact k) ?_
  refine go (fun _ k => by refine XS.bipush X0.here hx rfl (hb hby d_method_2_code_77) ?_; exact k) ?_
  refine go (fun _ k => by refine XS.lshl X0.here hx rfl (hb hby d_method_2_code_79) rfl ?_; exact k) ?_
  show OwnEnd _ _ _ _ _ _ _ (s₁.setTop (mkF m 80 #[.val (.ref a0'), .val (.int (8 : Int32))] [(.long (((y13.toInt64) &&& (255 : Int64)) <<< ((16 : Int32) &&& 0x3f).toInt64)), (.long (((((((y8.toInt64) &&& (255 : Int64)) <<< ((56 : Int32) &&& 0x3f).toInt64) ||| (((y9.toInt64) &&& (255 : Int64)) <<< ((48 : Int32) &&& 0x3f).toInt64)) ||| (((y10.toInt64) &&& (255 : Int64)) <<< ((40 : Int32) &&& 0x3f).toInt64)) ||| (((y11.toInt64) &&& (255 : Int64)) <<< ((32 : Int32) &&& 0x3f).toInt64)) ||| (((y12.toInt64) &&& (255 : Int64)) <<< ((24 : Int32) &&& 0x3f).toInt64)))]))
  refine go (fun _ k => by refine XS.lor X0.here hx rfl (hb hby d_method_2_code_80) rfl ?_; exact k) ?_
  refine go (fun _ k => by refine XS.aloadN X0.here hx rfl (hb hby d_method_2_code_81) rfl rfl ?_; exact k) ?_
  refine go (fun _ k => by refine XS.iloadN X0.here hx rfl (hb hby d_method_2_code_82) rfl ?_; exact k) ?_
  refine go (fun _ k => by refine XS.bipush X0.here hx rfl (hb hby d_method_2_code_83) ?_; exact k) ?_
  show OwnEnd _ _ _ _ _ _ _ (s₁.setTop (mkF m 85 #[.val (.ref a0'), .val (.int (8 : Int32))] [(.int (6 : Int32)), (.int (8 : Int32)), (.ref a0'), (.long ((((((((y8.toInt64) &&& (255 : Int64)) <<< ((56 : Int32) &&& 0x3f).toInt64) ||| (((y9.toInt64) &&& (255 : Int64)) <<< ((48 : Int32) &&& 0x3f).toInt64)) ||| (((y10.toInt64) &&& (255 : Int64)) <<< ((40 : Int32) &&& 0x3f).toInt64)) ||| (((y11.toInt64) &&& (255 : Int64)) <<< ((32 : Int32) &&& 0x3f).toInt64)) ||| (((y12.toInt64) &&& (255 : Int64)) <<< ((24 : Int32) &&& 0x3f).toInt64)) ||| (((y13.toInt64) &&& (255 : Int64)) <<< ((16 : Int32) &&& 0x3f).toInt64)))]))
  refine go (fun _ k => by refine XS.iadd X0.here hx rfl (hb hby d_method_2_code_85) rfl ?_; exact k) ?_
  show OwnEnd _ _ _ _ _ _ _ (s₁.setTop (mkF m 86 #[.val (.ref a0'), .val (.int (8 : Int32))] [(.int ((8 : Int32) + (6 : Int32))), (.ref a0'), (.long ((((((((y8.toInt64) &&& (255 : Int64)) <<< ((56 : Int32) &&& 0x3f).toInt64) ||| (((y9.toInt64) &&& (255 : Int64)) <<< ((48 : Int32) &&& 0x3f).toInt64)) ||| (((y10.toInt64) &&& (255 : Int64)) <<< ((40 : Int32) &&& 0x3f).toInt64)) ||| (((y11.toInt64) &&& (255 : Int64)) <<< ((32 : Int32) &&& 0x3f).toInt64)) ||| (((y12.toInt64) &&& (255 : Int64)) <<< ((24 : Int32) &&& 0x3f).toInt64)) ||| (((y13.toInt64) &&& (255 : Int64)) <<< ((16 : Int32) &&& 0x3f).toInt64)))]))
  rw [show ((8 : Int32) + (6 : Int32)) = (14 : Int32) from by decide]
  show OwnEnd _ _ _ _ _ _ _ (s₁.setTop (mkF m 86 #[.val (.ref a0'), .val (.int (8 : Int32))] [(.int (14 : Int32)), (.ref a0'), (.long ((((((((y8.toInt64) &&& (255 : Int64)) <<< ((56 : Int32) &&& 0x3f).toInt64) ||| (((y9.toInt64) &&& (255 : Int64)) <<< ((48 : Int32) &&& 0x3f).toInt64)) ||| (((y10.toInt64) &&& (255 : Int64)) <<< ((40 : Int32) &&& 0x3f).toInt64)) ||| (((y11.toInt64) &&& (255 : Int64)) <<< ((32 : Int32) &&& 0x3f).toInt64)) ||| (((y12.toInt64) &&& (255 : Int64)) <<< ((24 : Int32) &&& 0x3f).toInt64)) ||| (((y13.toInt64) &&& (255 : Int64)) <<< ((16 : Int32) &&& 0x3f).toInt64)))]))
  refine go (ldBv X0 hx hZ e0 VA (j := (14 : Int32)) (i := 14) (w := y14) (by decide) (by decide) (by decide) rfl (g := (mkF m 86 #[.val (.ref a0'), .val (.int (8 : Int32))] [(.int (14 : Int32)), (.ref a0'), (.long ((((((((y8.toInt64) &&& (255 : Int64)) <<< ((56 : Int32) &&& 0x3f).toInt64) ||| (((y9.toInt64) &&& (255 : Int64)) <<< ((48 : Int32) &&& 0x3f).toInt64)) ||| (((y10.toInt64) &&& (255 : Int64)) <<< ((40 : Int32) &&& 0x3f).toInt64)) ||| (((y11.toInt64) &&& (255 : Int64)) <<< ((32 : Int32) &&& 0x3f).toInt64)) ||| (((y12.toInt64) &&& (255 : Int64)) <<< ((24 : Int32) &&& 0x3f).toInt64)) ||| (((y13.toInt64) &&& (255 : Int64)) <<< ((16 : Int32) &&& 0x3f).toInt64)))])) rfl rfl (hb hby d_method_2_code_86)) ?_
  refine go (fun _ k => by refine XS.i2l X0.here hx rfl (hb hby d_method_2_code_87) rfl ?_; exact k) ?_
  show OwnEnd _ _ _ _ _ _ _ (s₁.setTop (mkF m 88 #[.val (.ref a0'), .val (.int (8 : Int32))] [(.long (y14.toInt64)), (.long ((((((((y8.toInt64) &&& (255 : Int64)) <<< ((56 : Int32) &&& 0x3f).toInt64) ||| (((y9.toInt64) &&& (255 : Int64)) <<< ((48 : Int32) &&& 0x3f).toInt64)) ||| (((y10.toInt64) &&& (255 : Int64)) <<< ((40 : Int32) &&& 0x3f).toInt64)) ||| (((y11.toInt64) &&& (255 : Int64)) <<< ((32 : Int32) &&& 0x3f).toInt64)) ||| (((y12.toInt64) &&& (255 : Int64)) <<< ((24 : Int32) &&& 0x3f).toInt64)) ||| (((y13.toInt64) &&& (255 : Int64)) <<< ((16 : Int32) &&& 0x3f).toInt64)))]))
  refine go (X0.ldc2Long hx hown (mvT hZ (hw _ (List.mem_of_getElem? (i := 20) rfl))) (g := (mkF m 88 #[.val (.ref a0'), .val (.int (8 : Int32))] [(.long (y14.toInt64)), (.long ((((((((y8.toInt64) &&& (255 : Int64)) <<< ((56 : Int32) &&& 0x3f).toInt64) ||| (((y9.toInt64) &&& (255 : Int64)) <<< ((48 : Int32) &&& 0x3f).toInt64)) ||| (((y10.toInt64) &&& (255 : Int64)) <<< ((40 : Int32) &&& 0x3f).toInt64)) ||| (((y11.toInt64) &&& (255 : Int64)) <<< ((32 : Int32) &&& 0x3f).toInt64)) ||| (((y12.toInt64) &&& (255 : Int64)) <<< ((24 : Int32) &&& 0x3f).toInt64)) ||| (((y13.toInt64) &&& (255 : Int64)) <<< ((16 : Int32) &&& 0x3f).toInt64)))])) rfl (hb hby d_method_2_code_88)) ?_
  refine go (fun _ k => by refine XS.land X0.here hx rfl (hb hby d_method_2_code_91) rfl ?_; exact k) ?_
  refine go (fun _ k => by refine XS.bipush X0.here hx rfl (hb hby d_method_2_code_92) ?_; exact k) ?_
  refine go (fun _ k => by refine XS.lshl X0.here hx rfl (hb hby d_method_2_code_94) rfl ?_; exact k) ?_
  show OwnEnd _ _ _ _ _ _ _ (s₁.setTop (mkF m 95 #[.val (.ref a0'), .val (.int (8 : Int32))] [(.long (((y14.toInt64) &&& (255 : Int64)) <<< ((8 : Int32) &&& 0x3f).toInt64)), (.long ((((((((y8.toInt64) &&& (255 : Int64)) <<< ((56 : Int32) &&& 0x3f).toInt64) ||| (((y9.toInt64) &&& (255 : Int64)) <<< ((48 : Int32) &&& 0x3f).toInt64)) ||| (((y10.toInt64) &&& (255 : Int64)) <<< ((40 : Int32) &&& 0x3f).toInt64)) ||| (((y11.toInt64) &&& (255 : Int64)) <<< ((32 : Int32) &&& 0x3f).toInt64)) ||| (((y12.toInt64) &&& (255 : Int64)) <<< ((24 : Int32) &&& 0x3f).toInt64)) ||| (((y13.toInt64) &&& (255 : Int64)) <<< ((16 : Int32) &&& 0x3f).toInt64)))]))
  refine go (fun _ k => by refine XS.lor X0.here hx rfl (hb hby d_method_2_code_95) rfl ?_; exact k) ?_
  refine go (fun _ k => by refine XS.aloadN X0.here hx rfl (hb hby d_method_2_code_96) rfl rfl ?_; exact k) ?_
  refine go (fun _ k => by refine XS.iloadN X0.here hx rfl (hb hby d_method_2_code_97) rfl ?_; exact k) ?_
  refine go (fun _ k => by refine XS.bipush X0.here hx rfl (hb hby d_method_2_code_98) ?_; exact k) ?_
  show OwnEnd _ _ _ _ _ _ _ (s₁.setTop (mkF m 100 #[.val (.ref a0'), .val (.int (8 : Int32))] [(.int (7 : Int32)), (.int (8 : Int32)), (.ref a0'), (.long (((((((((y8.toInt64) &&& (255 : Int64)) <<< ((56 : Int32) &&& 0x3f).toInt64) ||| (((y9.toInt64) &&& (255 : Int64)) <<< ((48 : Int32) &&& 0x3f).toInt64)) ||| (((y10.toInt64) &&& (255 : Int64)) <<< ((40 : Int32) &&& 0x3f).toInt64)) ||| (((y11.toInt64) &&& (255 : Int64)) <<< ((32 : Int32) &&& 0x3f).toInt64)) ||| (((y12.toInt64) &&& (255 : Int64)) <<< ((24 : Int32) &&& 0x3f).toInt64)) ||| (((y13.toInt64) &&& (255 : Int64)) <<< ((16 : Int32) &&& 0x3f).toInt64)) ||| (((y14.toInt64) &&& (255 : Int64)) <<< ((8 : Int32) &&& 0x3f).toInt64)))]))
  refine go (fun _ k => by refine XS.iadd X0.here hx rfl (hb hby d_method_2_code_100) rfl ?_; exact k) ?_
  show OwnEnd _ _ _ _ _ _ _ (s₁.setTop (mkF m 101 #[.val (.ref a0'), .val (.int (8 : Int32))] [(.int ((8 : Int32) + (7 : Int32))), (.ref a0'), (.long (((((((((y8.toInt64) &&& (255 : Int64)) <<< ((56 : Int32) &&& 0x3f).toInt64) ||| (((y9.toInt64) &&& (255 : Int64)) <<< ((48 : Int32) &&& 0x3f).toInt64)) ||| (((y10.toInt64) &&& (255 : Int64)) <<< ((40 : Int32) &&& 0x3f).toInt64)) ||| (((y11.toInt64) &&& (255 : Int64)) <<< ((32 : Int32) &&& 0x3f).toInt64)) ||| (((y12.toInt64) &&& (255 : Int64)) <<< ((24 : Int32) &&& 0x3f).toInt64)) ||| (((y13.toInt64) &&& (255 : Int64)) <<< ((16 : Int32) &&& 0x3f).toInt64)) ||| (((y14.toInt64) &&& (255 : Int64)) <<< ((8 : Int32) &&& 0x3f).toInt64)))]))
  rw [show ((8 : Int32) + (7 : Int32)) = (15 : Int32) from by decide]
  show OwnEnd _ _ _ _ _ _ _ (s₁.setTop (mkF m 101 #[.val (.ref a0'), .val (.int (8 : Int32))] [(.int (15 : Int32)), (.ref a0'), (.long (((((((((y8.toInt64) &&& (255 : Int64)) <<< ((56 : Int32) &&& 0x3f).toInt64) ||| (((y9.toInt64) &&& (255 : Int64)) <<< ((48 : Int32) &&& 0x3f).toInt64)) ||| (((y10.toInt64) &&& (255 : Int64)) <<< ((40 : Int32) &&& 0x3f).toInt64)) ||| (((y11.toInt64) &&& (255 : Int64)) <<< ((32 : Int32) &&& 0x3f).toInt64)) ||| (((y12.toInt64) &&& (255 : Int64)) <<< ((24 : Int32) &&& 0x3f).toInt64)) ||| (((y13.toInt64) &&& (255 : Int64)) <<< ((16 : Int32) &&& 0x3f).toInt64)) ||| (((y14.toInt64) &&& (255 : Int64)) <<< ((8 : Int32) &&& 0x3f).toInt64)))]))
  refine go (ldBv X0 hx hZ e0 VA (j := (15 : Int32)) (i := 15) (w := y15) (by decide) (by decide) (by decide) rfl (g := (mkF m 101 #[.val (.ref a0'), .val (.int (8 : Int32))] [(.int (15 : Int32)), (.ref a0'), (.long (((((((((y8.toInt64) &&& (255 : Int64)) <<< ((56 : Int32) &&& 0x3f).toInt64) ||| (((y9.toInt64) &&& (255 : Int64)) <<< ((48 : Int32) &&& 0x3f).toInt64)) ||| (((y10.toInt64) &&& (255 : Int64)) <<< ((40 : Int32) &&& 0x3f).toInt64)) ||| (((y11.toInt64) &&& (255 : Int64)) <<< ((32 : Int32) &&& 0x3f).toInt64)) ||| (((y12.toInt64) &&& (255 : Int64)) <<< ((24 : Int32) &&& 0x3f).toInt64)) ||| (((y13.toInt64) &&& (255 : Int64)) <<< ((16 : Int32) &&& 0x3f).toInt64)) ||| (((y14.toInt64) &&& (255 : Int64)) <<< ((8 : Int32) &&& 0x3f).toInt64)))])) rfl rfl (hb hby d_method_2_code_101)) ?_
  refine go (fun _ k => by refine XS.i2l X0.here hx rfl (hb hby d_method_2_code_102) rfl ?_; exact k) ?_
  show OwnEnd _ _ _ _ _ _ _ (s₁.setTop (mkF m 103 #[.val (.ref a0'), .val (.int (8 : Int32))] [(.long (y15.toInt64)), (.long (((((((((y8.toInt64) &&& (255 : Int64)) <<< ((56 : Int32) &&& 0x3f).toInt64) ||| (((y9.toInt64) &&& (255 : Int64)) <<< ((48 : Int32) &&& 0x3f).toInt64)) ||| (((y10.toInt64) &&& (255 : Int64)) <<< ((40 : Int32) &&& 0x3f).toInt64)) ||| (((y11.toInt64) &&& (255 : Int64)) <<< ((32 : Int32) &&& 0x3f).toInt64)) ||| (((y12.toInt64) &&& (255 : Int64)) <<< ((24 : Int32) &&& 0x3f).toInt64)) ||| (((y13.toInt64) &&& (255 : Int64)) <<< ((16 : Int32) &&& 0x3f).toInt64)) ||| (((y14.toInt64) &&& (255 : Int64)) <<< ((8 : Int32) &&& 0x3f).toInt64)))]))
  refine go (X0.ldc2Long hx hown (mvT hZ (hw _ (List.mem_of_getElem? (i := 20) rfl))) (g := (mkF m 103 #[.val (.ref a0'), .val (.int (8 : Int32))] [(.long (y15.toInt64)), (.long (((((((((y8.toInt64) &&& (255 : Int64)) <<< ((56 : Int32) &&& 0x3f).toInt64) ||| (((y9.toInt64) &&& (255 : Int64)) <<< ((48 : Int32) &&& 0x3f).toInt64)) ||| (((y10.toInt64) &&& (255 : Int64)) <<< ((40 : Int32) &&& 0x3f).toInt64)) ||| (((y11.toInt64) &&& (255 : Int64)) <<< ((32 : Int32) &&& 0x3f).toInt64)) ||| (((y12.toInt64) &&& (255 : Int64)) <<< ((24 : Int32) &&& 0x3f).toInt64)) ||| (((y13.toInt64) &&& (255 : Int64)) <<< ((16 : Int32) &&& 0x3f).toInt64)) ||| (((y14.toInt64) &&& (255 : Int64)) <<< ((8 : Int32) &&& 0x3f).toInt64)))])) rfl (hb hby d_method_2_code_103)) ?_
  refine go (fun _ k => by refine XS.land X0.here hx rfl (hb hby d_method_2_code_106) rfl ?_; exact k) ?_
  refine go (fun _ k => by refine XS.lor X0.here hx rfl (hb hby d_method_2_code_107) rfl ?_; exact k) ?_
  show OwnEnd _ _ _ _ _ _ _ (s₁.setTop (mkF m 108 #[.val (.ref a0'), .val (.int (8 : Int32))] [(.long ((((((((((y8.toInt64) &&& (255 : Int64)) <<< ((56 : Int32) &&& 0x3f).toInt64) ||| (((y9.toInt64) &&& (255 : Int64)) <<< ((48 : Int32) &&& 0x3f).toInt64)) ||| (((y10.toInt64) &&& (255 : Int64)) <<< ((40 : Int32) &&& 0x3f).toInt64)) ||| (((y11.toInt64) &&& (255 : Int64)) <<< ((32 : Int32) &&& 0x3f).toInt64)) ||| (((y12.toInt64) &&& (255 : Int64)) <<< ((24 : Int32) &&& 0x3f).toInt64)) ||| (((y13.toInt64) &&& (255 : Int64)) <<< ((16 : Int32) &&& 0x3f).toInt64)) ||| (((y14.toInt64) &&& (255 : Int64)) <<< ((8 : Int32) &&& 0x3f).toInt64)) ||| ((y15.toInt64) &&& (255 : Int64))))]))
  refine endJ X0 hx hlk Bd.returns (hb hby d_method_2_code_108) e0 (by decide) (by decide) ?_
  exact ⟨rfl, N0, rfl⟩
theorem d_method_4_code_0 : decode method_4_code 0 = .ok (.aload_n 0, 1) := by decide +kernel
theorem d_method_4_code_1 : decode method_4_code 1 = .ok (.iconst 0, 1) := by decide +kernel
theorem d_method_4_code_2 : decode method_4_code 2 = .ok (.baload, 1) := by decide +kernel
theorem d_method_4_code_3 : decode method_4_code 3 = .ok (.sipush 255, 3) := by decide +kernel
theorem d_method_4_code_6 : decode method_4_code 6 = .ok (.iand, 1) := by decide +kernel
theorem d_method_4_code_7 : decode method_4_code 7 = .ok (.bipush 24, 2) := by decide +kernel
theorem d_method_4_code_9 : decode method_4_code 9 = .ok (.ishl, 1) := by decide +kernel
theorem d_method_4_code_10 : decode method_4_code 10 = .ok (.aload_n 0, 1) := by decide +kernel
theorem d_method_4_code_11 : decode method_4_code 11 = .ok (.iconst 1, 1) := by decide +kernel
theorem d_method_4_code_12 : decode method_4_code 12 = .ok (.baload, 1) := by decide +kernel
theorem d_method_4_code_13 : decode method_4_code 13 = .ok (.sipush 255, 3) := by decide +kernel
theorem d_method_4_code_16 : decode method_4_code 16 = .ok (.iand, 1) := by decide +kernel
theorem d_method_4_code_17 : decode method_4_code 17 = .ok (.bipush 16, 2) := by decide +kernel
theorem d_method_4_code_19 : decode method_4_code 19 = .ok (.ishl, 1) := by decide +kernel
theorem d_method_4_code_20 : decode method_4_code 20 = .ok (.ior, 1) := by decide +kernel
theorem d_method_4_code_21 : decode method_4_code 21 = .ok (.aload_n 0, 1) := by decide +kernel
theorem d_method_4_code_22 : decode method_4_code 22 = .ok (.iconst 2, 1) := by decide +kernel
theorem d_method_4_code_23 : decode method_4_code 23 = .ok (.baload, 1) := by decide +kernel
theorem d_method_4_code_24 : decode method_4_code 24 = .ok (.sipush 255, 3) := by decide +kernel
theorem d_method_4_code_27 : decode method_4_code 27 = .ok (.iand, 1) := by decide +kernel
theorem d_method_4_code_28 : decode method_4_code 28 = .ok (.bipush 8, 2) := by decide +kernel
theorem d_method_4_code_30 : decode method_4_code 30 = .ok (.ishl, 1) := by decide +kernel
theorem d_method_4_code_31 : decode method_4_code 31 = .ok (.ior, 1) := by decide +kernel
theorem d_method_4_code_32 : decode method_4_code 32 = .ok (.aload_n 0, 1) := by decide +kernel
theorem d_method_4_code_33 : decode method_4_code 33 = .ok (.iconst 3, 1) := by decide +kernel
theorem d_method_4_code_34 : decode method_4_code 34 = .ok (.baload, 1) := by decide +kernel
theorem d_method_4_code_35 : decode method_4_code 35 = .ok (.sipush 255, 3) := by decide +kernel
theorem d_method_4_code_38 : decode method_4_code 38 = .ok (.iand, 1) := by decide +kernel
theorem d_method_4_code_39 : decode method_4_code 39 = .ok (.ior, 1) := by decide +kernel
theorem d_method_4_code_40 : decode method_4_code 40 = .ok (.ireturn, 1) := by decide +kernel
theorem ef_rm_pk4 (m : MethodId) (y0 : Addr) : entryFrame m #[(.ref y0)] 1 = mkF m 0 #[.val (.ref y0)] [] := by first | (simp [entryFrame, mkF, argsToLocals, Value.category]; done) | rfl
def Q_rm_pk4 (Z : State) (a0' : Addr) (k : ClassId) (y0 : Int32) (y1 : Int32) (y2 : Int32) (y3 : Int32) (h0 : Heap) (n0 : Nat) (v : Option Value) (h : Heap) (L : List Loc) : Prop := v = some (.int (own_p4 y0 y1 y2 y3)) ∧ Fr n0 L ∧ h = h0
set_option maxRecDepth 65536 in
set_option maxHeartbeats 40000000 in
theorem rm_pk4 (l : Launch) (Z : State) (a0 : Array Value) (hw : ∀ d ∈ tables_1, d.before a0 Z = true) (ws : List Jvm.Cond) (a0' : Addr) (k : ClassId) (y0 : Int32) (y1 : Int32) (y2 : Int32) (y3 : Int32) (h0 : Heap) (n0 : Nat) (VA : Arv Z h0 a0' k .byte 4 [(.int y0), (.int y1), (.int y2), (.int y3)] (.int 0)) :
    MetFree l (⟨"com/example/sliding_gate/slidinggate/IpAddressesNetworkPinLaw", "pack4", "([B)I"⟩ : MethodName) (head1 (Jvm.Cond.code (⟨"com/example/sliding_gate/slidinggate/IpAddressesNetworkPinLaw", "pack4", "([B)I"⟩ : MethodName) method_4_code 1 (some .int) :: ws) ({ frames := 0, cells := 0, slots := 0, locals := 0 } : Room)) (fun a U => a = #[(.ref a0')] ∧ Z.Warmed39 U.vm ∧ U.heap = h0) (fun _ _ _ _ _ => True) (fun _ U o U' => ∃ v L, o = .returned v ∧ Q_rm_pk4 Z a0' k y0 y1 y2 y3 h0 n0 v U'.heap L ∧ FrameEnd U o U' L 0 0) := by
  refine MetFree.of_bodySF (plainFor_of_name pn_com_example_sliding_gate_slidinggate_IpAddressesNetworkPinLaw) hisR ?_
  intro p e s m args below meth c s₁ Bd hml0 hP hK
  obtain ⟨rfl, hZ, hh⟩ := hP
  have hx := Bd.exec
  have hby := Bd.bytes
  have hlk := Bd.notSynchronized
  have hml : c.maxLocals = 1 := hml0
  have hown : s.vm.findClass "com/example/sliding_gate/slidinggate/IpAddressesNetworkPinLaw" = some m.cls := findClass_of_methodNamed Bd.named
  have hnm := (name_of_methodNamed Bd.named Bd.method).1
  have X0 : Stand p l e ({ frames := 0, cells := 0, slots := 0, locals := 0 } : Room) s m #[(.ref a0')] below meth c s₁ [] 0 0 := Stand.of_body Bd
  have e0 : s₁.heap = h0 := by rw [← hh, Bd.state]; rfl
  have N0 := Fr.nil n0
  show OwnEnd p e below s (Q_rm_pk4 Z a0' k y0 y1 y2 y3 h0 n0) 0 0 (s₁.setTop (entryFrame m #[(.ref a0')] 1))
  refine go (fun t k => castTop (ef_rm_pk4 m a0') k) ?_
  show OwnEnd _ _ _ _ _ _ _ (s₁.setTop (mkF m 0 #[.val (.ref a0')] []))
  refine go (fun _ k => by refine XS.aloadN X0.here hx rfl (hb hby d_method_4_code_0) rfl rfl ?_; exact k) ?_
  refine go (fun _ k => by refine XS.iconst X0.here hx rfl (hb hby d_method_4_code_1) ?_; exact k) ?_
  show OwnEnd _ _ _ _ _ _ _ (s₁.setTop (mkF m 2 #[.val (.ref a0')] [(.int (0 : Int32)), (.ref a0')]))
  refine go (ldBv X0 hx hZ e0 VA (j := (0 : Int32)) (i := 0) (w := y0) (by decide) (by decide) (by decide) rfl (g := (mkF m 2 #[.val (.ref a0')] [(.int (0 : Int32)), (.ref a0')])) rfl rfl (hb hby d_method_4_code_2)) ?_
  refine go (fun _ k => by refine XS.sipush X0.here hx rfl (hb hby d_method_4_code_3) ?_; exact k) ?_
  refine go (fun _ k => by refine XS.iand X0.here hx rfl (hb hby d_method_4_code_6) rfl ?_; exact k) ?_
  refine go (fun _ k => by refine XS.bipush X0.here hx rfl (hb hby d_method_4_code_7) ?_; exact k) ?_
  show OwnEnd _ _ _ _ _ _ _ (s₁.setTop (mkF m 9 #[.val (.ref a0')] [(.int (24 : Int32)), (.int (y0 &&& (255 : Int32)))]))
  refine go (fun _ k => by refine XS.ishl X0.here hx rfl (hb hby d_method_4_code_9) rfl ?_; exact k) ?_
  refine go (fun _ k => by refine XS.aloadN X0.here hx rfl (hb hby d_method_4_code_10) rfl rfl ?_; exact k) ?_
  refine go (fun _ k => by refine XS.iconst X0.here hx rfl (hb hby d_method_4_code_11) ?_; exact k) ?_
  show OwnEnd _ _ _ _ _ _ _ (s₁.setTop (mkF m 12 #[.val (.ref a0')] [(.int (1 : Int32)), (.ref a0'), (.int ((y0 &&& (255 : Int32)) <<< ((24 : Int32) &&& 31)))]))
  refine go (ldBv X0 hx hZ e0 VA (j := (1 : Int32)) (i := 1) (w := y1) (by decide) (by decide) (by decide) rfl (g := (mkF m 12 #[.val (.ref a0')] [(.int (1 : Int32)), (.ref a0'), (.int ((y0 &&& (255 : Int32)) <<< ((24 : Int32) &&& 31)))])) rfl rfl (hb hby d_method_4_code_12)) ?_
  refine go (fun _ k => by refine XS.sipush X0.here hx rfl (hb hby d_method_4_code_13) ?_; exact k) ?_
  refine go (fun _ k => by refine XS.iand X0.here hx rfl (hb hby d_method_4_code_16) rfl ?_; exact k) ?_
  refine go (fun _ k => by refine XS.bipush X0.here hx rfl (hb hby d_method_4_code_17) ?_; exact k) ?_
  show OwnEnd _ _ _ _ _ _ _ (s₁.setTop (mkF m 19 #[.val (.ref a0')] [(.int (16 : Int32)), (.int (y1 &&& (255 : Int32))), (.int ((y0 &&& (255 : Int32)) <<< ((24 : Int32) &&& 31)))]))
  refine go (fun _ k => by refine XS.ishl X0.here hx rfl (hb hby d_method_4_code_19) rfl ?_; exact k) ?_
  refine go (fun _ k => by refine XS.ior X0.here hx rfl (hb hby d_method_4_code_20) rfl ?_; exact k) ?_
  refine go (fun _ k => by refine XS.aloadN X0.here hx rfl (hb hby d_method_4_code_21) rfl rfl ?_; exact k) ?_
  refine go (fun _ k => by refine XS.iconst X0.here hx rfl (hb hby d_method_4_code_22) ?_; exact k) ?_
  show OwnEnd _ _ _ _ _ _ _ (s₁.setTop (mkF m 23 #[.val (.ref a0')] [(.int (2 : Int32)), (.ref a0'), (.int (((y0 &&& (255 : Int32)) <<< ((24 : Int32) &&& 31)) ||| ((y1 &&& (255 : Int32)) <<< ((16 : Int32) &&& 31))))]))
  refine go (ldBv X0 hx hZ e0 VA (j := (2 : Int32)) (i := 2) (w := y2) (by decide) (by decide) (by decide) rfl (g := (mkF m 23 #[.val (.ref a0')] [(.int (2 : Int32)), (.ref a0'), (.int (((y0 &&& (255 : Int32)) <<< ((24 : Int32) &&& 31)) ||| ((y1 &&& (255 : Int32)) <<< ((16 : Int32) &&& 31))))])) rfl rfl (hb hby d_method_4_code_23)) ?_
  refine go (fun _ k => by refine XS.sipush X0.here hx rfl (hb hby d_method_4_code_24) ?_; exact k) ?_
  refine go (fun _ k => by refine XS.iand X0.here hx rfl (hb hby d_method_4_code_27) rfl ?_; exact k) ?_
  refine go (fun _ k => by refine XS.bipush X0.here hx rfl (hb hby d_method_4_code_28) ?_; exact k) ?_
  show OwnEnd _ _ _ _ _ _ _ (s₁.setTop (mkF m 30 #[.val (.ref a0')] [(.int (8 : Int32)), (.int (y2 &&& (255 : Int32))), (.int (((y0 &&& (255 : Int32)) <<< ((24 : Int32) &&& 31)) ||| ((y1 &&& (255 : Int32)) <<< ((16 : Int32) &&& 31))))]))
  refine go (fun _ k => by refine XS.ishl X0.here hx rfl (hb hby d_method_4_code_30) rfl ?_; exact k) ?_
  refine go (fun _ k => by refine XS.ior X0.here hx rfl (hb hby d_method_4_code_31) rfl ?_; exact k) ?_
  refine go (fun _ k => by refine XS.aloadN X0.here hx rfl (hb hby d_method_4_code_32) rfl rfl ?_; exact k) ?_
  refine go (fun _ k => by refine XS.iconst X0.here hx rfl (hb hby d_method_4_code_33) ?_; exact k) ?_
  show OwnEnd _ _ _ _ _ _ _ (s₁.setTop (mkF m 34 #[.val (.ref a0')] [(.int (3 : Int32)), (.ref a0'), (.int ((((y0 &&& (255 : Int32)) <<< ((24 : Int32) &&& 31)) ||| ((y1 &&& (255 : Int32)) <<< ((16 : Int32) &&& 31))) ||| ((y2 &&& (255 : Int32)) <<< ((8 : Int32) &&& 31))))]))
  refine go (ldBv X0 hx hZ e0 VA (j := (3 : Int32)) (i := 3) (w := y3) (by decide) (by decide) (by decide) rfl (g := (mkF m 34 #[.val (.ref a0')] [(.int (3 : Int32)), (.ref a0'), (.int ((((y0 &&& (255 : Int32)) <<< ((24 : Int32) &&& 31)) ||| ((y1 &&& (255 : Int32)) <<< ((16 : Int32) &&& 31))) ||| ((y2 &&& (255 : Int32)) <<< ((8 : Int32) &&& 31))))])) rfl rfl (hb hby d_method_4_code_34)) ?_
  refine go (fun _ k => by refine XS.sipush X0.here hx rfl (hb hby d_method_4_code_35) ?_; exact k) ?_
  refine go (fun _ k => by refine XS.iand X0.here hx rfl (hb hby d_method_4_code_38) rfl ?_; exact k) ?_
  refine go (fun _ k => by refine XS.ior X0.here hx rfl (hb hby d_method_4_code_39) rfl ?_; exact k) ?_
  show OwnEnd _ _ _ _ _ _ _ (s₁.setTop (mkF m 40 #[.val (.ref a0')] [(.int (((((y0 &&& (255 : Int32)) <<< ((24 : Int32) &&& 31)) ||| ((y1 &&& (255 : Int32)) <<< ((16 : Int32) &&& 31))) ||| ((y2 &&& (255 : Int32)) <<< ((8 : Int32) &&& 31))) ||| (y3 &&& (255 : Int32))))]))
  refine endI X0 hx hlk Bd.returns (hb hby d_method_4_code_40) e0 (by decide) (by decide) ?_
  exact ⟨rfl, N0, rfl⟩
theorem d_prog_6_method_4_code_0 : decode prog_6_method_4_code 0 = .ok (.aload_n 0, 1) := by decide +kernel
theorem d_prog_6_method_4_code_1 : decode prog_6_method_4_code 1 = .ok (.arraylength, 1) := by decide +kernel
theorem d_prog_6_method_4_code_2 : decode prog_6_method_4_code 2 = .ok (.newarray .byte, 2) := by decide +kernel
theorem d_prog_6_method_4_code_4 : decode prog_6_method_4_code 4 = .ok (.astore_n 2, 1) := by decide +kernel
theorem d_prog_6_method_4_code_5 : decode prog_6_method_4_code 5 = .ok (.iconst 0, 1) := by decide +kernel
theorem d_prog_6_method_4_code_6 : decode prog_6_method_4_code 6 = .ok (.istore_n 3, 1) := by decide +kernel
theorem d_prog_6_method_4_code_7 : decode prog_6_method_4_code 7 = .ok (.iload_n 3, 1) := by decide +kernel
theorem d_prog_6_method_4_code_8 : decode prog_6_method_4_code 8 = .ok (.aload_n 0, 1) := by decide +kernel
theorem d_prog_6_method_4_code_9 : decode prog_6_method_4_code 9 = .ok (.arraylength, 1) := by decide +kernel
theorem d_prog_6_method_4_code_10 : decode prog_6_method_4_code 10 = .ok (.if_icmp .ge 43, 3) := by decide +kernel
theorem d_prog_6_method_4_code_13 : decode prog_6_method_4_code 13 = .ok (.iconst 0, 1) := by decide +kernel
theorem d_prog_6_method_4_code_14 : decode prog_6_method_4_code 14 = .ok (.bipush 8, 2) := by decide +kernel
theorem d_prog_6_method_4_code_16 : decode prog_6_method_4_code 16 = .ok (.iload_n 1, 1) := by decide +kernel
theorem d_prog_6_method_4_code_17 : decode prog_6_method_4_code 17 = .ok (.bipush 8, 2) := by decide +kernel
theorem d_prog_6_method_4_code_19 : decode prog_6_method_4_code 19 = .ok (.iload_n 3, 1) := by decide +kernel
theorem d_prog_6_method_4_code_20 : decode prog_6_method_4_code 20 = .ok (.imul, 1) := by decide +kernel
theorem d_prog_6_method_4_code_21 : decode prog_6_method_4_code 21 = .ok (.isub, 1) := by decide +kernel
theorem d_prog_6_method_4_code_22 : decode prog_6_method_4_code 22 = .ok (.invokestatic 33, 3) := by decide +kernel
theorem pd__II_I : parseMethodDescriptor "(II)I" = some ⟨[.int, .int], some .int⟩ := by decide +kernel
theorem d_prog_6_method_4_code_25 : decode prog_6_method_4_code 25 = .ok (.invokestatic 39, 3) := by decide +kernel
theorem d_prog_6_method_4_code_28 : decode prog_6_method_4_code 28 = .ok (.istore 4, 2) := by decide +kernel
theorem d_prog_6_method_4_code_30 : decode prog_6_method_4_code 30 = .ok (.aload_n 2, 1) := by decide +kernel
theorem d_prog_6_method_4_code_31 : decode prog_6_method_4_code 31 = .ok (.iload_n 3, 1) := by decide +kernel
theorem d_prog_6_method_4_code_32 : decode prog_6_method_4_code 32 = .ok (.aload_n 0, 1) := by decide +kernel
theorem d_prog_6_method_4_code_33 : decode prog_6_method_4_code 33 = .ok (.iload_n 3, 1) := by decide +kernel
theorem d_prog_6_method_4_code_34 : decode prog_6_method_4_code 34 = .ok (.baload, 1) := by decide +kernel
theorem d_prog_6_method_4_code_35 : decode prog_6_method_4_code 35 = .ok (.sipush 255, 3) := by decide +kernel
theorem d_prog_6_method_4_code_38 : decode prog_6_method_4_code 38 = .ok (.bipush 8, 2) := by decide +kernel
theorem d_prog_6_method_4_code_40 : decode prog_6_method_4_code 40 = .ok (.iload 4, 2) := by decide +kernel
theorem d_prog_6_method_4_code_42 : decode prog_6_method_4_code 42 = .ok (.isub, 1) := by decide +kernel
theorem d_prog_6_method_4_code_43 : decode prog_6_method_4_code 43 = .ok (.ishl, 1) := by decide +kernel
theorem d_prog_6_method_4_code_44 : decode prog_6_method_4_code 44 = .ok (.iand, 1) := by decide +kernel
theorem d_prog_6_method_4_code_45 : decode prog_6_method_4_code 45 = .ok (.i2b, 1) := by decide +kernel
theorem d_prog_6_method_4_code_46 : decode prog_6_method_4_code 46 = .ok (.bastore, 1) := by decide +kernel
theorem d_prog_6_method_4_code_47 : decode prog_6_method_4_code 47 = .ok (.iinc 3 1, 3) := by decide +kernel
theorem d_prog_6_method_4_code_50 : decode prog_6_method_4_code 50 = .ok (.goto (-43), 3) := by decide +kernel
theorem d_prog_6_method_4_code_53 : decode prog_6_method_4_code 53 = .ok (.aload_n 2, 1) := by decide +kernel
theorem d_prog_6_method_4_code_54 : decode prog_6_method_4_code 54 = .ok (.areturn, 1) := by decide +kernel
theorem pn_com_example_sliding_gate_slidinggate_IpAddresses : plainName "com/example/sliding_gate/slidinggate/IpAddresses" = true := by first | (simp [plainName, overriddenIn]; done) | decide +kernel
theorem ef_rm_net4 (m : MethodId) (y0 : Addr) (y1 : Int32) : entryFrame m #[(.ref y0), (.int y1)] 5 = mkF m 0 #[.val (.ref y0), .val (.int y1), .unset, .unset, .unset] [] := by first | (simp [entryFrame, mkF, argsToLocals, Value.category]; done) | rfl
def Q_rm_net4 (Z : State) (a0' : Addr) (p1 : Int32) (k : ClassId) (y0 : Int32) (y1 : Int32) (y2 : Int32) (y3 : Int32) (h0 : Heap) (n0 : Nat) (v : Option Value) (h : Heap) (L : List Loc) : Prop := ∃ b k', v = some (.ref b) ∧ Fr n0 L ∧ Keep h0 h [] ∧ h0.size ≤ b ∧ n0 ≤ b ∧ Arv Z h b k' .byte 4 [(.int (own_nb y0 p1 0)), (.int (own_nb y1 p1 8)), (.int (own_nb y2 p1 16)), (.int (own_nb y3 p1 24))] (.int 0)
set_option maxRecDepth 65536 in
set_option maxHeartbeats 40000000 in
theorem rm_net4 (l : Launch) (Z : State) (a0 : Array Value) (hw : ∀ d ∈ tables_1, d.before a0 Z = true) (ws : List Jvm.Cond) (a0' : Addr) (p1 : Int32) (k : ClassId) (y0 : Int32) (y1 : Int32) (y2 : Int32) (y3 : Int32) (h0 : Heap) (n0 : Nat) (Z0 : n0 ≤ h0.size) (VA : Arv Z h0 a0' k .byte 4 [(.int y0), (.int y1), (.int y2), (.int y3)] (.int 0)) :
    MetFree l (⟨"com/example/sliding_gate/slidinggate/IpAddresses", "network", "([BI)[B"⟩ : MethodName) (head1 (Jvm.Cond.code (⟨"com/example/sliding_gate/slidinggate/IpAddresses", "network", "([BI)[B"⟩ : MethodName) prog_6_method_4_code 5 (some (.array .byte)) :: ws) ({ frames := 1, cells := 1, slots := 4, locals := 14 } : Room)) (fun a U => a = #[(.ref a0'), (.int p1)] ∧ Z.Warmed39 U.vm ∧ U.heap = h0) (fun _ _ _ _ _ => True) (fun _ U o U' => ∃ v L, o = .returned v ∧ Q_rm_net4 Z a0' p1 k y0 y1 y2 y3 h0 n0 v U'.heap L ∧ FrameEnd U o U' L 1 4) := by
  refine MetFree.of_bodySF (plainFor_of_name pn_com_example_sliding_gate_slidinggate_IpAddresses) hisR ?_
  intro p e s m args below meth c s₁ Bd hml0 hP hK
  obtain ⟨rfl, hZ, hh⟩ := hP
  have hx := Bd.exec
  have hby := Bd.bytes
  have hlk := Bd.notSynchronized
  have hml : c.maxLocals = 5 := hml0
  have hown : s.vm.findClass "com/example/sliding_gate/slidinggate/IpAddresses" = some m.cls := findClass_of_methodNamed Bd.named
  have hnm := (name_of_methodNamed Bd.named Bd.method).1
  have X0 : Stand p l e ({ frames := 1, cells := 1, slots := 4, locals := 14 } : Room) s m #[(.ref a0'), (.int p1)] below meth c s₁ [] 0 0 := Stand.of_body Bd
  have e0 : s₁.heap = h0 := by rw [← hh, Bd.state]; rfl
  have N0 := Fr.nil n0
  show OwnEnd p e below s (Q_rm_net4 Z a0' p1 k y0 y1 y2 y3 h0 n0) 1 4 (s₁.setTop (entryFrame m #[(.ref a0'), (.int p1)] 5))
  refine go (fun t k => castTop (ef_rm_net4 m a0' p1) k) ?_
  have KK := Keep.refl h0 []
  show OwnEnd _ _ _ _ _ _ _ (s₁.setTop (mkF m 0 (fL0 a0' p1) []))
  refine go (fun _ k => by refine XS.aloadN X0.here hx rfl (hb hby d_prog_6_method_4_code_0) rfl rfl ?_; exact k) ?_
  show OwnEnd _ _ _ _ _ _ _ (s₁.setTop (mkF m 1 (fL0 a0' p1) [(.ref a0')]))
  refine go (lenV X0 hx hZ e0 VA (g := (mkF m 1 (fL0 a0' p1) [(.ref a0')])) rfl rfl (hb hby d_prog_6_method_4_code_1)) ?_
  show OwnEnd _ _ _ _ _ _ _ (s₁.setTop (mkF m 2 (fL0 a0' p1) [(.int (4 : Int32))]))
  obtain ⟨T1, h1, k1, X1, e1, E1, A1, st1⟩ := newP X0 hx hZ (hw _ (List.mem_of_getElem? (i := 1) rfl)) e0 (g := (mkF m 2 (fL0 a0' p1) [(.int (4 : Int32))])) rfl (hb hby d_prog_6_method_4_code_2) rfl (by decide) (cap := 4) (by decide) (by decide) (by decide) (by decide)
  obtain ⟨b1, g1⟩ : ∃ z, z = h0.size := ⟨_, rfl⟩
  rw [← g1] at A1 st1
  have ne_a0__b1 : a0' ≠ b1 := fun q => absurd VA.lt (by rw [q, g1]; exact Nat.lt_irrefl _)
  have g_b1 : n0 ≤ b1 := Nat.le_trans Z0 (Nat.le_of_eq g1.symm)
  have sz_b1 : h0.size ≤ b1 := Nat.le_trans KK.1 (Nat.le_of_eq g1.symm)
  have VA := VA.ext E1
  have Z0 := Nat.le_trans Z0 E1.1
  have KK := Keep.ext KK E1
  have V_b1 : Arv Z h1 b1 k1 .byte (4 : Int32) [(.int (0 : Int32)), (.int (0 : Int32)), (.int (0 : Int32)), (.int (0 : Int32))] (.int (0 : Int32)) := (Arv.new A1 (by decide)).pad (pad_rep [] (.int (0 : Int32)) 4)
  refine go st1 ?_
  refine go (fun _ k => by refine XS.astoreN X1.here hx rfl (hb hby d_prog_6_method_4_code_4) rfl rfl (l' := (fL1 a0' p1 b1)) rfl ?_; exact k) ?_
  refine go (fun _ k => by refine XS.iconst X1.here hx rfl (hb hby d_prog_6_method_4_code_5) ?_; exact k) ?_
  refine go (fun _ k => by refine XS.istoreN X1.here hx rfl (hb hby d_prog_6_method_4_code_6) rfl (l' := (fL2 a0' p1 b1 (0 : Int32))) rfl ?_; exact k) ?_
  show OwnEnd _ _ _ _ _ _ _ (T1.setTop (mkF m 7 (fL2 a0' p1 b1 (0 : Int32)) []))
  refine go (fun _ k => by refine XS.iloadN X1.here hx rfl (hb hby d_prog_6_method_4_code_7) rfl ?_; exact k) ?_
  refine go (fun _ k => by refine XS.aloadN X1.here hx rfl (hb hby d_prog_6_method_4_code_8) rfl rfl ?_; exact k) ?_
  show OwnEnd _ _ _ _ _ _ _ (T1.setTop (mkF m 9 (fL2 a0' p1 b1 (0 : Int32)) [(.ref a0'), (.int (0 : Int32))]))
  refine go (lenV X1 hx hZ e1 VA (g := (mkF m 9 (fL2 a0' p1 b1 (0 : Int32)) [(.ref a0'), (.int (0 : Int32))])) rfl rfl (hb hby d_prog_6_method_4_code_9)) ?_
  show OwnEnd _ _ _ _ _ _ _ (T1.setTop (mkF m 10 (fL2 a0' p1 b1 (0 : Int32)) [(.int (4 : Int32)), (.int (0 : Int32))]))
  refine go (fun _ k => by refine XS.icmpNo X1.here hx rfl (hb hby d_prog_6_method_4_code_10) rfl (tlt (by decide)).2.1 ?_; exact k) ?_
  refine go (fun _ k => by refine XS.iconst X1.here hx rfl (hb hby d_prog_6_method_4_code_13) ?_; exact k) ?_
  refine go (fun _ k => by refine XS.bipush X1.here hx rfl (hb hby d_prog_6_method_4_code_14) ?_; exact k) ?_
  refine go (fun _ k => by refine XS.iloadN X1.here hx rfl (hb hby d_prog_6_method_4_code_16) rfl ?_; exact k) ?_
  show OwnEnd _ _ _ _ _ _ _ (T1.setTop (mkF m 17 (fL2 a0' p1 b1 (0 : Int32)) [(.int p1), (.int (8 : Int32)), (.int (0 : Int32))]))
  refine go (fun _ k => by refine XS.bipush X1.here hx rfl (hb hby d_prog_6_method_4_code_17) ?_; exact k) ?_
  refine go (fun _ k => by refine XS.iloadN X1.here hx rfl (hb hby d_prog_6_method_4_code_19) rfl ?_; exact k) ?_
  refine go (fun _ k => by refine XS.imul X1.here hx rfl (hb hby d_prog_6_method_4_code_20) rfl ?_; exact k) ?_
  show OwnEnd _ _ _ _ _ _ _ (T1.setTop (mkF m 21 (fL2 a0' p1 b1 (0 : Int32)) [(.int ((8 : Int32) * (0 : Int32))), (.int p1), (.int (8 : Int32)), (.int (0 : Int32))]))
  rw [show ((8 : Int32) * (0 : Int32)) = (0 : Int32) from by decide]
  refine go (fun _ k => by refine XS.isub X1.here hx rfl (hb hby d_prog_6_method_4_code_21) rfl ?_; exact k) ?_
  show OwnEnd _ _ _ _ _ _ _ (T1.setTop (mkF m 22 (fL2 a0' p1 b1 (0 : Int32)) [(.int (p1 - (0 : Int32))), (.int (8 : Int32)), (.int (0 : Int32))]))
  obtain ⟨_, T2, L2, X2, hQ2, st2⟩ := callStat X1 hx hZ hown (hw _ (List.mem_of_getElem? (i := 10) rfl)) (hw _ (List.mem_of_getElem? (i := 11) rfl)) (hw _ (List.mem_of_getElem? (i := 12) rfl)) (hw _ (List.mem_of_getElem? (i := 13) rfl)) (by decide) (rm_min l Z a0 hw [] (8 : Int32) (p1 - (0 : Int32)) h1 n0 ) (W := 1) (by decide) (by decide) e1 (g := (mkF m 22 (fL2 a0' p1 b1 (0 : Int32)) [(.int (p1 - (0 : Int32))), (.int (8 : Int32)), (.int (0 : Int32))])) rfl (by rw [hml]; rfl) (argsL := [(.int (8 : Int32)), (.int (p1 - (0 : Int32)))]) (rest := [(.int (0 : Int32))]) rfl (lenOf pd__II_I rfl) rfl (by show 2 * 0 + _ ≤ _; exact Nat.le_of_eq rfl) (hb hby d_prog_6_method_4_code_22) (by decide) (by decide)
  obtain ⟨rfl, Nq2, eq2⟩ := hQ2
  have N2 := Fr.app N0 Nq2
  refine go st2 ?_
  show OwnEnd _ _ _ _ _ _ _ (T2.setTop (mkF m 25 (fL2 a0' p1 b1 (0 : Int32)) [(.int (own_min (8 : Int32) (p1 - (0 : Int32)))), (.int (0 : Int32))]))
  obtain ⟨_, T3, L3, X3, hQ3, st3⟩ := callStat X2 hx hZ hown (hw _ (List.mem_of_getElem? (i := 14) rfl)) (hw _ (List.mem_of_getElem? (i := 15) rfl)) (hw _ (List.mem_of_getElem? (i := 12) rfl)) (hw _ (List.mem_of_getElem? (i := 16) rfl)) (by decide) (rm_max l Z a0 hw [] (0 : Int32) (own_min (8 : Int32) (p1 - (0 : Int32))) h1 n0 ) (W := 0) (by decide) (by decide) eq2 (g := (mkF m 25 (fL2 a0' p1 b1 (0 : Int32)) [(.int (own_min (8 : Int32) (p1 - (0 : Int32)))), (.int (0 : Int32))])) rfl (by rw [hml]; rfl) (argsL := [(.int (0 : Int32)), (.int (own_min (8 : Int32) (p1 - (0 : Int32))))]) (rest := []) rfl (lenOf pd__II_I rfl) rfl (by show 2 * 0 + _ ≤ _; exact Nat.le_of_eq rfl) (hb hby d_prog_6_method_4_code_25) (by decide) (by decide)
  obtain ⟨rfl, Nq3, eq3⟩ := hQ3
  have N3 := Fr.app N2 Nq3
  refine go st3 ?_
  refine go (fun _ k => by refine XS.istore X3.here hx rfl (hb hby d_prog_6_method_4_code_28) rfl (l' := (fL3 a0' p1 b1 (0 : Int32) (own_max (0 : Int32) (own_min (8 : Int32) (p1 - (0 : Int32)))))) rfl ?_; exact k) ?_
  refine go (fun _ k => by refine XS.aloadN X3.here hx rfl (hb hby d_prog_6_method_4_code_30) rfl rfl ?_; exact k) ?_
  refine go (fun _ k => by refine XS.iloadN X3.here hx rfl (hb hby d_prog_6_method_4_code_31) rfl ?_; exact k) ?_
  show OwnEnd _ _ _ _ _ _ _ (T3.setTop (mkF m 32 (fL3 a0' p1 b1 (0 : Int32) (own_max (0 : Int32) (own_min (8 : Int32) (p1 - (0 : Int32))))) [(.int (0 : Int32)), (.ref b1)]))
  refine go (fun _ k => by refine XS.aloadN X3.here hx rfl (hb hby d_prog_6_method_4_code_32) rfl rfl ?_; exact k) ?_
  refine go (fun _ k => by refine XS.iloadN X3.here hx rfl (hb hby d_prog_6_method_4_code_33) rfl ?_; exact k) ?_
  show OwnEnd _ _ _ _ _ _ _ (T3.setTop (mkF m 34 (fL3 a0' p1 b1 (0 : Int32) (own_max (0 : Int32) (own_min (8 : Int32) (p1 - (0 : Int32))))) [(.int (0 : Int32)), (.ref a0'), (.int (0 : Int32)), (.ref b1)]))
  refine go (ldBv X3 hx hZ eq3 VA (j := (0 : Int32)) (i := 0) (w := y0) (by decide) (by decide) (by decide) rfl (g := (mkF m 34 (fL3 a0' p1 b1 (0 : Int32) (own_max (0 : Int32) (own_min (8 : Int32) (p1 - (0 : Int32))))) [(.int (0 : Int32)), (.ref a0'), (.int (0 : Int32)), (.ref b1)])) rfl rfl (hb hby d_prog_6_method_4_code_34)) ?_
  refine go (fun _ k => by refine XS.sipush X3.here hx rfl (hb hby d_prog_6_method_4_code_35) ?_; exact k) ?_
  refine go (fun _ k => by refine XS.bipush X3.here hx rfl (hb hby d_prog_6_method_4_code_38) ?_; exact k) ?_
  refine go (fun _ k => by refine XS.iload X3.here hx rfl (hb hby d_prog_6_method_4_code_40) rfl ?_; exact k) ?_
  show OwnEnd _ _ _ _ _ _ _ (T3.setTop (mkF m 42 (fL3 a0' p1 b1 (0 : Int32) (own_max (0 : Int32) (own_min (8 : Int32) (p1 - (0 : Int32))))) [(.int (own_max (0 : Int32) (own_min (8 : Int32) (p1 - (0 : Int32))))), (.int (8 : Int32)), (.int (255 : Int32)), (.int y0), (.int (0 : Int32)), (.ref b1)]))
  refine go (fun _ k => by refine XS.isub X3.here hx rfl (hb hby d_prog_6_method_4_code_42) rfl ?_; exact k) ?_
  refine go (fun _ k => by refine XS.ishl X3.here hx rfl (hb hby d_prog_6_method_4_code_43) rfl ?_; exact k) ?_
  refine go (fun _ k => by refine XS.iand X3.here hx rfl (hb hby d_prog_6_method_4_code_44) rfl ?_; exact k) ?_
  refine go (fun _ k => by refine XS.i2b X3.here hx rfl (hb hby d_prog_6_method_4_code_45) rfl ?_; exact k) ?_
  show OwnEnd _ _ _ _ _ _ _ (T3.setTop (mkF m 46 (fL3 a0' p1 b1 (0 : Int32) (own_max (0 : Int32) (own_min (8 : Int32) (p1 - (0 : Int32))))) [(.int ((y0 &&& ((255 : Int32) <<< (((8 : Int32) - (own_max (0 : Int32) (own_min (8 : Int32) (p1 - (0 : Int32))))) &&& 31))).toInt8.toInt32)), (.int (0 : Int32)), (.ref b1)]))
  obtain ⟨T4, h4, X4, e4, W4, V_b1', st4⟩ := stBv X3 hx hZ eq3 V_b1 (j := (0 : Int32)) (i := 0) (by decide) (by decide) (by decide) (Nat.le_of_ble_eq_true rfl) (g := (mkF m 46 (fL3 a0' p1 b1 (0 : Int32) (own_max (0 : Int32) (own_min (8 : Int32) (p1 - (0 : Int32))))) [(.int ((y0 &&& ((255 : Int32) <<< (((8 : Int32) - (own_max (0 : Int32) (own_min (8 : Int32) (p1 - (0 : Int32))))) &&& 31))).toInt8.toInt32)), (.int (0 : Int32)), (.ref b1)])) rfl rfl (hb hby d_prog_6_method_4_code_46)
  have N4 := Fr.snoc X4 N3 g_b1
  have VA := VA.other W4 ne_a0__b1
  have Z0 := Nat.le_trans Z0 (Keep.of_wr W4).1
  have KK := Keep.wr KK W4 (Or.inr sz_b1)
  have V_b1 : Arv Z h4 b1 k1 .byte (4 : Int32) [(.int (own_nb y0 p1 0)), (.int (0 : Int32)), (.int (0 : Int32)), (.int (0 : Int32))] (.int (0 : Int32)) := V_b1'
  refine go st4 ?_
  show OwnEnd _ _ _ _ _ _ _ (T4.setTop (mkF m 47 (fL3 a0' p1 b1 (0 : Int32) (own_max (0 : Int32) (own_min (8 : Int32) (p1 - (0 : Int32))))) []))
  refine go (fun _ k => by refine XS.iinc X4.here hx rfl (hb hby d_prog_6_method_4_code_47) rfl (l' := (fL3 a0' p1 b1 ((0 : Int32) + (1 : Int32)) (own_max (0 : Int32) (own_min (8 : Int32) (p1 - (0 : Int32)))))) rfl ?_; exact k) ?_
  show OwnEnd _ _ _ _ _ _ _ (T4.setTop (mkF m 50 (fL3 a0' p1 b1 ((0 : Int32) + (1 : Int32)) (own_max (0 : Int32) (own_min (8 : Int32) (p1 - (0 : Int32))))) []))
  rw [show ((0 : Int32) + (1 : Int32)) = (1 : Int32) from by decide]
  refine go (fun _ k => by refine XS.goto X4.here hx rfl (pc0 := 50) (pc' := 7) rfl (hb hby d_prog_6_method_4_code_50) (by decide) (by decide) ?_; exact k) ?_
  refine go (fun _ k => by refine XS.iloadN X4.here hx rfl (hb hby d_prog_6_method_4_code_7) rfl ?_; exact k) ?_
  refine go (fun _ k => by refine XS.aloadN X4.here hx rfl (hb hby d_prog_6_method_4_code_8) rfl rfl ?_; exact k) ?_
  show OwnEnd _ _ _ _ _ _ _ (T4.setTop (mkF m 9 (fL3 a0' p1 b1 (1 : Int32) (own_max (0 : Int32) (own_min (8 : Int32) (p1 - (0 : Int32))))) [(.ref a0'), (.int (1 : Int32))]))
  refine go (lenV X4 hx hZ e4 VA (g := (mkF m 9 (fL3 a0' p1 b1 (1 : Int32) (own_max (0 : Int32) (own_min (8 : Int32) (p1 - (0 : Int32))))) [(.ref a0'), (.int (1 : Int32))])) rfl rfl (hb hby d_prog_6_method_4_code_9)) ?_
  show OwnEnd _ _ _ _ _ _ _ (T4.setTop (mkF m 10 (fL3 a0' p1 b1 (1 : Int32) (own_max (0 : Int32) (own_min (8 : Int32) (p1 - (0 : Int32))))) [(.int (4 : Int32)), (.int (1 : Int32))]))
  refine go (fun _ k => by refine XS.icmpNo X4.here hx rfl (hb hby d_prog_6_method_4_code_10) rfl (tlt (by decide)).2.1 ?_; exact k) ?_
  refine go (fun _ k => by refine XS.iconst X4.here hx rfl (hb hby d_prog_6_method_4_code_13) ?_; exact k) ?_
  refine go (fun _ k => by refine XS.bipush X4.here hx rfl (hb hby d_prog_6_method_4_code_14) ?_; exact k) ?_
  refine go (fun _ k => by refine XS.iloadN X4.here hx rfl (hb hby d_prog_6_method_4_code_16) rfl ?_; exact k) ?_
  show OwnEnd _ _ _ _ _ _ _ (T4.setTop (mkF m 17 (fL3 a0' p1 b1 (1 : Int32) (own_max (0 : Int32) (own_min (8 : Int32) (p1 - (0 : Int32))))) [(.int p1), (.int (8 : Int32)), (.int (0 : Int32))]))
  refine go (fun _ k => by refine XS.bipush X4.here hx rfl (hb hby d_prog_6_method_4_code_17) ?_; exact k) ?_
  refine go (fun _ k => by refine XS.iloadN X4.here hx rfl (hb hby d_prog_6_method_4_code_19) rfl ?_; exact k) ?_
  refine go (fun _ k => by refine XS.imul X4.here hx rfl (hb hby d_prog_6_method_4_code_20) rfl ?_; exact k) ?_
  show OwnEnd _ _ _ _ _ _ _ (T4.setTop (mkF m 21 (fL3 a0' p1 b1 (1 : Int32) (own_max (0 : Int32) (own_min (8 : Int32) (p1 - (0 : Int32))))) [(.int ((8 : Int32) * (1 : Int32))), (.int p1), (.int (8 : Int32)), (.int (0 : Int32))]))
  rw [show ((8 : Int32) * (1 : Int32)) = (8 : Int32) from by decide]
  refine go (fun _ k => by refine XS.isub X4.here hx rfl (hb hby d_prog_6_method_4_code_21) rfl ?_; exact k) ?_
  show OwnEnd _ _ _ _ _ _ _ (T4.setTop (mkF m 22 (fL3 a0' p1 b1 (1 : Int32) (own_max (0 : Int32) (own_min (8 : Int32) (p1 - (0 : Int32))))) [(.int (p1 - (8 : Int32))), (.int (8 : Int32)), (.int (0 : Int32))]))
  obtain ⟨_, T5, L5, X5, hQ5, st5⟩ := callStat X4 hx hZ hown (hw _ (List.mem_of_getElem? (i := 10) rfl)) (hw _ (List.mem_of_getElem? (i := 11) rfl)) (hw _ (List.mem_of_getElem? (i := 12) rfl)) (hw _ (List.mem_of_getElem? (i := 13) rfl)) (by decide) (rm_min l Z a0 hw [] (8 : Int32) (p1 - (8 : Int32)) h4 n0 ) (W := 1) (by decide) (by decide) e4 (g := (mkF m 22 (fL3 a0' p1 b1 (1 : Int32) (own_max (0 : Int32) (own_min (8 : Int32) (p1 - (0 : Int32))))) [(.int (p1 - (8 : Int32))), (.int (8 : Int32)), (.int (0 : Int32))])) rfl (by rw [hml]; rfl) (argsL := [(.int (8 : Int32)), (.int (p1 - (8 : Int32)))]) (rest := [(.int (0 : Int32))]) rfl (lenOf pd__II_I rfl) rfl (by show 2 * 0 + _ ≤ _; exact Nat.le_of_eq rfl) (hb hby d_prog_6_method_4_code_22) (by decide) (by decide)
  obtain ⟨rfl, Nq5, eq5⟩ := hQ5
  have N5 := Fr.app N4 Nq5
  refine go st5 ?_
  show OwnEnd _ _ _ _ _ _ _ (T5.setTop (mkF m 25 (fL3 a0' p1 b1 (1 : Int32) (own_max (0 : Int32) (own_min (8 : Int32) (p1 - (0 : Int32))))) [(.int (own_min (8 : Int32) (p1 - (8 : Int32)))), (.int (0 : Int32))]))
  obtain ⟨_, T6, L6, X6, hQ6, st6⟩ := callStat X5 hx hZ hown (hw _ (List.mem_of_getElem? (i := 14) rfl)) (hw _ (List.mem_of_getElem? (i := 15) rfl)) (hw _ (List.mem_of_getElem? (i := 12) rfl)) (hw _ (List.mem_of_getElem? (i := 16) rfl)) (by decide) (rm_max l Z a0 hw [] (0 : Int32) (own_min (8 : Int32) (p1 - (8 : Int32))) h4 n0 ) (W := 0) (by decide) (by decide) eq5 (g := (mkF m 25 (fL3 a0' p1 b1 (1 : Int32) (own_max (0 : Int32) (own_min (8 : Int32) (p1 - (0 : Int32))))) [(.int (own_min (8 : Int32) (p1 - (8 : Int32)))), (.int (0 : Int32))])) rfl (by rw [hml]; rfl) (argsL := [(.int (0 : Int32)), (.int (own_min (8 : Int32) (p1 - (8 : Int32))))]) (rest := []) rfl (lenOf pd__II_I rfl) rfl (by show 2 * 0 + _ ≤ _; exact Nat.le_of_eq rfl) (hb hby d_prog_6_method_4_code_25) (by decide) (by decide)
  obtain ⟨rfl, Nq6, eq6⟩ := hQ6
  have N6 := Fr.app N5 Nq6
  refine go st6 ?_
  refine go (fun _ k => by refine XS.istore X6.here hx rfl (hb hby d_prog_6_method_4_code_28) rfl (l' := (fL3 a0' p1 b1 (1 : Int32) (own_max (0 : Int32) (own_min (8 : Int32) (p1 - (8 : Int32)))))) rfl ?_; exact k) ?_
  refine go (fun _ k => by refine XS.aloadN X6.here hx rfl (hb hby d_prog_6_method_4_code_30) rfl rfl ?_; exact k) ?_
  refine go (fun _ k => by refine XS.iloadN X6.here hx rfl (hb hby d_prog_6_method_4_code_31) rfl ?_; exact k) ?_
  show OwnEnd _ _ _ _ _ _ _ (T6.setTop (mkF m 32 (fL3 a0' p1 b1 (1 : Int32) (own_max (0 : Int32) (own_min (8 : Int32) (p1 - (8 : Int32))))) [(.int (1 : Int32)), (.ref b1)]))
  refine go (fun _ k => by refine XS.aloadN X6.here hx rfl (hb hby d_prog_6_method_4_code_32) rfl rfl ?_; exact k) ?_
  refine go (fun _ k => by refine XS.iloadN X6.here hx rfl (hb hby d_prog_6_method_4_code_33) rfl ?_; exact k) ?_
  show OwnEnd _ _ _ _ _ _ _ (T6.setTop (mkF m 34 (fL3 a0' p1 b1 (1 : Int32) (own_max (0 : Int32) (own_min (8 : Int32) (p1 - (8 : Int32))))) [(.int (1 : Int32)), (.ref a0'), (.int (1 : Int32)), (.ref b1)]))
  refine go (ldBv X6 hx hZ eq6 VA (j := (1 : Int32)) (i := 1) (w := y1) (by decide) (by decide) (by decide) rfl (g := (mkF m 34 (fL3 a0' p1 b1 (1 : Int32) (own_max (0 : Int32) (own_min (8 : Int32) (p1 - (8 : Int32))))) [(.int (1 : Int32)), (.ref a0'), (.int (1 : Int32)), (.ref b1)])) rfl rfl (hb hby d_prog_6_method_4_code_34)) ?_
  refine go (fun _ k => by refine XS.sipush X6.here hx rfl (hb hby d_prog_6_method_4_code_35) ?_; exact k) ?_
  refine go (fun _ k => by refine XS.bipush X6.here hx rfl (hb hby d_prog_6_method_4_code_38) ?_; exact k) ?_
  refine go (fun _ k => by refine XS.iload X6.here hx rfl (hb hby d_prog_6_method_4_code_40) rfl ?_; exact k) ?_
  show OwnEnd _ _ _ _ _ _ _ (T6.setTop (mkF m 42 (fL3 a0' p1 b1 (1 : Int32) (own_max (0 : Int32) (own_min (8 : Int32) (p1 - (8 : Int32))))) [(.int (own_max (0 : Int32) (own_min (8 : Int32) (p1 - (8 : Int32))))), (.int (8 : Int32)), (.int (255 : Int32)), (.int y1), (.int (1 : Int32)), (.ref b1)]))
  refine go (fun _ k => by refine XS.isub X6.here hx rfl (hb hby d_prog_6_method_4_code_42) rfl ?_; exact k) ?_
  refine go (fun _ k => by refine XS.ishl X6.here hx rfl (hb hby d_prog_6_method_4_code_43) rfl ?_; exact k) ?_
  refine go (fun _ k => by refine XS.iand X6.here hx rfl (hb hby d_prog_6_method_4_code_44) rfl ?_; exact k) ?_
  refine go (fun _ k => by refine XS.i2b X6.here hx rfl (hb hby d_prog_6_method_4_code_45) rfl ?_; exact k) ?_
  show OwnEnd _ _ _ _ _ _ _ (T6.setTop (mkF m 46 (fL3 a0' p1 b1 (1 : Int32) (own_max (0 : Int32) (own_min (8 : Int32) (p1 - (8 : Int32))))) [(.int ((y1 &&& ((255 : Int32) <<< (((8 : Int32) - (own_max (0 : Int32) (own_min (8 : Int32) (p1 - (8 : Int32))))) &&& 31))).toInt8.toInt32)), (.int (1 : Int32)), (.ref b1)]))
  obtain ⟨T7, h7, X7, e7, W7, V_b1', st7⟩ := stBv X6 hx hZ eq6 V_b1 (j := (1 : Int32)) (i := 1) (by decide) (by decide) (by decide) (Nat.le_of_ble_eq_true rfl) (g := (mkF m 46 (fL3 a0' p1 b1 (1 : Int32) (own_max (0 : Int32) (own_min (8 : Int32) (p1 - (8 : Int32))))) [(.int ((y1 &&& ((255 : Int32) <<< (((8 : Int32) - (own_max (0 : Int32) (own_min (8 : Int32) (p1 - (8 : Int32))))) &&& 31))).toInt8.toInt32)), (.int (1 : Int32)), (.ref b1)])) rfl rfl (hb hby d_prog_6_method_4_code_46)
  have N7 := Fr.snoc X7 N6 g_b1
  have VA := VA.other W7 ne_a0__b1
  have Z0 := Nat.le_trans Z0 (Keep.of_wr W7).1
  have KK := Keep.wr KK W7 (Or.inr sz_b1)
  have V_b1 : Arv Z h7 b1 k1 .byte (4 : Int32) [(.int (own_nb y0 p1 0)), (.int (own_nb y1 p1 8)), (.int (0 : Int32)), (.int (0 : Int32))] (.int (0 : Int32)) := V_b1'
  refine go st7 ?_
  show OwnEnd _ _ _ _ _ _ _ (T7.setTop (mkF m 47 (fL3 a0' p1 b1 (1 : Int32) (own_max (0 : Int32) (own_min (8 : Int32) (p1 - (8 : Int32))))) []))
  refine go (fun _ k => by refine XS.iinc X7.here hx rfl (hb hby d_prog_6_method_4_code_47) rfl (l' := (fL3 a0' p1 b1 ((1 : Int32) + (1 : Int32)) (own_max (0 : Int32) (own_min (8 : Int32) (p1 - (8 : Int32)))))) rfl ?_; exact k) ?_
  show OwnEnd _ _ _ _ _ _ _ (T7.setTop (mkF m 50 (fL3 a0' p1 b1 ((1 : Int32) + (1 : Int32)) (own_max (0 : Int32) (own_min (8 : Int32) (p1 - (8 : Int32))))) []))
  rw [show ((1 : Int32) + (1 : Int32)) = (2 : Int32) from by decide]
  refine go (fun _ k => by refine XS.goto X7.here hx rfl (pc0 := 50) (pc' := 7) rfl (hb hby d_prog_6_method_4_code_50) (by decide) (by decide) ?_; exact k) ?_
  refine go (fun _ k => by refine XS.iloadN X7.here hx rfl (hb hby d_prog_6_method_4_code_7) rfl ?_; exact k) ?_
  refine go (fun _ k => by refine XS.aloadN X7.here hx rfl (hb hby d_prog_6_method_4_code_8) rfl rfl ?_; exact k) ?_
  show OwnEnd _ _ _ _ _ _ _ (T7.setTop (mkF m 9 (fL3 a0' p1 b1 (2 : Int32) (own_max (0 : Int32) (own_min (8 : Int32) (p1 - (8 : Int32))))) [(.ref a0'), (.int (2 : Int32))]))
  refine go (lenV X7 hx hZ e7 VA (g := (mkF m 9 (fL3 a0' p1 b1 (2 : Int32) (own_max (0 : Int32) (own_min (8 : Int32) (p1 - (8 : Int32))))) [(.ref a0'), (.int (2 : Int32))])) rfl rfl (hb hby d_prog_6_method_4_code_9)) ?_
  show OwnEnd _ _ _ _ _ _ _ (T7.setTop (mkF m 10 (fL3 a0' p1 b1 (2 : Int32) (own_max (0 : Int32) (own_min (8 : Int32) (p1 - (8 : Int32))))) [(.int (4 : Int32)), (.int (2 : Int32))]))
  refine go (fun _ k => by refine XS.icmpNo X7.here hx rfl (hb hby d_prog_6_method_4_code_10) rfl (tlt (by decide)).2.1 ?_; exact k) ?_
  refine go (fun _ k => by refine XS.iconst X7.here hx rfl (hb hby d_prog_6_method_4_code_13) ?_; exact k) ?_
  refine go (fun _ k => by refine XS.bipush X7.here hx rfl (hb hby d_prog_6_method_4_code_14) ?_; exact k) ?_
  refine go (fun _ k => by refine XS.iloadN X7.here hx rfl (hb hby d_prog_6_method_4_code_16) rfl ?_; exact k) ?_
  show OwnEnd _ _ _ _ _ _ _ (T7.setTop (mkF m 17 (fL3 a0' p1 b1 (2 : Int32) (own_max (0 : Int32) (own_min (8 : Int32) (p1 - (8 : Int32))))) [(.int p1), (.int (8 : Int32)), (.int (0 : Int32))]))
  refine go (fun _ k => by refine XS.bipush X7.here hx rfl (hb hby d_prog_6_method_4_code_17) ?_; exact k) ?_
  refine go (fun _ k => by refine XS.iloadN X7.here hx rfl (hb hby d_prog_6_method_4_code_19) rfl ?_; exact k) ?_
  refine go (fun _ k => by refine XS.imul X7.here hx rfl (hb hby d_prog_6_method_4_code_20) rfl ?_; exact k) ?_
  show OwnEnd _ _ _ _ _ _ _ (T7.setTop (mkF m 21 (fL3 a0' p1 b1 (2 : Int32) (own_max (0 : Int32) (own_min (8 : Int32) (p1 - (8 : Int32))))) [(.int ((8 : Int32) * (2 : Int32))), (.int p1), (.int (8 : Int32)), (.int (0 : Int32))]))
  rw [show ((8 : Int32) * (2 : Int32)) = (16 : Int32) from by decide]
  refine go (fun _ k => by refine XS.isub X7.here hx rfl (hb hby d_prog_6_method_4_code_21) rfl ?_; exact k) ?_
  show OwnEnd _ _ _ _ _ _ _ (T7.setTop (mkF m 22 (fL3 a0' p1 b1 (2 : Int32) (own_max (0 : Int32) (own_min (8 : Int32) (p1 - (8 : Int32))))) [(.int (p1 - (16 : Int32))), (.int (8 : Int32)), (.int (0 : Int32))]))
  obtain ⟨_, T8, L8, X8, hQ8, st8⟩ := callStat X7 hx hZ hown (hw _ (List.mem_of_getElem? (i := 10) rfl)) (hw _ (List.mem_of_getElem? (i := 11) rfl)) (hw _ (List.mem_of_getElem? (i := 12) rfl)) (hw _ (List.mem_of_getElem? (i := 13) rfl)) (by decide) (rm_min l Z a0 hw [] (8 : Int32) (p1 - (16 : Int32)) h7 n0 ) (W := 1) (by decide) (by decide) e7 (g := (mkF m 22 (fL3 a0' p1 b1 (2 : Int32) (own_max (0 : Int32) (own_min (8 : Int32) (p1 - (8 : Int32))))) [(.int (p1 - (16 : Int32))), (.int (8 : Int32)), (.int (0 : Int32))])) rfl (by rw [hml]; rfl) (argsL := [(.int (8 : Int32)), (.int (p1 - (16 : Int32)))]) (rest := [(.int (0 : Int32))]) rfl (lenOf pd__II_I rfl) rfl (by show 2 * 0 + _ ≤ _; exact Nat.le_of_eq rfl) (hb hby d_prog_6_method_4_code_22) (by decide) (by decide)
  obtain ⟨rfl, Nq8, eq8⟩ := hQ8
  have N8 := Fr.app N7 Nq8
  refine go st8 ?_
  show OwnEnd _ _ _ _ _ _ _ (T8.setTop (mkF m 25 (fL3 a0' p1 b1 (2 : Int32) (own_max (0 : Int32) (own_min (8 : Int32) (p1 - (8 : Int32))))) [(.int (own_min (8 : Int32) (p1 - (16 : Int32)))), (.int (0 : Int32))]))
  obtain ⟨_, T9, L9, X9, hQ9, st9⟩ := callStat X8 hx hZ hown (hw _ (List.mem_of_getElem? (i := 14) rfl)) (hw _ (List.mem_of_getElem? (i := 15) rfl)) (hw _ (List.mem_of_getElem? (i := 12) rfl)) (hw _ (List.mem_of_getElem? (i := 16) rfl)) (by decide) (rm_max l Z a0 hw [] (0 : Int32) (own_min (8 : Int32) (p1 - (16 : Int32))) h7 n0 ) (W := 0) (by decide) (by decide) eq8 (g := (mkF m 25 (fL3 a0' p1 b1 (2 : Int32) (own_max (0 : Int32) (own_min (8 : Int32) (p1 - (8 : Int32))))) [(.int (own_min (8 : Int32) (p1 - (16 : Int32)))), (.int (0 : Int32))])) rfl (by rw [hml]; rfl) (argsL := [(.int (0 : Int32)), (.int (own_min (8 : Int32) (p1 - (16 : Int32))))]) (rest := []) rfl (lenOf pd__II_I rfl) rfl (by show 2 * 0 + _ ≤ _; exact Nat.le_of_eq rfl) (hb hby d_prog_6_method_4_code_25) (by decide) (by decide)
  obtain ⟨rfl, Nq9, eq9⟩ := hQ9
  have N9 := Fr.app N8 Nq9
  refine go st9 ?_
  refine go (fun _ k => by refine XS.istore X9.here hx rfl (hb hby d_prog_6_method_4_code_28) rfl (l' := (fL3 a0' p1 b1 (2 : Int32) (own_max (0 : Int32) (own_min (8 : Int32) (p1 - (16 : Int32)))))) rfl ?_; exact k) ?_
  refine go (fun _ k => by refine XS.aloadN X9.here hx rfl (hb hby d_prog_6_method_4_code_30) rfl rfl ?_; exact k) ?_
  refine go (fun _ k => by refine XS.iloadN X9.here hx rfl (hb hby d_prog_6_method_4_code_31) rfl ?_; exact k) ?_
  show OwnEnd _ _ _ _ _ _ _ (T9.setTop (mkF m 32 (fL3 a0' p1 b1 (2 : Int32) (own_max (0 : Int32) (own_min (8 : Int32) (p1 - (16 : Int32))))) [(.int (2 : Int32)), (.ref b1)]))
  refine go (fun _ k => by refine XS.aloadN X9.here hx rfl (hb hby d_prog_6_method_4_code_32) rfl rfl ?_; exact k) ?_
  refine go (fun _ k => by refine XS.iloadN X9.here hx rfl (hb hby d_prog_6_method_4_code_33) rfl ?_; exact k) ?_
  show OwnEnd _ _ _ _ _ _ _ (T9.setTop (mkF m 34 (fL3 a0' p1 b1 (2 : Int32) (own_max (0 : Int32) (own_min (8 : Int32) (p1 - (16 : Int32))))) [(.int (2 : Int32)), (.ref a0'), (.int (2 : Int32)), (.ref b1)]))
  refine go (ldBv X9 hx hZ eq9 VA (j := (2 : Int32)) (i := 2) (w := y2) (by decide) (by decide) (by decide) rfl (g := (mkF m 34 (fL3 a0' p1 b1 (2 : Int32) (own_max (0 : Int32) (own_min (8 : Int32) (p1 - (16 : Int32))))) [(.int (2 : Int32)), (.ref a0'), (.int (2 : Int32)), (.ref b1)])) rfl rfl (hb hby d_prog_6_method_4_code_34)) ?_
  refine go (fun _ k => by refine XS.sipush X9.here hx rfl (hb hby d_prog_6_method_4_code_35) ?_; exact k) ?_
  refine go (fun _ k => by refine XS.bipush X9.here hx rfl (hb hby d_prog_6_method_4_code_38) ?_; exact k) ?_
  refine go (fun _ k => by refine XS.iload X9.here hx rfl (hb hby d_prog_6_method_4_code_40) rfl ?_; exact k) ?_
  show OwnEnd _ _ _ _ _ _ _ (T9.setTop (mkF m 42 (fL3 a0' p1 b1 (2 : Int32) (own_max (0 : Int32) (own_min (8 : Int32) (p1 - (16 : Int32))))) [(.int (own_max (0 : Int32) (own_min (8 : Int32) (p1 - (16 : Int32))))), (.int (8 : Int32)), (.int (255 : Int32)), (.int y2), (.int (2 : Int32)), (.ref b1)]))
  refine go (fun _ k => by refine XS.isub X9.here hx rfl (hb hby d_prog_6_method_4_code_42) rfl ?_; exact k) ?_
  refine go (fun _ k => by refine XS.ishl X9.here hx rfl (hb hby d_prog_6_method_4_code_43) rfl ?_; exact k) ?_
  refine go (fun _ k => by refine XS.iand X9.here hx rfl (hb hby d_prog_6_method_4_code_44) rfl ?_; exact k) ?_
  refine go (fun _ k => by refine XS.i2b X9.here hx rfl (hb hby d_prog_6_method_4_code_45) rfl ?_; exact k) ?_
  show OwnEnd _ _ _ _ _ _ _ (T9.setTop (mkF m 46 (fL3 a0' p1 b1 (2 : Int32) (own_max (0 : Int32) (own_min (8 : Int32) (p1 - (16 : Int32))))) [(.int ((y2 &&& ((255 : Int32) <<< (((8 : Int32) - (own_max (0 : Int32) (own_min (8 : Int32) (p1 - (16 : Int32))))) &&& 31))).toInt8.toInt32)), (.int (2 : Int32)), (.ref b1)]))
  obtain ⟨T10, h10, X10, e10, W10, V_b1', st10⟩ := stBv X9 hx hZ eq9 V_b1 (j := (2 : Int32)) (i := 2) (by decide) (by decide) (by decide) (Nat.le_of_ble_eq_true rfl) (g := (mkF m 46 (fL3 a0' p1 b1 (2 : Int32) (own_max (0 : Int32) (own_min (8 : Int32) (p1 - (16 : Int32))))) [(.int ((y2 &&& ((255 : Int32) <<< (((8 : Int32) - (own_max (0 : Int32) (own_min (8 : Int32) (p1 - (16 : Int32))))) &&& 31))).toInt8.toInt32)), (.int (2 : Int32)), (.ref b1)])) rfl rfl (hb hby d_prog_6_method_4_code_46)
  have N10 := Fr.snoc X10 N9 g_b1
  have VA := VA.other W10 ne_a0__b1
  have Z0 := Nat.le_trans Z0 (Keep.of_wr W10).1
  have KK := Keep.wr KK W10 (Or.inr sz_b1)
  have V_b1 : Arv Z h10 b1 k1 .byte (4 : Int32) [(.int (own_nb y0 p1 0)), (.int (own_nb y1 p1 8)), (.int (own_nb y2 p1 16)), (.int (0 : Int32))] (.int (0 : Int32)) := V_b1'
  refine go st10 ?_
  show OwnEnd _ _ _ _ _ _ _ (T10.setTop (mkF m 47 (fL3 a0' p1 b1 (2 : Int32) (own_max (0 : Int32) (own_min (8 : Int32) (p1 - (16 : Int32))))) []))
  refine go (fun _ k => by refine XS.iinc X10.here hx rfl (hb hby d_prog_6_method_4_code_47) rfl (l' := (fL3 a0' p1 b1 ((2 : Int32) + (1 : Int32)) (own_max (0 : Int32) (own_min (8 : Int32) (p1 - (16 : Int32)))))) rfl ?_; exact k) ?_
  show OwnEnd _ _ _ _ _ _ _ (T10.setTop (mkF m 50 (fL3 a0' p1 b1 ((2 : Int32) + (1 : Int32)) (own_max (0 : Int32) (own_min (8 : Int32) (p1 - (16 : Int32))))) []))
  rw [show ((2 : Int32) + (1 : Int32)) = (3 : Int32) from by decide]
  refine go (fun _ k => by refine XS.goto X10.here hx rfl (pc0 := 50) (pc' := 7) rfl (hb hby d_prog_6_method_4_code_50) (by decide) (by decide) ?_; exact k) ?_
  refine go (fun _ k => by refine XS.iloadN X10.here hx rfl (hb hby d_prog_6_method_4_code_7) rfl ?_; exact k) ?_
  refine go (fun _ k => by refine XS.aloadN X10.here hx rfl (hb hby d_prog_6_method_4_code_8) rfl rfl ?_; exact k) ?_
  show OwnEnd _ _ _ _ _ _ _ (T10.setTop (mkF m 9 (fL3 a0' p1 b1 (3 : Int32) (own_max (0 : Int32) (own_min (8 : Int32) (p1 - (16 : Int32))))) [(.ref a0'), (.int (3 : Int32))]))
  refine go (lenV X10 hx hZ e10 VA (g := (mkF m 9 (fL3 a0' p1 b1 (3 : Int32) (own_max (0 : Int32) (own_min (8 : Int32) (p1 - (16 : Int32))))) [(.ref a0'), (.int (3 : Int32))])) rfl rfl (hb hby d_prog_6_method_4_code_9)) ?_
  show OwnEnd _ _ _ _ _ _ _ (T10.setTop (mkF m 10 (fL3 a0' p1 b1 (3 : Int32) (own_max (0 : Int32) (own_min (8 : Int32) (p1 - (16 : Int32))))) [(.int (4 : Int32)), (.int (3 : Int32))]))
  refine go (fun _ k => by refine XS.icmpNo X10.here hx rfl (hb hby d_prog_6_method_4_code_10) rfl (tlt (by decide)).2.1 ?_; exact k) ?_
  refine go (fun _ k => by refine XS.iconst X10.here hx rfl (hb hby d_prog_6_method_4_code_13) ?_; exact k) ?_
  refine go (fun _ k => by refine XS.bipush X10.here hx rfl (hb hby d_prog_6_method_4_code_14) ?_; exact k) ?_
  refine go (fun _ k => by refine XS.iloadN X10.here hx rfl (hb hby d_prog_6_method_4_code_16) rfl ?_; exact k) ?_
  show OwnEnd _ _ _ _ _ _ _ (T10.setTop (mkF m 17 (fL3 a0' p1 b1 (3 : Int32) (own_max (0 : Int32) (own_min (8 : Int32) (p1 - (16 : Int32))))) [(.int p1), (.int (8 : Int32)), (.int (0 : Int32))]))
  refine go (fun _ k => by refine XS.bipush X10.here hx rfl (hb hby d_prog_6_method_4_code_17) ?_; exact k) ?_
  refine go (fun _ k => by refine XS.iloadN X10.here hx rfl (hb hby d_prog_6_method_4_code_19) rfl ?_; exact k) ?_
  refine go (fun _ k => by refine XS.imul X10.here hx rfl (hb hby d_prog_6_method_4_code_20) rfl ?_; exact k) ?_
  show OwnEnd _ _ _ _ _ _ _ (T10.setTop (mkF m 21 (fL3 a0' p1 b1 (3 : Int32) (own_max (0 : Int32) (own_min (8 : Int32) (p1 - (16 : Int32))))) [(.int ((8 : Int32) * (3 : Int32))), (.int p1), (.int (8 : Int32)), (.int (0 : Int32))]))
  rw [show ((8 : Int32) * (3 : Int32)) = (24 : Int32) from by decide]
  refine go (fun _ k => by refine XS.isub X10.here hx rfl (hb hby d_prog_6_method_4_code_21) rfl ?_; exact k) ?_
  show OwnEnd _ _ _ _ _ _ _ (T10.setTop (mkF m 22 (fL3 a0' p1 b1 (3 : Int32) (own_max (0 : Int32) (own_min (8 : Int32) (p1 - (16 : Int32))))) [(.int (p1 - (24 : Int32))), (.int (8 : Int32)), (.int (0 : Int32))]))
  obtain ⟨_, T11, L11, X11, hQ11, st11⟩ := callStat X10 hx hZ hown (hw _ (List.mem_of_getElem? (i := 10) rfl)) (hw _ (List.mem_of_getElem? (i := 11) rfl)) (hw _ (List.mem_of_getElem? (i := 12) rfl)) (hw _ (List.mem_of_getElem? (i := 13) rfl)) (by decide) (rm_min l Z a0 hw [] (8 : Int32) (p1 - (24 : Int32)) h10 n0 ) (W := 1) (by decide) (by decide) e10 (g := (mkF m 22 (fL3 a0' p1 b1 (3 : Int32) (own_max (0 : Int32) (own_min (8 : Int32) (p1 - (16 : Int32))))) [(.int (p1 - (24 : Int32))), (.int (8 : Int32)), (.int (0 : Int32))])) rfl (by rw [hml]; rfl) (argsL := [(.int (8 : Int32)), (.int (p1 - (24 : Int32)))]) (rest := [(.int (0 : Int32))]) rfl (lenOf pd__II_I rfl) rfl (by show 2 * 0 + _ ≤ _; exact Nat.le_of_eq rfl) (hb hby d_prog_6_method_4_code_22) (by decide) (by decide)
  obtain ⟨rfl, Nq11, eq11⟩ := hQ11
  have N11 := Fr.app N10 Nq11
  refine go st11 ?_
  show OwnEnd _ _ _ _ _ _ _ (T11.setTop (mkF m 25 (fL3 a0' p1 b1 (3 : Int32) (own_max (0 : Int32) (own_min (8 : Int32) (p1 - (16 : Int32))))) [(.int (own_min (8 : Int32) (p1 - (24 : Int32)))), (.int (0 : Int32))]))
  obtain ⟨_, T12, L12, X12, hQ12, st12⟩ := callStat X11 hx hZ hown (hw _ (List.mem_of_getElem? (i := 14) rfl)) (hw _ (List.mem_of_getElem? (i := 15) rfl)) (hw _ (List.mem_of_getElem? (i := 12) rfl)) (hw _ (List.mem_of_getElem? (i := 16) rfl)) (by decide) (rm_max l Z a0 hw [] (0 : Int32) (own_min (8 : Int32) (p1 - (24 : Int32))) h10 n0 ) (W := 0) (by decide) (by decide) eq11 (g := (mkF m 25 (fL3 a0' p1 b1 (3 : Int32) (own_max (0 : Int32) (own_min (8 : Int32) (p1 - (16 : Int32))))) [(.int (own_min (8 : Int32) (p1 - (24 : Int32)))), (.int (0 : Int32))])) rfl (by rw [hml]; rfl) (argsL := [(.int (0 : Int32)), (.int (own_min (8 : Int32) (p1 - (24 : Int32))))]) (rest := []) rfl (lenOf pd__II_I rfl) rfl (by show 2 * 0 + _ ≤ _; exact Nat.le_of_eq rfl) (hb hby d_prog_6_method_4_code_25) (by decide) (by decide)
  obtain ⟨rfl, Nq12, eq12⟩ := hQ12
  have N12 := Fr.app N11 Nq12
  refine go st12 ?_
  refine go (fun _ k => by refine XS.istore X12.here hx rfl (hb hby d_prog_6_method_4_code_28) rfl (l' := (fL3 a0' p1 b1 (3 : Int32) (own_max (0 : Int32) (own_min (8 : Int32) (p1 - (24 : Int32)))))) rfl ?_; exact k) ?_
  refine go (fun _ k => by refine XS.aloadN X12.here hx rfl (hb hby d_prog_6_method_4_code_30) rfl rfl ?_; exact k) ?_
  refine go (fun _ k => by refine XS.iloadN X12.here hx rfl (hb hby d_prog_6_method_4_code_31) rfl ?_; exact k) ?_
  show OwnEnd _ _ _ _ _ _ _ (T12.setTop (mkF m 32 (fL3 a0' p1 b1 (3 : Int32) (own_max (0 : Int32) (own_min (8 : Int32) (p1 - (24 : Int32))))) [(.int (3 : Int32)), (.ref b1)]))
  refine go (fun _ k => by refine XS.aloadN X12.here hx rfl (hb hby d_prog_6_method_4_code_32) rfl rfl ?_; exact k) ?_
  refine go (fun _ k => by refine XS.iloadN X12.here hx rfl (hb hby d_prog_6_method_4_code_33) rfl ?_; exact k) ?_
  show OwnEnd _ _ _ _ _ _ _ (T12.setTop (mkF m 34 (fL3 a0' p1 b1 (3 : Int32) (own_max (0 : Int32) (own_min (8 : Int32) (p1 - (24 : Int32))))) [(.int (3 : Int32)), (.ref a0'), (.int (3 : Int32)), (.ref b1)]))
  refine go (ldBv X12 hx hZ eq12 VA (j := (3 : Int32)) (i := 3) (w := y3) (by decide) (by decide) (by decide) rfl (g := (mkF m 34 (fL3 a0' p1 b1 (3 : Int32) (own_max (0 : Int32) (own_min (8 : Int32) (p1 - (24 : Int32))))) [(.int (3 : Int32)), (.ref a0'), (.int (3 : Int32)), (.ref b1)])) rfl rfl (hb hby d_prog_6_method_4_code_34)) ?_
  refine go (fun _ k => by refine XS.sipush X12.here hx rfl (hb hby d_prog_6_method_4_code_35) ?_; exact k) ?_
  refine go (fun _ k => by refine XS.bipush X12.here hx rfl (hb hby d_prog_6_method_4_code_38) ?_; exact k) ?_
  refine go (fun _ k => by refine XS.iload X12.here hx rfl (hb hby d_prog_6_method_4_code_40) rfl ?_; exact k) ?_
  show OwnEnd _ _ _ _ _ _ _ (T12.setTop (mkF m 42 (fL3 a0' p1 b1 (3 : Int32) (own_max (0 : Int32) (own_min (8 : Int32) (p1 - (24 : Int32))))) [(.int (own_max (0 : Int32) (own_min (8 : Int32) (p1 - (24 : Int32))))), (.int (8 : Int32)), (.int (255 : Int32)), (.int y3), (.int (3 : Int32)), (.ref b1)]))
  refine go (fun _ k => by refine XS.isub X12.here hx rfl (hb hby d_prog_6_method_4_code_42) rfl ?_; exact k) ?_
  refine go (fun _ k => by refine XS.ishl X12.here hx rfl (hb hby d_prog_6_method_4_code_43) rfl ?_; exact k) ?_
  refine go (fun _ k => by refine XS.iand X12.here hx rfl (hb hby d_prog_6_method_4_code_44) rfl ?_; exact k) ?_
  refine go (fun _ k => by refine XS.i2b X12.here hx rfl (hb hby d_prog_6_method_4_code_45) rfl ?_; exact k) ?_
  show OwnEnd _ _ _ _ _ _ _ (T12.setTop (mkF m 46 (fL3 a0' p1 b1 (3 : Int32) (own_max (0 : Int32) (own_min (8 : Int32) (p1 - (24 : Int32))))) [(.int ((y3 &&& ((255 : Int32) <<< (((8 : Int32) - (own_max (0 : Int32) (own_min (8 : Int32) (p1 - (24 : Int32))))) &&& 31))).toInt8.toInt32)), (.int (3 : Int32)), (.ref b1)]))
  obtain ⟨T13, h13, X13, e13, W13, V_b1', st13⟩ := stBv X12 hx hZ eq12 V_b1 (j := (3 : Int32)) (i := 3) (by decide) (by decide) (by decide) (Nat.le_of_ble_eq_true rfl) (g := (mkF m 46 (fL3 a0' p1 b1 (3 : Int32) (own_max (0 : Int32) (own_min (8 : Int32) (p1 - (24 : Int32))))) [(.int ((y3 &&& ((255 : Int32) <<< (((8 : Int32) - (own_max (0 : Int32) (own_min (8 : Int32) (p1 - (24 : Int32))))) &&& 31))).toInt8.toInt32)), (.int (3 : Int32)), (.ref b1)])) rfl rfl (hb hby d_prog_6_method_4_code_46)
  have N13 := Fr.snoc X13 N12 g_b1
  have VA := VA.other W13 ne_a0__b1
  have Z0 := Nat.le_trans Z0 (Keep.of_wr W13).1
  have KK := Keep.wr KK W13 (Or.inr sz_b1)
  have V_b1 : Arv Z h13 b1 k1 .byte (4 : Int32) [(.int (own_nb y0 p1 0)), (.int (own_nb y1 p1 8)), (.int (own_nb y2 p1 16)), (.int (own_nb y3 p1 24))] (.int (0 : Int32)) := V_b1'
  refine go st13 ?_
  show OwnEnd _ _ _ _ _ _ _ (T13.setTop (mkF m 47 (fL3 a0' p1 b1 (3 : Int32) (own_max (0 : Int32) (own_min (8 : Int32) (p1 - (24 : Int32))))) []))
  refine go (fun _ k => by refine XS.iinc X13.here hx rfl (hb hby d_prog_6_method_4_code_47) rfl (l' := (fL3 a0' p1 b1 ((3 : Int32) + (1 : Int32)) (own_max (0 : Int32) (own_min (8 : Int32) (p1 - (24 : Int32)))))) rfl ?_; exact k) ?_
  show OwnEnd _ _ _ _ _ _ _ (T13.setTop (mkF m 50 (fL3 a0' p1 b1 ((3 : Int32) + (1 : Int32)) (own_max (0 : Int32) (own_min (8 : Int32) (p1 - (24 : Int32))))) []))
  rw [show ((3 : Int32) + (1 : Int32)) = (4 : Int32) from by decide]
  refine go (fun _ k => by refine XS.goto X13.here hx rfl (pc0 := 50) (pc' := 7) rfl (hb hby d_prog_6_method_4_code_50) (by decide) (by decide) ?_; exact k) ?_
  refine go (fun _ k => by refine XS.iloadN X13.here hx rfl (hb hby d_prog_6_method_4_code_7) rfl ?_; exact k) ?_
  refine go (fun _ k => by refine XS.aloadN X13.here hx rfl (hb hby d_prog_6_method_4_code_8) rfl rfl ?_; exact k) ?_
  show OwnEnd _ _ _ _ _ _ _ (T13.setTop (mkF m 9 (fL3 a0' p1 b1 (4 : Int32) (own_max (0 : Int32) (own_min (8 : Int32) (p1 - (24 : Int32))))) [(.ref a0'), (.int (4 : Int32))]))
  refine go (lenV X13 hx hZ e13 VA (g := (mkF m 9 (fL3 a0' p1 b1 (4 : Int32) (own_max (0 : Int32) (own_min (8 : Int32) (p1 - (24 : Int32))))) [(.ref a0'), (.int (4 : Int32))])) rfl rfl (hb hby d_prog_6_method_4_code_9)) ?_
  show OwnEnd _ _ _ _ _ _ _ (T13.setTop (mkF m 10 (fL3 a0' p1 b1 (4 : Int32) (own_max (0 : Int32) (own_min (8 : Int32) (p1 - (24 : Int32))))) [(.int (4 : Int32)), (.int (4 : Int32))]))
  refine go (fun _ k => by refine XS.icmpYes X13.here hx rfl (pc0 := 10) (pc' := 53) rfl (hb hby d_prog_6_method_4_code_10) rfl (flt (by decide)).2.1 (by decide) (by decide) ?_; exact k) ?_
  refine go (fun _ k => by refine XS.aloadN X13.here hx rfl (hb hby d_prog_6_method_4_code_53) rfl rfl ?_; exact k) ?_
  show OwnEnd _ _ _ _ _ _ _ (T13.setTop (mkF m 54 (fL3 a0' p1 b1 (4 : Int32) (own_max (0 : Int32) (own_min (8 : Int32) (p1 - (24 : Int32))))) [(.ref b1)]))
  refine endA X13 hx hlk Bd.returns rfl rfl (hb hby d_prog_6_method_4_code_54) e13 (by decide) (by decide) ?_
  exact ⟨b1, k1, rfl, N13, KK, sz_b1, g_b1, V_b1⟩
theorem ef_rm_net16 (m : MethodId) (y0 : Addr) (y1 : Int32) : entryFrame m #[(.ref y0), (.int y1)] 5 = mkF m 0 #[.val (.ref y0), .val (.int y1), .unset, .unset, .unset] [] := by first | (simp [entryFrame, mkF, argsToLocals, Value.category]; done) | rfl
def Q_rm_net16 (Z : State) (a0' : Addr) (p1 : Int32) (k : ClassId) (y0 : Int32) (y1 : Int32) (y2 : Int32) (y3 : Int32) (y4 : Int32) (y5 : Int32) (y6 : Int32) (y7 : Int32) (y8 : Int32) (y9 : Int32) (y10 : Int32) (y11 : Int32) (y12 : Int32) (y13 : Int32) (y14 : Int32) (y15 : Int32) (h0 : Heap) (n0 : Nat) (v : Option Value) (h : Heap) (L : List Loc) : Prop := ∃ b k', v = some (.ref b) ∧ Fr n0 L ∧ Keep h0 h [] ∧ h0.size ≤ b ∧ n0 ≤ b ∧ Arv Z h b k' .byte 16 [(.int (own_nb y0 p1 0)), (.int (own_nb y1 p1 8)), (.int (own_nb y2 p1 16)), (.int (own_nb y3 p1 24)), (.int (own_nb y4 p1 32)), (.int (own_nb y5 p1 40)), (.int (own_nb y6 p1 48)), (.int (own_nb y7 p1 56)), (.int (own_nb y8 p1 64)), (.int (own_nb y9 p1 72)), (.int (own_nb y10 p1 80)), (.int (own_nb y11 p1 88)), (.int (own_nb y12 p1 96)), (.int (own_nb y13 p1 104)), (.int (own_nb y14 p1 112)), (.int (own_nb y15 p1 120))] (.int 0)
set_option maxRecDepth 65536 in
set_option maxHeartbeats 40000000 in
theorem rm_net16 (l : Launch) (Z : State) (a0 : Array Value) (hw : ∀ d ∈ tables_1, d.before a0 Z = true) (ws : List Jvm.Cond) (a0' : Addr) (p1 : Int32) (k : ClassId) (y0 : Int32) (y1 : Int32) (y2 : Int32) (y3 : Int32) (y4 : Int32) (y5 : Int32) (y6 : Int32) (y7 : Int32) (y8 : Int32) (y9 : Int32) (y10 : Int32) (y11 : Int32) (y12 : Int32) (y13 : Int32) (y14 : Int32) (y15 : Int32) (h0 : Heap) (n0 : Nat) (Z0 : n0 ≤ h0.size) (VA : Arv Z h0 a0' k .byte 16 [(.int y0), (.int y1), (.int y2), (.int y3), (.int y4), (.int y5), (.int y6), (.int y7), (.int y8), (.int y9), (.int y10), (.int y11), (.int y12), (.int y13), (.int y14), (.int y15)] (.int 0)) :
    MetFree l (⟨"com/example/sliding_gate/slidinggate/IpAddresses", "network", "([BI)[B"⟩ : MethodName) (head1 (Jvm.Cond.code (⟨"com/example/sliding_gate/slidinggate/IpAddresses", "network", "([BI)[B"⟩ : MethodName) prog_6_method_4_code 5 (some (.array .byte)) :: ws) ({ frames := 1, cells := 1, slots := 16, locals := 14 } : Room)) (fun a U => a = #[(.ref a0'), (.int p1)] ∧ Z.Warmed39 U.vm ∧ U.heap = h0) (fun _ _ _ _ _ => True) (fun _ U o U' => ∃ v L, o = .returned v ∧ Q_rm_net16 Z a0' p1 k y0 y1 y2 y3 y4 y5 y6 y7 y8 y9 y10 y11 y12 y13 y14 y15 h0 n0 v U'.heap L ∧ FrameEnd U o U' L 1 16) := by
  refine MetFree.of_bodySF (plainFor_of_name pn_com_example_sliding_gate_slidinggate_IpAddresses) hisR ?_
  intro p e s m args below meth c s₁ Bd hml0 hP hK
  obtain ⟨rfl, hZ, hh⟩ := hP
  have hx := Bd.exec
  have hby := Bd.bytes
  have hlk := Bd.notSynchronized
  have hml : c.maxLocals = 5 := hml0
  have hown : s.vm.findClass "com/example/sliding_gate/slidinggate/IpAddresses" = some m.cls := findClass_of_methodNamed Bd.named
  have hnm := (name_of_methodNamed Bd.named Bd.method).1
  have X0 : Stand p l e ({ frames := 1, cells := 1, slots := 16, locals := 14 } : Room) s m #[(.ref a0'), (.int p1)] below meth c s₁ [] 0 0 := Stand.of_body Bd
  have e0 : s₁.heap = h0 := by rw [← hh, Bd.state]; rfl
  have N0 := Fr.nil n0
  show OwnEnd p e below s (Q_rm_net16 Z a0' p1 k y0 y1 y2 y3 y4 y5 y6 y7 y8 y9 y10 y11 y12 y13 y14 y15 h0 n0) 1 16 (s₁.setTop (entryFrame m #[(.ref a0'), (.int p1)] 5))
  refine go (fun t k => castTop (ef_rm_net16 m a0' p1) k) ?_
  have KK := Keep.refl h0 []
  show OwnEnd _ _ _ _ _ _ _ (s₁.setTop (mkF m 0 (fL0 a0' p1) []))
  refine go (fun _ k => by refine XS.aloadN X0.here hx rfl (hb hby d_prog_6_method_4_code_0) rfl rfl ?_; exact k) ?_
  show OwnEnd _ _ _ _ _ _ _ (s₁.setTop (mkF m 1 (fL0 a0' p1) [(.ref a0')]))
  refine go (lenV X0 hx hZ e0 VA (g := (mkF m 1 (fL0 a0' p1) [(.ref a0')])) rfl rfl (hb hby d_prog_6_method_4_code_1)) ?_
  show OwnEnd _ _ _ _ _ _ _ (s₁.setTop (mkF m 2 (fL0 a0' p1) [(.int (16 : Int32))]))
  obtain ⟨T1, h1, k1, X1, e1, E1, A1, st1⟩ := newP X0 hx hZ (hw _ (List.mem_of_getElem? (i := 1) rfl)) e0 (g := (mkF m 2 (fL0 a0' p1) [(.int (16 : Int32))])) rfl (hb hby d_prog_6_method_4_code_2) rfl (by decide) (cap := 16) (by decide) (by decide) (by decide) (by decide)
  obtain ⟨b1, g1⟩ : ∃ z, z = h0.size := ⟨_, rfl⟩
  rw [← g1] at A1 st1
  have ne_a0__b1 : a0' ≠ b1 := fun q => absurd VA.lt (by rw [q, g1]; exact Nat.lt_irrefl _)
  have g_b1 : n0 ≤ b1 := Nat.le_trans Z0 (Nat.le_of_eq g1.symm)
  have sz_b1 : h0.size ≤ b1 := Nat.le_trans KK.1 (Nat.le_of_eq g1.symm)
  have VA := VA.ext E1
  have Z0 := Nat.le_trans Z0 E1.1
  have KK := Keep.ext KK E1
  have V_b1 : Arv Z h1 b1 k1 .byte (16 : Int32) [(.int (0 : Int32)), (.int (0 : Int32)), (.int (0 : Int32)), (.int (0 : Int32)), (.int (0 : Int32)), (.int (0 : Int32)), (.int (0 : Int32)), (.int (0 : Int32)), (.int (0 : Int32)), (.int (0 : Int32)), (.int (0 : Int32)), (.int (0 : Int32)), (.int (0 : Int32)), (.int (0 : Int32)), (.int (0 : Int32)), (.int (0 : Int32))] (.int (0 : Int32)) := (Arv.new A1 (by decide)).pad (pad_rep [] (.int (0 : Int32)) 16)
  refine go st1 ?_
  refine go (fun _ k => by refine XS.astoreN X1.here hx rfl (hb hby d_prog_6_method_4_code_4) rfl rfl (l' := (fL1 a0' p1 b1)) rfl ?_; exact k) ?_
  refine go (fun _ k => by refine XS.iconst X1.here hx rfl (hb hby d_prog_6_method_4_code_5) ?_; exact k) ?_
  refine go (fun _ k => by refine XS.istoreN X1.here hx rfl (hb hby d_prog_6_method_4_code_6) rfl (l' := (fL2 a0' p1 b1 (0 : Int32))) rfl ?_; exact k) ?_
  show OwnEnd _ _ _ _ _ _ _ (T1.setTop (mkF m 7 (fL2 a0' p1 b1 (0 : Int32)) []))
  refine go (fun _ k => by refine XS.iloadN X1.here hx rfl (hb hby d_prog_6_method_4_code_7) rfl ?_; exact k) ?_
  refine go (fun _ k => by refine XS.aloadN X1.here hx rfl (hb hby d_prog_6_method_4_code_8) rfl rfl ?_; exact k) ?_
  show OwnEnd _ _ _ _ _ _ _ (T1.setTop (mkF m 9 (fL2 a0' p1 b1 (0 : Int32)) [(.ref a0'), (.int (0 : Int32))]))
  refine go (lenV X1 hx hZ e1 VA (g := (mkF m 9 (fL2 a0' p1 b1 (0 : Int32)) [(.ref a0'), (.int (0 : Int32))])) rfl rfl (hb hby d_prog_6_method_4_code_9)) ?_
  show OwnEnd _ _ _ _ _ _ _ (T1.setTop (mkF m 10 (fL2 a0' p1 b1 (0 : Int32)) [(.int (16 : Int32)), (.int (0 : Int32))]))
  refine go (fun _ k => by refine XS.icmpNo X1.here hx rfl (hb hby d_prog_6_method_4_code_10) rfl (tlt (by decide)).2.1 ?_; exact k) ?_
  refine go (fun _ k => by refine XS.iconst X1.here hx rfl (hb hby d_prog_6_method_4_code_13) ?_; exact k) ?_
  refine go (fun _ k => by refine XS.bipush X1.here hx rfl (hb hby d_prog_6_method_4_code_14) ?_; exact k) ?_
  refine go (fun _ k => by refine XS.iloadN X1.here hx rfl (hb hby d_prog_6_method_4_code_16) rfl ?_; exact k) ?_
  show OwnEnd _ _ _ _ _ _ _ (T1.setTop (mkF m 17 (fL2 a0' p1 b1 (0 : Int32)) [(.int p1), (.int (8 : Int32)), (.int (0 : Int32))]))
  refine go (fun _ k => by refine XS.bipush X1.here hx rfl (hb hby d_prog_6_method_4_code_17) ?_; exact k) ?_
  refine go (fun _ k => by refine XS.iloadN X1.here hx rfl (hb hby d_prog_6_method_4_code_19) rfl ?_; exact k) ?_
  refine go (fun _ k => by refine XS.imul X1.here hx rfl (hb hby d_prog_6_method_4_code_20) rfl ?_; exact k) ?_
  show OwnEnd _ _ _ _ _ _ _ (T1.setTop (mkF m 21 (fL2 a0' p1 b1 (0 : Int32)) [(.int ((8 : Int32) * (0 : Int32))), (.int p1), (.int (8 : Int32)), (.int (0 : Int32))]))
  rw [show ((8 : Int32) * (0 : Int32)) = (0 : Int32) from by decide]
  refine go (fun _ k => by refine XS.isub X1.here hx rfl (hb hby d_prog_6_method_4_code_21) rfl ?_; exact k) ?_
  show OwnEnd _ _ _ _ _ _ _ (T1.setTop (mkF m 22 (fL2 a0' p1 b1 (0 : Int32)) [(.int (p1 - (0 : Int32))), (.int (8 : Int32)), (.int (0 : Int32))]))
  obtain ⟨_, T2, L2, X2, hQ2, st2⟩ := callStat X1 hx hZ hown (hw _ (List.mem_of_getElem? (i := 10) rfl)) (hw _ (List.mem_of_getElem? (i := 11) rfl)) (hw _ (List.mem_of_getElem? (i := 12) rfl)) (hw _ (List.mem_of_getElem? (i := 13) rfl)) (by decide) (rm_min l Z a0 hw [] (8 : Int32) (p1 - (0 : Int32)) h1 n0 ) (W := 1) (by decide) (by decide) e1 (g := (mkF m 22 (fL2 a0' p1 b1 (0 : Int32)) [(.int (p1 - (0 : Int32))), (.int (8 : Int32)), (.int (0 : Int32))])) rfl (by rw [hml]; rfl) (argsL := [(.int (8 : Int32)), (.int (p1 - (0 : Int32)))]) (rest := [(.int (0 : Int32))]) rfl (lenOf pd__II_I rfl) rfl (by show 2 * 0 + _ ≤ _; exact Nat.le_of_eq rfl) (hb hby d_prog_6_method_4_code_22) (by decide) (by decide)
  obtain ⟨rfl, Nq2, eq2⟩ := hQ2
  have N2 := Fr.app N0 Nq2
  refine go st2 ?_
  show OwnEnd _ _ _ _ _ _ _ (T2.setTop (mkF m 25 (fL2 a0' p1 b1 (0 : Int32)) [(.int (own_min (8 : Int32) (p1 - (0 : Int32)))), (.int (0 : Int32))]))
  obtain ⟨_, T3, L3, X3, hQ3, st3⟩ := callStat X2 hx hZ hown (hw _ (List.mem_of_getElem? (i := 14) rfl)) (hw _ (List.mem_of_getElem? (i := 15) rfl)) (hw _ (List.mem_of_getElem? (i := 12) rfl)) (hw _ (List.mem_of_getElem? (i := 16) rfl)) (by decide) (rm_max l Z a0 hw [] (0 : Int32) (own_min (8 : Int32) (p1 - (0 : Int32))) h1 n0 ) (W := 0) (by decide) (by decide) eq2 (g := (mkF m 25 (fL2 a0' p1 b1 (0 : Int32)) [(.int (own_min (8 : Int32) (p1 - (0 : Int32)))), (.int (0 : Int32))])) rfl (by rw [hml]; rfl) (argsL := [(.int (0 : Int32)), (.int (own_min (8 : Int32) (p1 - (0 : Int32))))]) (rest := []) rfl (lenOf pd__II_I rfl) rfl (by show 2 * 0 + _ ≤ _; exact Nat.le_of_eq rfl) (hb hby d_prog_6_method_4_code_25) (by decide) (by decide)
  obtain ⟨rfl, Nq3, eq3⟩ := hQ3
  have N3 := Fr.app N2 Nq3
  refine go st3 ?_
  refine go (fun _ k => by refine XS.istore X3.here hx rfl (hb hby d_prog_6_method_4_code_28) rfl (l' := (fL3 a0' p1 b1 (0 : Int32) (own_max (0 : Int32) (own_min (8 : Int32) (p1 - (0 : Int32)))))) rfl ?_; exact k) ?_
  refine go (fun _ k => by refine XS.aloadN X3.here hx rfl (hb hby d_prog_6_method_4_code_30) rfl rfl ?_; exact k) ?_
  refine go (fun _ k => by refine XS.iloadN X3.here hx rfl (hb hby d_prog_6_method_4_code_31) rfl ?_; exact k) ?_
  show OwnEnd _ _ _ _ _ _ _ (T3.setTop (mkF m 32 (fL3 a0' p1 b1 (0 : Int32) (own_max (0 : Int32) (own_min (8 : Int32) (p1 - (0 : Int32))))) [(.int (0 : Int32)), (.ref b1)]))
  refine go (fun _ k => by refine XS.aloadN X3.here hx rfl (hb hby d_prog_6_method_4_code_32) rfl rfl ?_; exact k) ?_
  refine go (fun _ k => by refine XS.iloadN X3.here hx rfl (hb hby d_prog_6_method_4_code_33) rfl ?_; exact k) ?_
  show OwnEnd _ _ _ _ _ _ _ (T3.setTop (mkF m 34 (fL3 a0' p1 b1 (0 : Int32) (own_max (0 : Int32) (own_min (8 : Int32) (p1 - (0 : Int32))))) [(.int (0 : Int32)), (.ref a0'), (.int (0 : Int32)), (.ref b1)]))
  refine go (ldBv X3 hx hZ eq3 VA (j := (0 : Int32)) (i := 0) (w := y0) (by decide) (by decide) (by decide) rfl (g := (mkF m 34 (fL3 a0' p1 b1 (0 : Int32) (own_max (0 : Int32) (own_min (8 : Int32) (p1 - (0 : Int32))))) [(.int (0 : Int32)), (.ref a0'), (.int (0 : Int32)), (.ref b1)])) rfl rfl (hb hby d_prog_6_method_4_code_34)) ?_
  refine go (fun _ k => by refine XS.sipush X3.here hx rfl (hb hby d_prog_6_method_4_code_35) ?_; exact k) ?_
  refine go (fun _ k => by refine XS.bipush X3.here hx rfl (hb hby d_prog_6_method_4_code_38) ?_; exact k) ?_
  refine go (fun _ k => by refine XS.iload X3.here hx rfl (hb hby d_prog_6_method_4_code_40) rfl ?_; exact k) ?_
  show OwnEnd _ _ _ _ _ _ _ (T3.setTop (mkF m 42 (fL3 a0' p1 b1 (0 : Int32) (own_max (0 : Int32) (own_min (8 : Int32) (p1 - (0 : Int32))))) [(.int (own_max (0 : Int32) (own_min (8 : Int32) (p1 - (0 : Int32))))), (.int (8 : Int32)), (.int (255 : Int32)), (.int y0), (.int (0 : Int32)), (.ref b1)]))
  refine go (fun _ k => by refine XS.isub X3.here hx rfl (hb hby d_prog_6_method_4_code_42) rfl ?_; exact k) ?_
  refine go (fun _ k => by refine XS.ishl X3.here hx rfl (hb hby d_prog_6_method_4_code_43) rfl ?_; exact k) ?_
  refine go (fun _ k => by refine XS.iand X3.here hx rfl (hb hby d_prog_6_method_4_code_44) rfl ?_; exact k) ?_
  refine go (fun _ k => by refine XS.i2b X3.here hx rfl (hb hby d_prog_6_method_4_code_45) rfl ?_; exact k) ?_
  show OwnEnd _ _ _ _ _ _ _ (T3.setTop (mkF m 46 (fL3 a0' p1 b1 (0 : Int32) (own_max (0 : Int32) (own_min (8 : Int32) (p1 - (0 : Int32))))) [(.int ((y0 &&& ((255 : Int32) <<< (((8 : Int32) - (own_max (0 : Int32) (own_min (8 : Int32) (p1 - (0 : Int32))))) &&& 31))).toInt8.toInt32)), (.int (0 : Int32)), (.ref b1)]))
  obtain ⟨T4, h4, X4, e4, W4, V_b1', st4⟩ := stBv X3 hx hZ eq3 V_b1 (j := (0 : Int32)) (i := 0) (by decide) (by decide) (by decide) (Nat.le_of_ble_eq_true rfl) (g := (mkF m 46 (fL3 a0' p1 b1 (0 : Int32) (own_max (0 : Int32) (own_min (8 : Int32) (p1 - (0 : Int32))))) [(.int ((y0 &&& ((255 : Int32) <<< (((8 : Int32) - (own_max (0 : Int32) (own_min (8 : Int32) (p1 - (0 : Int32))))) &&& 31))).toInt8.toInt32)), (.int (0 : Int32)), (.ref b1)])) rfl rfl (hb hby d_prog_6_method_4_code_46)
  have N4 := Fr.snoc X4 N3 g_b1
  have VA := VA.other W4 ne_a0__b1
  have Z0 := Nat.le_trans Z0 (Keep.of_wr W4).1
  have KK := Keep.wr KK W4 (Or.inr sz_b1)
  have V_b1 : Arv Z h4 b1 k1 .byte (16 : Int32) [(.int (own_nb y0 p1 0)), (.int (0 : Int32)), (.int (0 : Int32)), (.int (0 : Int32)), (.int (0 : Int32)), (.int (0 : Int32)), (.int (0 : Int32)), (.int (0 : Int32)), (.int (0 : Int32)), (.int (0 : Int32)), (.int (0 : Int32)), (.int (0 : Int32)), (.int (0 : Int32)), (.int (0 : Int32)), (.int (0 : Int32)), (.int (0 : Int32))] (.int (0 : Int32)) := V_b1'
  refine go st4 ?_
  show OwnEnd _ _ _ _ _ _ _ (T4.setTop (mkF m 47 (fL3 a0' p1 b1 (0 : Int32) (own_max (0 : Int32) (own_min (8 : Int32) (p1 - (0 : Int32))))) []))
  refine go (fun _ k => by refine XS.iinc X4.here hx rfl (hb hby d_prog_6_method_4_code_47) rfl (l' := (fL3 a0' p1 b1 ((0 : Int32) + (1 : Int32)) (own_max (0 : Int32) (own_min (8 : Int32) (p1 - (0 : Int32)))))) rfl ?_; exact k) ?_
  show OwnEnd _ _ _ _ _ _ _ (T4.setTop (mkF m 50 (fL3 a0' p1 b1 ((0 : Int32) + (1 : Int32)) (own_max (0 : Int32) (own_min (8 : Int32) (p1 - (0 : Int32))))) []))
  rw [show ((0 : Int32) + (1 : Int32)) = (1 : Int32) from by decide]
  refine go (fun _ k => by refine XS.goto X4.here hx rfl (pc0 := 50) (pc' := 7) rfl (hb hby d_prog_6_method_4_code_50) (by decide) (by decide) ?_; exact k) ?_
  refine go (fun _ k => by refine XS.iloadN X4.here hx rfl (hb hby d_prog_6_method_4_code_7) rfl ?_; exact k) ?_
  refine go (fun _ k => by refine XS.aloadN X4.here hx rfl (hb hby d_prog_6_method_4_code_8) rfl rfl ?_; exact k) ?_
  show OwnEnd _ _ _ _ _ _ _ (T4.setTop (mkF m 9 (fL3 a0' p1 b1 (1 : Int32) (own_max (0 : Int32) (own_min (8 : Int32) (p1 - (0 : Int32))))) [(.ref a0'), (.int (1 : Int32))]))
  refine go (lenV X4 hx hZ e4 VA (g := (mkF m 9 (fL3 a0' p1 b1 (1 : Int32) (own_max (0 : Int32) (own_min (8 : Int32) (p1 - (0 : Int32))))) [(.ref a0'), (.int (1 : Int32))])) rfl rfl (hb hby d_prog_6_method_4_code_9)) ?_
  show OwnEnd _ _ _ _ _ _ _ (T4.setTop (mkF m 10 (fL3 a0' p1 b1 (1 : Int32) (own_max (0 : Int32) (own_min (8 : Int32) (p1 - (0 : Int32))))) [(.int (16 : Int32)), (.int (1 : Int32))]))
  refine go (fun _ k => by refine XS.icmpNo X4.here hx rfl (hb hby d_prog_6_method_4_code_10) rfl (tlt (by decide)).2.1 ?_; exact k) ?_
  refine go (fun _ k => by refine XS.iconst X4.here hx rfl (hb hby d_prog_6_method_4_code_13) ?_; exact k) ?_
  refine go (fun _ k => by refine XS.bipush X4.here hx rfl (hb hby d_prog_6_method_4_code_14) ?_; exact k) ?_
  refine go (fun _ k => by refine XS.iloadN X4.here hx rfl (hb hby d_prog_6_method_4_code_16) rfl ?_; exact k) ?_
  show OwnEnd _ _ _ _ _ _ _ (T4.setTop (mkF m 17 (fL3 a0' p1 b1 (1 : Int32) (own_max (0 : Int32) (own_min (8 : Int32) (p1 - (0 : Int32))))) [(.int p1), (.int (8 : Int32)), (.int (0 : Int32))]))
  refine go (fun _ k => by refine XS.bipush X4.here hx rfl (hb hby d_prog_6_method_4_code_17) ?_; exact k) ?_
  refine go (fun _ k => by refine XS.iloadN X4.here hx rfl (hb hby d_prog_6_method_4_code_19) rfl ?_; exact k) ?_
  refine go (fun _ k => by refine XS.imul X4.here hx rfl (hb hby d_prog_6_method_4_code_20) rfl ?_; exact k) ?_
  show OwnEnd _ _ _ _ _ _ _ (T4.setTop (mkF m 21 (fL3 a0' p1 b1 (1 : Int32) (own_max (0 : Int32) (own_min (8 : Int32) (p1 - (0 : Int32))))) [(.int ((8 : Int32) * (1 : Int32))), (.int p1), (.int (8 : Int32)), (.int (0 : Int32))]))
  rw [show ((8 : Int32) * (1 : Int32)) = (8 : Int32) from by decide]
  refine go (fun _ k => by refine XS.isub X4.here hx rfl (hb hby d_prog_6_method_4_code_21) rfl ?_; exact k) ?_
  show OwnEnd _ _ _ _ _ _ _ (T4.setTop (mkF m 22 (fL3 a0' p1 b1 (1 : Int32) (own_max (0 : Int32) (own_min (8 : Int32) (p1 - (0 : Int32))))) [(.int (p1 - (8 : Int32))), (.int (8 : Int32)), (.int (0 : Int32))]))
  obtain ⟨_, T5, L5, X5, hQ5, st5⟩ := callStat X4 hx hZ hown (hw _ (List.mem_of_getElem? (i := 10) rfl)) (hw _ (List.mem_of_getElem? (i := 11) rfl)) (hw _ (List.mem_of_getElem? (i := 12) rfl)) (hw _ (List.mem_of_getElem? (i := 13) rfl)) (by decide) (rm_min l Z a0 hw [] (8 : Int32) (p1 - (8 : Int32)) h4 n0 ) (W := 1) (by decide) (by decide) e4 (g := (mkF m 22 (fL3 a0' p1 b1 (1 : Int32) (own_max (0 : Int32) (own_min (8 : Int32) (p1 - (0 : Int32))))) [(.int (p1 - (8 : Int32))), (.int (8 : Int32)), (.int (0 : Int32))])) rfl (by rw [hml]; rfl) (argsL := [(.int (8 : Int32)), (.int (p1 - (8 : Int32)))]) (rest := [(.int (0 : Int32))]) rfl (lenOf pd__II_I rfl) rfl (by show 2 * 0 + _ ≤ _; exact Nat.le_of_eq rfl) (hb hby d_prog_6_method_4_code_22) (by decide) (by decide)
  obtain ⟨rfl, Nq5, eq5⟩ := hQ5
  have N5 := Fr.app N4 Nq5
  refine go st5 ?_
  show OwnEnd _ _ _ _ _ _ _ (T5.setTop (mkF m 25 (fL3 a0' p1 b1 (1 : Int32) (own_max (0 : Int32) (own_min (8 : Int32) (p1 - (0 : Int32))))) [(.int (own_min (8 : Int32) (p1 - (8 : Int32)))), (.int (0 : Int32))]))
  obtain ⟨_, T6, L6, X6, hQ6, st6⟩ := callStat X5 hx hZ hown (hw _ (List.mem_of_getElem? (i := 14) rfl)) (hw _ (List.mem_of_getElem? (i := 15) rfl)) (hw _ (List.mem_of_getElem? (i := 12) rfl)) (hw _ (List.mem_of_getElem? (i := 16) rfl)) (by decide) (rm_max l Z a0 hw [] (0 : Int32) (own_min (8 : Int32) (p1 - (8 : Int32))) h4 n0 ) (W := 0) (by decide) (by decide) eq5 (g := (mkF m 25 (fL3 a0' p1 b1 (1 : Int32) (own_max (0 : Int32) (own_min (8 : Int32) (p1 - (0 : Int32))))) [(.int (own_min (8 : Int32) (p1 - (8 : Int32)))), (.int (0 : Int32))])) rfl (by rw [hml]; rfl) (argsL := [(.int (0 : Int32)), (.int (own_min (8 : Int32) (p1 - (8 : Int32))))]) (rest := []) rfl (lenOf pd__II_I rfl) rfl (by show 2 * 0 + _ ≤ _; exact Nat.le_of_eq rfl) (hb hby d_prog_6_method_4_code_25) (by decide) (by decide)
  obtain ⟨rfl, Nq6, eq6⟩ := hQ6
  have N6 := Fr.app N5 Nq6
  refine go st6 ?_
  refine go (fun _ k => by refine XS.istore X6.here hx rfl (hb hby d_prog_6_method_4_code_28) rfl (l' := (fL3 a0' p1 b1 (1 : Int32) (own_max (0 : Int32) (own_min (8 : Int32) (p1 - (8 : Int32)))))) rfl ?_; exact k) ?_
  refine go (fun _ k => by refine XS.aloadN X6.here hx rfl (hb hby d_prog_6_method_4_code_30) rfl rfl ?_; exact k) ?_
  refine go (fun _ k => by refine XS.iloadN X6.here hx rfl (hb hby d_prog_6_method_4_code_31) rfl ?_; exact k) ?_
  show OwnEnd _ _ _ _ _ _ _ (T6.setTop (mkF m 32 (fL3 a0' p1 b1 (1 : Int32) (own_max (0 : Int32) (own_min (8 : Int32) (p1 - (8 : Int32))))) [(.int (1 : Int32)), (.ref b1)]))
  refine go (fun _ k => by refine XS.aloadN X6.here hx rfl (hb hby d_prog_6_method_4_code_32) rfl rfl ?_; exact k) ?_
  refine go (fun _ k => by refine XS.iloadN X6.here hx rfl (hb hby d_prog_6_method_4_code_33) rfl ?_; exact k) ?_
  show OwnEnd _ _ _ _ _ _ _ (T6.setTop (mkF m 34 (fL3 a0' p1 b1 (1 : Int32) (own_max (0 : Int32) (own_min (8 : Int32) (p1 - (8 : Int32))))) [(.int (1 : Int32)), (.ref a0'), (.int (1 : Int32)), (.ref b1)]))
  refine go (ldBv X6 hx hZ eq6 VA (j := (1 : Int32)) (i := 1) (w := y1) (by decide) (by decide) (by decide) rfl (g := (mkF m 34 (fL3 a0' p1 b1 (1 : Int32) (own_max (0 : Int32) (own_min (8 : Int32) (p1 - (8 : Int32))))) [(.int (1 : Int32)), (.ref a0'), (.int (1 : Int32)), (.ref b1)])) rfl rfl (hb hby d_prog_6_method_4_code_34)) ?_
  refine go (fun _ k => by refine XS.sipush X6.here hx rfl (hb hby d_prog_6_method_4_code_35) ?_; exact k) ?_
  refine go (fun _ k => by refine XS.bipush X6.here hx rfl (hb hby d_prog_6_method_4_code_38) ?_; exact k) ?_
  refine go (fun _ k => by refine XS.iload X6.here hx rfl (hb hby d_prog_6_method_4_code_40) rfl ?_; exact k) ?_
  show OwnEnd _ _ _ _ _ _ _ (T6.setTop (mkF m 42 (fL3 a0' p1 b1 (1 : Int32) (own_max (0 : Int32) (own_min (8 : Int32) (p1 - (8 : Int32))))) [(.int (own_max (0 : Int32) (own_min (8 : Int32) (p1 - (8 : Int32))))), (.int (8 : Int32)), (.int (255 : Int32)), (.int y1), (.int (1 : Int32)), (.ref b1)]))
  refine go (fun _ k => by refine XS.isub X6.here hx rfl (hb hby d_prog_6_method_4_code_42) rfl ?_; exact k) ?_
  refine go (fun _ k => by refine XS.ishl X6.here hx rfl (hb hby d_prog_6_method_4_code_43) rfl ?_; exact k) ?_
  refine go (fun _ k => by refine XS.iand X6.here hx rfl (hb hby d_prog_6_method_4_code_44) rfl ?_; exact k) ?_
  refine go (fun _ k => by refine XS.i2b X6.here hx rfl (hb hby d_prog_6_method_4_code_45) rfl ?_; exact k) ?_
  show OwnEnd _ _ _ _ _ _ _ (T6.setTop (mkF m 46 (fL3 a0' p1 b1 (1 : Int32) (own_max (0 : Int32) (own_min (8 : Int32) (p1 - (8 : Int32))))) [(.int ((y1 &&& ((255 : Int32) <<< (((8 : Int32) - (own_max (0 : Int32) (own_min (8 : Int32) (p1 - (8 : Int32))))) &&& 31))).toInt8.toInt32)), (.int (1 : Int32)), (.ref b1)]))
  obtain ⟨T7, h7, X7, e7, W7, V_b1', st7⟩ := stBv X6 hx hZ eq6 V_b1 (j := (1 : Int32)) (i := 1) (by decide) (by decide) (by decide) (Nat.le_of_ble_eq_true rfl) (g := (mkF m 46 (fL3 a0' p1 b1 (1 : Int32) (own_max (0 : Int32) (own_min (8 : Int32) (p1 - (8 : Int32))))) [(.int ((y1 &&& ((255 : Int32) <<< (((8 : Int32) - (own_max (0 : Int32) (own_min (8 : Int32) (p1 - (8 : Int32))))) &&& 31))).toInt8.toInt32)), (.int (1 : Int32)), (.ref b1)])) rfl rfl (hb hby d_prog_6_method_4_code_46)
  have N7 := Fr.snoc X7 N6 g_b1
  have VA := VA.other W7 ne_a0__b1
  have Z0 := Nat.le_trans Z0 (Keep.of_wr W7).1
  have KK := Keep.wr KK W7 (Or.inr sz_b1)
  have V_b1 : Arv Z h7 b1 k1 .byte (16 : Int32) [(.int (own_nb y0 p1 0)), (.int (own_nb y1 p1 8)), (.int (0 : Int32)), (.int (0 : Int32)), (.int (0 : Int32)), (.int (0 : Int32)), (.int (0 : Int32)), (.int (0 : Int32)), (.int (0 : Int32)), (.int (0 : Int32)), (.int (0 : Int32)), (.int (0 : Int32)), (.int (0 : Int32)), (.int (0 : Int32)), (.int (0 : Int32)), (.int (0 : Int32))] (.int (0 : Int32)) := V_b1'
  refine go st7 ?_
  show OwnEnd _ _ _ _ _ _ _ (T7.setTop (mkF m 47 (fL3 a0' p1 b1 (1 : Int32) (own_max (0 : Int32) (own_min (8 : Int32) (p1 - (8 : Int32))))) []))
  refine go (fun _ k => by refine XS.iinc X7.here hx rfl (hb hby d_prog_6_method_4_code_47) rfl (l' := (fL3 a0' p1 b1 ((1 : Int32) + (1 : Int32)) (own_max (0 : Int32) (own_min (8 : Int32) (p1 - (8 : Int32)))))) rfl ?_; exact k) ?_
  show OwnEnd _ _ _ _ _ _ _ (T7.setTop (mkF m 50 (fL3 a0' p1 b1 ((1 : Int32) + (1 : Int32)) (own_max (0 : Int32) (own_min (8 : Int32) (p1 - (8 : Int32))))) []))
  rw [show ((1 : Int32) + (1 : Int32)) = (2 : Int32) from by decide]
  refine go (fun _ k => by refine XS.goto X7.here hx rfl (pc0 := 50) (pc' := 7) rfl (hb hby d_prog_6_method_4_code_50) (by decide) (by decide) ?_; exact k) ?_
  refine go (fun _ k => by refine XS.iloadN X7.here hx rfl (hb hby d_prog_6_method_4_code_7) rfl ?_; exact k) ?_
  refine go (fun _ k => by refine XS.aloadN X7.here hx rfl (hb hby d_prog_6_method_4_code_8) rfl rfl ?_; exact k) ?_
  show OwnEnd _ _ _ _ _ _ _ (T7.setTop (mkF m 9 (fL3 a0' p1 b1 (2 : Int32) (own_max (0 : Int32) (own_min (8 : Int32) (p1 - (8 : Int32))))) [(.ref a0'), (.int (2 : Int32))]))
  refine go (lenV X7 hx hZ e7 VA (g := (mkF m 9 (fL3 a0' p1 b1 (2 : Int32) (own_max (0 : Int32) (own_min (8 : Int32) (p1 - (8 : Int32))))) [(.ref a0'), (.int (2 : Int32))])) rfl rfl (hb hby d_prog_6_method_4_code_9)) ?_
  show OwnEnd _ _ _ _ _ _ _ (T7.setTop (mkF m 10 (fL3 a0' p1 b1 (2 : Int32) (own_max (0 : Int32) (own_min (8 : Int32) (p1 - (8 : Int32))))) [(.int (16 : Int32)), (.int (2 : Int32))]))
  refine go (fun _ k => by refine XS.icmpNo X7.here hx rfl (hb hby d_prog_6_method_4_code_10) rfl (tlt (by decide)).2.1 ?_; exact k) ?_
  refine go (fun _ k => by refine XS.iconst X7.here hx rfl (hb hby d_prog_6_method_4_code_13) ?_; exact k) ?_
  refine go (fun _ k => by refine XS.bipush X7.here hx rfl (hb hby d_prog_6_method_4_code_14) ?_; exact k) ?_
  refine go (fun _ k => by refine XS.iloadN X7.here hx rfl (hb hby d_prog_6_method_4_code_16) rfl ?_; exact k) ?_
  show OwnEnd _ _ _ _ _ _ _ (T7.setTop (mkF m 17 (fL3 a0' p1 b1 (2 : Int32) (own_max (0 : Int32) (own_min (8 : Int32) (p1 - (8 : Int32))))) [(.int p1), (.int (8 : Int32)), (.int (0 : Int32))]))
  refine go (fun _ k => by refine XS.bipush X7.here hx rfl (hb hby d_prog_6_method_4_code_17) ?_; exact k) ?_
  refine go (fun _ k => by refine XS.iloadN X7.here hx rfl (hb hby d_prog_6_method_4_code_19) rfl ?_; exact k) ?_
  refine go (fun _ k => by refine XS.imul X7.here hx rfl (hb hby d_prog_6_method_4_code_20) rfl ?_; exact k) ?_
  show OwnEnd _ _ _ _ _ _ _ (T7.setTop (mkF m 21 (fL3 a0' p1 b1 (2 : Int32) (own_max (0 : Int32) (own_min (8 : Int32) (p1 - (8 : Int32))))) [(.int ((8 : Int32) * (2 : Int32))), (.int p1), (.int (8 : Int32)), (.int (0 : Int32))]))
  rw [show ((8 : Int32) * (2 : Int32)) = (16 : Int32) from by decide]
  refine go (fun _ k => by refine XS.isub X7.here hx rfl (hb hby d_prog_6_method_4_code_21) rfl ?_; exact k) ?_
  show OwnEnd _ _ _ _ _ _ _ (T7.setTop (mkF m 22 (fL3 a0' p1 b1 (2 : Int32) (own_max (0 : Int32) (own_min (8 : Int32) (p1 - (8 : Int32))))) [(.int (p1 - (16 : Int32))), (.int (8 : Int32)), (.int (0 : Int32))]))
  obtain ⟨_, T8, L8, X8, hQ8, st8⟩ := callStat X7 hx hZ hown (hw _ (List.mem_of_getElem? (i := 10) rfl)) (hw _ (List.mem_of_getElem? (i := 11) rfl)) (hw _ (List.mem_of_getElem? (i := 12) rfl)) (hw _ (List.mem_of_getElem? (i := 13) rfl)) (by decide) (rm_min l Z a0 hw [] (8 : Int32) (p1 - (16 : Int32)) h7 n0 ) (W := 1) (by decide) (by decide) e7 (g := (mkF m 22 (fL3 a0' p1 b1 (2 : Int32) (own_max (0 : Int32) (own_min (8 : Int32) (p1 - (8 : Int32))))) [(.int (p1 - (16 : Int32))), (.int (8 : Int32)), (.int (0 : Int32))])) rfl (by rw [hml]; rfl) (argsL := [(.int (8 : Int32)), (.int (p1 - (16 : Int32)))]) (rest := [(.int (0 : Int32))]) rfl (lenOf pd__II_I rfl) rfl (by show 2 * 0 + _ ≤ _; exact Nat.le_of_eq rfl) (hb hby d_prog_6_method_4_code_22) (by decide) (by decide)
  obtain ⟨rfl, Nq8, eq8⟩ := hQ8
  have N8 := Fr.app N7 Nq8
  refine go st8 ?_
  show OwnEnd _ _ _ _ _ _ _ (T8.setTop (mkF m 25 (fL3 a0' p1 b1 (2 : Int32) (own_max (0 : Int32) (own_min (8 : Int32) (p1 - (8 : Int32))))) [(.int (own_min (8 : Int32) (p1 - (16 : Int32)))), (.int (0 : Int32))]))
  obtain ⟨_, T9, L9, X9, hQ9, st9⟩ := callStat X8 hx hZ hown (hw _ (List.mem_of_getElem? (i := 14) rfl)) (hw _ (List.mem_of_getElem? (i := 15) rfl)) (hw _ (List.mem_of_getElem? (i := 12) rfl)) (hw _ (List.mem_of_getElem? (i := 16) rfl)) (by decide) (rm_max l Z a0 hw [] (0 : Int32) (own_min (8 : Int32) (p1 - (16 : Int32))) h7 n0 ) (W := 0) (by decide) (by decide) eq8 (g := (mkF m 25 (fL3 a0' p1 b1 (2 : Int32) (own_max (0 : Int32) (own_min (8 : Int32) (p1 - (8 : Int32))))) [(.int (own_min (8 : Int32) (p1 - (16 : Int32)))), (.int (0 : Int32))])) rfl (by rw [hml]; rfl) (argsL := [(.int (0 : Int32)), (.int (own_min (8 : Int32) (p1 - (16 : Int32))))]) (rest := []) rfl (lenOf pd__II_I rfl) rfl (by show 2 * 0 + _ ≤ _; exact Nat.le_of_eq rfl) (hb hby d_prog_6_method_4_code_25) (by decide) (by decide)
  obtain ⟨rfl, Nq9, eq9⟩ := hQ9
  have N9 := Fr.app N8 Nq9
  refine go st9 ?_
  refine go (fun _ k => by refine XS.istore X9.here hx rfl (hb hby d_prog_6_method_4_code_28) rfl (l' := (fL3 a0' p1 b1 (2 : Int32) (own_max (0 : Int32) (own_min (8 : Int32) (p1 - (16 : Int32)))))) rfl ?_; exact k) ?_
  refine go (fun _ k => by refine XS.aloadN X9.here hx rfl (hb hby d_prog_6_method_4_code_30) rfl rfl ?_; exact k) ?_
  refine go (fun _ k => by refine XS.iloadN X9.here hx rfl (hb hby d_prog_6_method_4_code_31) rfl ?_; exact k) ?_
  show OwnEnd _ _ _ _ _ _ _ (T9.setTop (mkF m 32 (fL3 a0' p1 b1 (2 : Int32) (own_max (0 : Int32) (own_min (8 : Int32) (p1 - (16 : Int32))))) [(.int (2 : Int32)), (.ref b1)]))
  refine go (fun _ k => by refine XS.aloadN X9.here hx rfl (hb hby d_prog_6_method_4_code_32) rfl rfl ?_; exact k) ?_
  refine go (fun _ k => by refine XS.iloadN X9.here hx rfl (hb hby d_prog_6_method_4_code_33) rfl ?_; exact k) ?_
  show OwnEnd _ _ _ _ _ _ _ (T9.setTop (mkF m 34 (fL3 a0' p1 b1 (2 : Int32) (own_max (0 : Int32) (own_min (8 : Int32) (p1 - (16 : Int32))))) [(.int (2 : Int32)), (.ref a0'), (.int (2 : Int32)), (.ref b1)]))
  refine go (ldBv X9 hx hZ eq9 VA (j := (2 : Int32)) (i := 2) (w := y2) (by decide) (by decide) (by decide) rfl (g := (mkF m 34 (fL3 a0' p1 b1 (2 : Int32) (own_max (0 : Int32) (own_min (8 : Int32) (p1 - (16 : Int32))))) [(.int (2 : Int32)), (.ref a0'), (.int (2 : Int32)), (.ref b1)])) rfl rfl (hb hby d_prog_6_method_4_code_34)) ?_
  refine go (fun _ k => by refine XS.sipush X9.here hx rfl (hb hby d_prog_6_method_4_code_35) ?_; exact k) ?_
  refine go (fun _ k => by refine XS.bipush X9.here hx rfl (hb hby d_prog_6_method_4_code_38) ?_; exact k) ?_
  refine go (fun _ k => by refine XS.iload X9.here hx rfl (hb hby d_prog_6_method_4_code_40) rfl ?_; exact k) ?_
  show OwnEnd _ _ _ _ _ _ _ (T9.setTop (mkF m 42 (fL3 a0' p1 b1 (2 : Int32) (own_max (0 : Int32) (own_min (8 : Int32) (p1 - (16 : Int32))))) [(.int (own_max (0 : Int32) (own_min (8 : Int32) (p1 - (16 : Int32))))), (.int (8 : Int32)), (.int (255 : Int32)), (.int y2), (.int (2 : Int32)), (.ref b1)]))
  refine go (fun _ k => by refine XS.isub X9.here hx rfl (hb hby d_prog_6_method_4_code_42) rfl ?_; exact k) ?_
  refine go (fun _ k => by refine XS.ishl X9.here hx rfl (hb hby d_prog_6_method_4_code_43) rfl ?_; exact k) ?_
  refine go (fun _ k => by refine XS.iand X9.here hx rfl (hb hby d_prog_6_method_4_code_44) rfl ?_; exact k) ?_
  refine go (fun _ k => by refine XS.i2b X9.here hx rfl (hb hby d_prog_6_method_4_code_45) rfl ?_; exact k) ?_
  show OwnEnd _ _ _ _ _ _ _ (T9.setTop (mkF m 46 (fL3 a0' p1 b1 (2 : Int32) (own_max (0 : Int32) (own_min (8 : Int32) (p1 - (16 : Int32))))) [(.int ((y2 &&& ((255 : Int32) <<< (((8 : Int32) - (own_max (0 : Int32) (own_min (8 : Int32) (p1 - (16 : Int32))))) &&& 31))).toInt8.toInt32)), (.int (2 : Int32)), (.ref b1)]))
  obtain ⟨T10, h10, X10, e10, W10, V_b1', st10⟩ := stBv X9 hx hZ eq9 V_b1 (j := (2 : Int32)) (i := 2) (by decide) (by decide) (by decide) (Nat.le_of_ble_eq_true rfl) (g := (mkF m 46 (fL3 a0' p1 b1 (2 : Int32) (own_max (0 : Int32) (own_min (8 : Int32) (p1 - (16 : Int32))))) [(.int ((y2 &&& ((255 : Int32) <<< (((8 : Int32) - (own_max (0 : Int32) (own_min (8 : Int32) (p1 - (16 : Int32))))) &&& 31))).toInt8.toInt32)), (.int (2 : Int32)), (.ref b1)])) rfl rfl (hb hby d_prog_6_method_4_code_46)
  have N10 := Fr.snoc X10 N9 g_b1
  have VA := VA.other W10 ne_a0__b1
  have Z0 := Nat.le_trans Z0 (Keep.of_wr W10).1
  have KK := Keep.wr KK W10 (Or.inr sz_b1)
  have V_b1 : Arv Z h10 b1 k1 .byte (16 : Int32) [(.int (own_nb y0 p1 0)), (.int (own_nb y1 p1 8)), (.int (own_nb y2 p1 16)), (.int (0 : Int32)), (.int (0 : Int32)), (.int (0 : Int32)), (.int (0 : Int32)), (.int (0 : Int32)), (.int (0 : Int32)), (.int (0 : Int32)), (.int (0 : Int32)), (.int (0 : Int32)), (.int (0 : Int32)), (.int (0 : Int32)), (.int (0 : Int32)), (.int (0 : Int32))] (.int (0 : Int32)) := V_b1'
  refine go st10 ?_
  show OwnEnd _ _ _ _ _ _ _ (T10.setTop (mkF m 47 (fL3 a0' p1 b1 (2 : Int32) (own_max (0 : Int32) (own_min (8 : Int32) (p1 - (16 : Int32))))) []))
  refine go (fun _ k => by refine XS.iinc X10.here hx rfl (hb hby d_prog_6_method_4_code_47) rfl (l' := (fL3 a0' p1 b1 ((2 : Int32) + (1 : Int32)) (own_max (0 : Int32) (own_min (8 : Int32) (p1 - (16 : Int32)))))) rfl ?_; exact k) ?_
  show OwnEnd _ _ _ _ _ _ _ (T10.setTop (mkF m 50 (fL3 a0' p1 b1 ((2 : Int32) + (1 : Int32)) (own_max (0 : Int32) (own_min (8 : Int32) (p1 - (16 : Int32))))) []))
  rw [show ((2 : Int32) + (1 : Int32)) = (3 : Int32) from by decide]
  refine go (fun _ k => by refine XS.goto X10.here hx rfl (pc0 := 50) (pc' := 7) rfl (hb hby d_prog_6_method_4_code_50) (by decide) (by decide) ?_; exact k) ?_
  refine go (fun _ k => by refine XS.iloadN X10.here hx rfl (hb hby d_prog_6_method_4_code_7) rfl ?_; exact k) ?_
  refine go (fun _ k => by refine XS.aloadN X10.here hx rfl (hb hby d_prog_6_method_4_code_8) rfl rfl ?_; exact k) ?_
  show OwnEnd _ _ _ _ _ _ _ (T10.setTop (mkF m 9 (fL3 a0' p1 b1 (3 : Int32) (own_max (0 : Int32) (own_min (8 : Int32) (p1 - (16 : Int32))))) [(.ref a0'), (.int (3 : Int32))]))
  refine go (lenV X10 hx hZ e10 VA (g := (mkF m 9 (fL3 a0' p1 b1 (3 : Int32) (own_max (0 : Int32) (own_min (8 : Int32) (p1 - (16 : Int32))))) [(.ref a0'), (.int (3 : Int32))])) rfl rfl (hb hby d_prog_6_method_4_code_9)) ?_
  show OwnEnd _ _ _ _ _ _ _ (T10.setTop (mkF m 10 (fL3 a0' p1 b1 (3 : Int32) (own_max (0 : Int32) (own_min (8 : Int32) (p1 - (16 : Int32))))) [(.int (16 : Int32)), (.int (3 : Int32))]))
  refine go (fun _ k => by refine XS.icmpNo X10.here hx rfl (hb hby d_prog_6_method_4_code_10) rfl (tlt (by decide)).2.1 ?_; exact k) ?_
  refine go (fun _ k => by refine XS.iconst X10.here hx rfl (hb hby d_prog_6_method_4_code_13) ?_; exact k) ?_
  refine go (fun _ k => by refine XS.bipush X10.here hx rfl (hb hby d_prog_6_method_4_code_14) ?_; exact k) ?_
  refine go (fun _ k => by refine XS.iloadN X10.here hx rfl (hb hby d_prog_6_method_4_code_16) rfl ?_; exact k) ?_
  show OwnEnd _ _ _ _ _ _ _ (T10.setTop (mkF m 17 (fL3 a0' p1 b1 (3 : Int32) (own_max (0 : Int32) (own_min (8 : Int32) (p1 - (16 : Int32))))) [(.int p1), (.int (8 : Int32)), (.int (0 : Int32))]))
  refine go (fun _ k => by refine XS.bipush X10.here hx rfl (hb hby d_prog_6_method_4_code_17) ?_; exact k) ?_
  refine go (fun _ k => by refine XS.iloadN X10.here hx rfl (hb hby d_prog_6_method_4_code_19) rfl ?_; exact k) ?_
  refine go (fun _ k => by refine XS.imul X10.here hx rfl (hb hby d_prog_6_method_4_code_20) rfl ?_; exact k) ?_
  show OwnEnd _ _ _ _ _ _ _ (T10.setTop (mkF m 21 (fL3 a0' p1 b1 (3 : Int32) (own_max (0 : Int32) (own_min (8 : Int32) (p1 - (16 : Int32))))) [(.int ((8 : Int32) * (3 : Int32))), (.int p1), (.int (8 : Int32)), (.int (0 : Int32))]))
  rw [show ((8 : Int32) * (3 : Int32)) = (24 : Int32) from by decide]
  refine go (fun _ k => by refine XS.isub X10.here hx rfl (hb hby d_prog_6_method_4_code_21) rfl ?_; exact k) ?_
  show OwnEnd _ _ _ _ _ _ _ (T10.setTop (mkF m 22 (fL3 a0' p1 b1 (3 : Int32) (own_max (0 : Int32) (own_min (8 : Int32) (p1 - (16 : Int32))))) [(.int (p1 - (24 : Int32))), (.int (8 : Int32)), (.int (0 : Int32))]))
  obtain ⟨_, T11, L11, X11, hQ11, st11⟩ := callStat X10 hx hZ hown (hw _ (List.mem_of_getElem? (i := 10) rfl)) (hw _ (List.mem_of_getElem? (i := 11) rfl)) (hw _ (List.mem_of_getElem? (i := 12) rfl)) (hw _ (List.mem_of_getElem? (i := 13) rfl)) (by decide) (rm_min l Z a0 hw [] (8 : Int32) (p1 - (24 : Int32)) h10 n0 ) (W := 1) (by decide) (by decide) e10 (g := (mkF m 22 (fL3 a0' p1 b1 (3 : Int32) (own_max (0 : Int32) (own_min (8 : Int32) (p1 - (16 : Int32))))) [(.int (p1 - (24 : Int32))), (.int (8 : Int32)), (.int (0 : Int32))])) rfl (by rw [hml]; rfl) (argsL := [(.int (8 : Int32)), (.int (p1 - (24 : Int32)))]) (rest := [(.int (0 : Int32))]) rfl (lenOf pd__II_I rfl) rfl (by show 2 * 0 + _ ≤ _; exact Nat.le_of_eq rfl) (hb hby d_prog_6_method_4_code_22) (by decide) (by decide)
  obtain ⟨rfl, Nq11, eq11⟩ := hQ11
  have N11 := Fr.app N10 Nq11
  refine go st11 ?_
  show OwnEnd _ _ _ _ _ _ _ (T11.setTop (mkF m 25 (fL3 a0' p1 b1 (3 : Int32) (own_max (0 : Int32) (own_min (8 : Int32) (p1 - (16 : Int32))))) [(.int (own_min (8 : Int32) (p1 - (24 : Int32)))), (.int (0 : Int32))]))
  obtain ⟨_, T12, L12, X12, hQ12, st12⟩ := callStat X11 hx hZ hown (hw _ (List.mem_of_getElem? (i := 14) rfl)) (hw _ (List.mem_of_getElem? (i := 15) rfl)) (hw _ (List.mem_of_getElem? (i := 12) rfl)) (hw _ (List.mem_of_getElem? (i := 16) rfl)) (by decide) (rm_max l Z a0 hw [] (0 : Int32) (own_min (8 : Int32) (p1 - (24 : Int32))) h10 n0 ) (W := 0) (by decide) (by decide) eq11 (g := (mkF m 25 (fL3 a0' p1 b1 (3 : Int32) (own_max (0 : Int32) (own_min (8 : Int32) (p1 - (16 : Int32))))) [(.int (own_min (8 : Int32) (p1 - (24 : Int32)))), (.int (0 : Int32))])) rfl (by rw [hml]; rfl) (argsL := [(.int (0 : Int32)), (.int (own_min (8 : Int32) (p1 - (24 : Int32))))]) (rest := []) rfl (lenOf pd__II_I rfl) rfl (by show 2 * 0 + _ ≤ _; exact Nat.le_of_eq rfl) (hb hby d_prog_6_method_4_code_25) (by decide) (by decide)
  obtain ⟨rfl, Nq12, eq12⟩ := hQ12
  have N12 := Fr.app N11 Nq12
  refine go st12 ?_
  refine go (fun _ k => by refine XS.istore X12.here hx rfl (hb hby d_prog_6_method_4_code_28) rfl (l' := (fL3 a0' p1 b1 (3 : Int32) (own_max (0 : Int32) (own_min (8 : Int32) (p1 - (24 : Int32)))))) rfl ?_; exact k) ?_
  refine go (fun _ k => by refine XS.aloadN X12.here hx rfl (hb hby d_prog_6_method_4_code_30) rfl rfl ?_; exact k) ?_
  refine go (fun _ k => by refine XS.iloadN X12.here hx rfl (hb hby d_prog_6_method_4_code_31) rfl ?_; exact k) ?_
  show OwnEnd _ _ _ _ _ _ _ (T12.setTop (mkF m 32 (fL3 a0' p1 b1 (3 : Int32) (own_max (0 : Int32) (own_min (8 : Int32) (p1 - (24 : Int32))))) [(.int (3 : Int32)), (.ref b1)]))
  refine go (fun _ k => by refine XS.aloadN X12.here hx rfl (hb hby d_prog_6_method_4_code_32) rfl rfl ?_; exact k) ?_
  refine go (fun _ k => by refine XS.iloadN X12.here hx rfl (hb hby d_prog_6_method_4_code_33) rfl ?_; exact k) ?_
  show OwnEnd _ _ _ _ _ _ _ (T12.setTop (mkF m 34 (fL3 a0' p1 b1 (3 : Int32) (own_max (0 : Int32) (own_min (8 : Int32) (p1 - (24 : Int32))))) [(.int (3 : Int32)), (.ref a0'), (.int (3 : Int32)), (.ref b1)]))
  refine go (ldBv X12 hx hZ eq12 VA (j := (3 : Int32)) (i := 3) (w := y3) (by decide) (by decide) (by decide) rfl (g := (mkF m 34 (fL3 a0' p1 b1 (3 : Int32) (own_max (0 : Int32) (own_min (8 : Int32) (p1 - (24 : Int32))))) [(.int (3 : Int32)), (.ref a0'), (.int (3 : Int32)), (.ref b1)])) rfl rfl (hb hby d_prog_6_method_4_code_34)) ?_
  refine go (fun _ k => by refine XS.sipush X12.here hx rfl (hb hby d_prog_6_method_4_code_35) ?_; exact k) ?_
  refine go (fun _ k => by refine XS.bipush X12.here hx rfl (hb hby d_prog_6_method_4_code_38) ?_; exact k) ?_
  refine go (fun _ k => by refine XS.iload X12.here hx rfl (hb hby d_prog_6_method_4_code_40) rfl ?_; exact k) ?_
  show OwnEnd _ _ _ _ _ _ _ (T12.setTop (mkF m 42 (fL3 a0' p1 b1 (3 : Int32) (own_max (0 : Int32) (own_min (8 : Int32) (p1 - (24 : Int32))))) [(.int (own_max (0 : Int32) (own_min (8 : Int32) (p1 - (24 : Int32))))), (.int (8 : Int32)), (.int (255 : Int32)), (.int y3), (.int (3 : Int32)), (.ref b1)]))
  refine go (fun _ k => by refine XS.isub X12.here hx rfl (hb hby d_prog_6_method_4_code_42) rfl ?_; exact k) ?_
  refine go (fun _ k => by refine XS.ishl X12.here hx rfl (hb hby d_prog_6_method_4_code_43) rfl ?_; exact k) ?_
  refine go (fun _ k => by refine XS.iand X12.here hx rfl (hb hby d_prog_6_method_4_code_44) rfl ?_; exact k) ?_
  refine go (fun _ k => by refine XS.i2b X12.here hx rfl (hb hby d_prog_6_method_4_code_45) rfl ?_; exact k) ?_
  show OwnEnd _ _ _ _ _ _ _ (T12.setTop (mkF m 46 (fL3 a0' p1 b1 (3 : Int32) (own_max (0 : Int32) (own_min (8 : Int32) (p1 - (24 : Int32))))) [(.int ((y3 &&& ((255 : Int32) <<< (((8 : Int32) - (own_max (0 : Int32) (own_min (8 : Int32) (p1 - (24 : Int32))))) &&& 31))).toInt8.toInt32)), (.int (3 : Int32)), (.ref b1)]))
  obtain ⟨T13, h13, X13, e13, W13, V_b1', st13⟩ := stBv X12 hx hZ eq12 V_b1 (j := (3 : Int32)) (i := 3) (by decide) (by decide) (by decide) (Nat.le_of_ble_eq_true rfl) (g := (mkF m 46 (fL3 a0' p1 b1 (3 : Int32) (own_max (0 : Int32) (own_min (8 : Int32) (p1 - (24 : Int32))))) [(.int ((y3 &&& ((255 : Int32) <<< (((8 : Int32) - (own_max (0 : Int32) (own_min (8 : Int32) (p1 - (24 : Int32))))) &&& 31))).toInt8.toInt32)), (.int (3 : Int32)), (.ref b1)])) rfl rfl (hb hby d_prog_6_method_4_code_46)
  have N13 := Fr.snoc X13 N12 g_b1
  have VA := VA.other W13 ne_a0__b1
  have Z0 := Nat.le_trans Z0 (Keep.of_wr W13).1
  have KK := Keep.wr KK W13 (Or.inr sz_b1)
  have V_b1 : Arv Z h13 b1 k1 .byte (16 : Int32) [(.int (own_nb y0 p1 0)), (.int (own_nb y1 p1 8)), (.int (own_nb y2 p1 16)), (.int (own_nb y3 p1 24)), (.int (0 : Int32)), (.int (0 : Int32)), (.int (0 : Int32)), (.int (0 : Int32)), (.int (0 : Int32)), (.int (0 : Int32)), (.int (0 : Int32)), (.int (0 : Int32)), (.int (0 : Int32)), (.int (0 : Int32)), (.int (0 : Int32)), (.int (0 : Int32))] (.int (0 : Int32)) := V_b1'
  refine go st13 ?_
  show OwnEnd _ _ _ _ _ _ _ (T13.setTop (mkF m 47 (fL3 a0' p1 b1 (3 : Int32) (own_max (0 : Int32) (own_min (8 : Int32) (p1 - (24 : Int32))))) []))
  refine go (fun _ k => by refine XS.iinc X13.here hx rfl (hb hby d_prog_6_method_4_code_47) rfl (l' := (fL3 a0' p1 b1 ((3 : Int32) + (1 : Int32)) (own_max (0 : Int32) (own_min (8 : Int32) (p1 - (24 : Int32)))))) rfl ?_; exact k) ?_
  show OwnEnd _ _ _ _ _ _ _ (T13.setTop (mkF m 50 (fL3 a0' p1 b1 ((3 : Int32) + (1 : Int32)) (own_max (0 : Int32) (own_min (8 : Int32) (p1 - (24 : Int32))))) []))
  rw [show ((3 : Int32) + (1 : Int32)) = (4 : Int32) from by decide]
  refine go (fun _ k => by refine XS.goto X13.here hx rfl (pc0 := 50) (pc' := 7) rfl (hb hby d_prog_6_method_4_code_50) (by decide) (by decide) ?_; exact k) ?_
  refine go (fun _ k => by refine XS.iloadN X13.here hx rfl (hb hby d_prog_6_method_4_code_7) rfl ?_; exact k) ?_
  refine go (fun _ k => by refine XS.aloadN X13.here hx rfl (hb hby d_prog_6_method_4_code_8) rfl rfl ?_; exact k) ?_
  show OwnEnd _ _ _ _ _ _ _ (T13.setTop (mkF m 9 (fL3 a0' p1 b1 (4 : Int32) (own_max (0 : Int32) (own_min (8 : Int32) (p1 - (24 : Int32))))) [(.ref a0'), (.int (4 : Int32))]))
  refine go (lenV X13 hx hZ e13 VA (g := (mkF m 9 (fL3 a0' p1 b1 (4 : Int32) (own_max (0 : Int32) (own_min (8 : Int32) (p1 - (24 : Int32))))) [(.ref a0'), (.int (4 : Int32))])) rfl rfl (hb hby d_prog_6_method_4_code_9)) ?_
  show OwnEnd _ _ _ _ _ _ _ (T13.setTop (mkF m 10 (fL3 a0' p1 b1 (4 : Int32) (own_max (0 : Int32) (own_min (8 : Int32) (p1 - (24 : Int32))))) [(.int (16 : Int32)), (.int (4 : Int32))]))
  refine go (fun _ k => by refine XS.icmpNo X13.here hx rfl (hb hby d_prog_6_method_4_code_10) rfl (tlt (by decide)).2.1 ?_; exact k) ?_
  refine go (fun _ k => by refine XS.iconst X13.here hx rfl (hb hby d_prog_6_method_4_code_13) ?_; exact k) ?_
  refine go (fun _ k => by refine XS.bipush X13.here hx rfl (hb hby d_prog_6_method_4_code_14) ?_; exact k) ?_
  refine go (fun _ k => by refine XS.iloadN X13.here hx rfl (hb hby d_prog_6_method_4_code_16) rfl ?_; exact k) ?_
  show OwnEnd _ _ _ _ _ _ _ (T13.setTop (mkF m 17 (fL3 a0' p1 b1 (4 : Int32) (own_max (0 : Int32) (own_min (8 : Int32) (p1 - (24 : Int32))))) [(.int p1), (.int (8 : Int32)), (.int (0 : Int32))]))
  refine go (fun _ k => by refine XS.bipush X13.here hx rfl (hb hby d_prog_6_method_4_code_17) ?_; exact k) ?_
  refine go (fun _ k => by refine XS.iloadN X13.here hx rfl (hb hby d_prog_6_method_4_code_19) rfl ?_; exact k) ?_
  refine go (fun _ k => by refine XS.imul X13.here hx rfl (hb hby d_prog_6_method_4_code_20) rfl ?_; exact k) ?_
  show OwnEnd _ _ _ _ _ _ _ (T13.setTop (mkF m 21 (fL3 a0' p1 b1 (4 : Int32) (own_max (0 : Int32) (own_min (8 : Int32) (p1 - (24 : Int32))))) [(.int ((8 : Int32) * (4 : Int32))), (.int p1), (.int (8 : Int32)), (.int (0 : Int32))]))
  rw [show ((8 : Int32) * (4 : Int32)) = (32 : Int32) from by decide]
  refine go (fun _ k => by refine XS.isub X13.here hx rfl (hb hby d_prog_6_method_4_code_21) rfl ?_; exact k) ?_
  show OwnEnd _ _ _ _ _ _ _ (T13.setTop (mkF m 22 (fL3 a0' p1 b1 (4 : Int32) (own_max (0 : Int32) (own_min (8 : Int32) (p1 - (24 : Int32))))) [(.int (p1 - (32 : Int32))), (.int (8 : Int32)), (.int (0 : Int32))]))
  obtain ⟨_, T14, L14, X14, hQ14, st14⟩ := callStat X13 hx hZ hown (hw _ (List.mem_of_getElem? (i := 10) rfl)) (hw _ (List.mem_of_getElem? (i := 11) rfl)) (hw _ (List.mem_of_getElem? (i := 12) rfl)) (hw _ (List.mem_of_getElem? (i := 13) rfl)) (by decide) (rm_min l Z a0 hw [] (8 : Int32) (p1 - (32 : Int32)) h13 n0 ) (W := 1) (by decide) (by decide) e13 (g := (mkF m 22 (fL3 a0' p1 b1 (4 : Int32) (own_max (0 : Int32) (own_min (8 : Int32) (p1 - (24 : Int32))))) [(.int (p1 - (32 : Int32))), (.int (8 : Int32)), (.int (0 : Int32))])) rfl (by rw [hml]; rfl) (argsL := [(.int (8 : Int32)), (.int (p1 - (32 : Int32)))]) (rest := [(.int (0 : Int32))]) rfl (lenOf pd__II_I rfl) rfl (by show 2 * 0 + _ ≤ _; exact Nat.le_of_eq rfl) (hb hby d_prog_6_method_4_code_22) (by decide) (by decide)
  obtain ⟨rfl, Nq14, eq14⟩ := hQ14
  have N14 := Fr.app N13 Nq14
  refine go st14 ?_
  show OwnEnd _ _ _ _ _ _ _ (T14.setTop (mkF m 25 (fL3 a0' p1 b1 (4 : Int32) (own_max (0 : Int32) (own_min (8 : Int32) (p1 - (24 : Int32))))) [(.int (own_min (8 : Int32) (p1 - (32 : Int32)))), (.int (0 : Int32))]))
  obtain ⟨_, T15, L15, X15, hQ15, st15⟩ := callStat X14 hx hZ hown (hw _ (List.mem_of_getElem? (i := 14) rfl)) (hw _ (List.mem_of_getElem? (i := 15) rfl)) (hw _ (List.mem_of_getElem? (i := 12) rfl)) (hw _ (List.mem_of_getElem? (i := 16) rfl)) (by decide) (rm_max l Z a0 hw [] (0 : Int32) (own_min (8 : Int32) (p1 - (32 : Int32))) h13 n0 ) (W := 0) (by decide) (by decide) eq14 (g := (mkF m 25 (fL3 a0' p1 b1 (4 : Int32) (own_max (0 : Int32) (own_min (8 : Int32) (p1 - (24 : Int32))))) [(.int (own_min (8 : Int32) (p1 - (32 : Int32)))), (.int (0 : Int32))])) rfl (by rw [hml]; rfl) (argsL := [(.int (0 : Int32)), (.int (own_min (8 : Int32) (p1 - (32 : Int32))))]) (rest := []) rfl (lenOf pd__II_I rfl) rfl (by show 2 * 0 + _ ≤ _; exact Nat.le_of_eq rfl) (hb hby d_prog_6_method_4_code_25) (by decide) (by decide)
  obtain ⟨rfl, Nq15, eq15⟩ := hQ15
  have N15 := Fr.app N14 Nq15
  refine go st15 ?_
  refine go (fun _ k => by refine XS.istore X15.here hx rfl (hb hby d_prog_6_method_4_code_28) rfl (l' := (fL3 a0' p1 b1 (4 : Int32) (own_max (0 : Int32) (own_min (8 : Int32) (p1 - (32 : Int32)))))) rfl ?_; exact k) ?_
  refine go (fun _ k => by refine XS.aloadN X15.here hx rfl (hb hby d_prog_6_method_4_code_30) rfl rfl ?_; exact k) ?_
  refine go (fun _ k => by refine XS.iloadN X15.here hx rfl (hb hby d_prog_6_method_4_code_31) rfl ?_; exact k) ?_
  show OwnEnd _ _ _ _ _ _ _ (T15.setTop (mkF m 32 (fL3 a0' p1 b1 (4 : Int32) (own_max (0 : Int32) (own_min (8 : Int32) (p1 - (32 : Int32))))) [(.int (4 : Int32)), (.ref b1)]))
  refine go (fun _ k => by refine XS.aloadN X15.here hx rfl (hb hby d_prog_6_method_4_code_32) rfl rfl ?_; exact k) ?_
  refine go (fun _ k => by refine XS.iloadN X15.here hx rfl (hb hby d_prog_6_method_4_code_33) rfl ?_; exact k) ?_
  show OwnEnd _ _ _ _ _ _ _ (T15.setTop (mkF m 34 (fL3 a0' p1 b1 (4 : Int32) (own_max (0 : Int32) (own_min (8 : Int32) (p1 - (32 : Int32))))) [(.int (4 : Int32)), (.ref a0'), (.int (4 : Int32)), (.ref b1)]))
  refine go (ldBv X15 hx hZ eq15 VA (j := (4 : Int32)) (i := 4) (w := y4) (by decide) (by decide) (by decide) rfl (g := (mkF m 34 (fL3 a0' p1 b1 (4 : Int32) (own_max (0 : Int32) (own_min (8 : Int32) (p1 - (32 : Int32))))) [(.int (4 : Int32)), (.ref a0'), (.int (4 : Int32)), (.ref b1)])) rfl rfl (hb hby d_prog_6_method_4_code_34)) ?_
  refine go (fun _ k => by refine XS.sipush X15.here hx rfl (hb hby d_prog_6_method_4_code_35) ?_; exact k) ?_
  refine go (fun _ k => by refine XS.bipush X15.here hx rfl (hb hby d_prog_6_method_4_code_38) ?_; exact k) ?_
  refine go (fun _ k => by refine XS.iload X15.here hx rfl (hb hby d_prog_6_method_4_code_40) rfl ?_; exact k) ?_
  show OwnEnd _ _ _ _ _ _ _ (T15.setTop (mkF m 42 (fL3 a0' p1 b1 (4 : Int32) (own_max (0 : Int32) (own_min (8 : Int32) (p1 - (32 : Int32))))) [(.int (own_max (0 : Int32) (own_min (8 : Int32) (p1 - (32 : Int32))))), (.int (8 : Int32)), (.int (255 : Int32)), (.int y4), (.int (4 : Int32)), (.ref b1)]))
  refine go (fun _ k => by refine XS.isub X15.here hx rfl (hb hby d_prog_6_method_4_code_42) rfl ?_; exact k) ?_
  refine go (fun _ k => by refine XS.ishl X15.here hx rfl (hb hby d_prog_6_method_4_code_43) rfl ?_; exact k) ?_
  refine go (fun _ k => by refine XS.iand X15.here hx rfl (hb hby d_prog_6_method_4_code_44) rfl ?_; exact k) ?_
  refine go (fun _ k => by refine XS.i2b X15.here hx rfl (hb hby d_prog_6_method_4_code_45) rfl ?_; exact k) ?_
  show OwnEnd _ _ _ _ _ _ _ (T15.setTop (mkF m 46 (fL3 a0' p1 b1 (4 : Int32) (own_max (0 : Int32) (own_min (8 : Int32) (p1 - (32 : Int32))))) [(.int ((y4 &&& ((255 : Int32) <<< (((8 : Int32) - (own_max (0 : Int32) (own_min (8 : Int32) (p1 - (32 : Int32))))) &&& 31))).toInt8.toInt32)), (.int (4 : Int32)), (.ref b1)]))
  obtain ⟨T16, h16, X16, e16, W16, V_b1', st16⟩ := stBv X15 hx hZ eq15 V_b1 (j := (4 : Int32)) (i := 4) (by decide) (by decide) (by decide) (Nat.le_of_ble_eq_true rfl) (g := (mkF m 46 (fL3 a0' p1 b1 (4 : Int32) (own_max (0 : Int32) (own_min (8 : Int32) (p1 - (32 : Int32))))) [(.int ((y4 &&& ((255 : Int32) <<< (((8 : Int32) - (own_max (0 : Int32) (own_min (8 : Int32) (p1 - (32 : Int32))))) &&& 31))).toInt8.toInt32)), (.int (4 : Int32)), (.ref b1)])) rfl rfl (hb hby d_prog_6_method_4_code_46)
  have N16 := Fr.snoc X16 N15 g_b1
  have VA := VA.other W16 ne_a0__b1
  have Z0 := Nat.le_trans Z0 (Keep.of_wr W16).1
  have KK := Keep.wr KK W16 (Or.inr sz_b1)
  have V_b1 : Arv Z h16 b1 k1 .byte (16 : Int32) [(.int (own_nb y0 p1 0)), (.int (own_nb y1 p1 8)), (.int (own_nb y2 p1 16)), (.int (own_nb y3 p1 24)), (.int (own_nb y4 p1 32)), (.int (0 : Int32)), (.int (0 : Int32)), (.int (0 : Int32)), (.int (0 : Int32)), (.int (0 : Int32)), (.int (0 : Int32)), (.int (0 : Int32)), (.int (0 : Int32)), (.int (0 : Int32)), (.int (0 : Int32)), (.int (0 : Int32))] (.int (0 : Int32)) := V_b1'
  refine go st16 ?_
  show OwnEnd _ _ _ _ _ _ _ (T16.setTop (mkF m 47 (fL3 a0' p1 b1 (4 : Int32) (own_max (0 : Int32) (own_min (8 : Int32) (p1 - (32 : Int32))))) []))
  refine go (fun _ k => by refine XS.iinc X16.here hx rfl (hb hby d_prog_6_method_4_code_47) rfl (l' := (fL3 a0' p1 b1 ((4 : Int32) + (1 : Int32)) (own_max (0 : Int32) (own_min (8 : Int32) (p1 - (32 : Int32)))))) rfl ?_; exact k) ?_
  show OwnEnd _ _ _ _ _ _ _ (T16.setTop (mkF m 50 (fL3 a0' p1 b1 ((4 : Int32) + (1 : Int32)) (own_max (0 : Int32) (own_min (8 : Int32) (p1 - (32 : Int32))))) []))
  rw [show ((4 : Int32) + (1 : Int32)) = (5 : Int32) from by decide]
  refine go (fun _ k => by refine XS.goto X16.here hx rfl (pc0 := 50) (pc' := 7) rfl (hb hby d_prog_6_method_4_code_50) (by decide) (by decide) ?_; exact k) ?_
  refine go (fun _ k => by refine XS.iloadN X16.here hx rfl (hb hby d_prog_6_method_4_code_7) rfl ?_; exact k) ?_
  refine go (fun _ k => by refine XS.aloadN X16.here hx rfl (hb hby d_prog_6_method_4_code_8) rfl rfl ?_; exact k) ?_
  show OwnEnd _ _ _ _ _ _ _ (T16.setTop (mkF m 9 (fL3 a0' p1 b1 (5 : Int32) (own_max (0 : Int32) (own_min (8 : Int32) (p1 - (32 : Int32))))) [(.ref a0'), (.int (5 : Int32))]))
  refine go (lenV X16 hx hZ e16 VA (g := (mkF m 9 (fL3 a0' p1 b1 (5 : Int32) (own_max (0 : Int32) (own_min (8 : Int32) (p1 - (32 : Int32))))) [(.ref a0'), (.int (5 : Int32))])) rfl rfl (hb hby d_prog_6_method_4_code_9)) ?_
  show OwnEnd _ _ _ _ _ _ _ (T16.setTop (mkF m 10 (fL3 a0' p1 b1 (5 : Int32) (own_max (0 : Int32) (own_min (8 : Int32) (p1 - (32 : Int32))))) [(.int (16 : Int32)), (.int (5 : Int32))]))
  refine go (fun _ k => by refine XS.icmpNo X16.here hx rfl (hb hby d_prog_6_method_4_code_10) rfl (tlt (by decide)).2.1 ?_; exact k) ?_
  refine go (fun _ k => by refine XS.iconst X16.here hx rfl (hb hby d_prog_6_method_4_code_13) ?_; exact k) ?_
  refine go (fun _ k => by refine XS.bipush X16.here hx rfl (hb hby d_prog_6_method_4_code_14) ?_; exact k) ?_
  refine go (fun _ k => by refine XS.iloadN X16.here hx rfl (hb hby d_prog_6_method_4_code_16) rfl ?_; exact k) ?_
  show OwnEnd _ _ _ _ _ _ _ (T16.setTop (mkF m 17 (fL3 a0' p1 b1 (5 : Int32) (own_max (0 : Int32) (own_min (8 : Int32) (p1 - (32 : Int32))))) [(.int p1), (.int (8 : Int32)), (.int (0 : Int32))]))
  refine go (fun _ k => by refine XS.bipush X16.here hx rfl (hb hby d_prog_6_method_4_code_17) ?_; exact k) ?_
  refine go (fun _ k => by refine XS.iloadN X16.here hx rfl (hb hby d_prog_6_method_4_code_19) rfl ?_; exact k) ?_
  refine go (fun _ k => by refine XS.imul X16.here hx rfl (hb hby d_prog_6_method_4_code_20) rfl ?_; exact k) ?_
  show OwnEnd _ _ _ _ _ _ _ (T16.setTop (mkF m 21 (fL3 a0' p1 b1 (5 : Int32) (own_max (0 : Int32) (own_min (8 : Int32) (p1 - (32 : Int32))))) [(.int ((8 : Int32) * (5 : Int32))), (.int p1), (.int (8 : Int32)), (.int (0 : Int32))]))
  rw [show ((8 : Int32) * (5 : Int32)) = (40 : Int32) from by decide]
  refine go (fun _ k => by refine XS.isub X16.here hx rfl (hb hby d_prog_6_method_4_code_21) rfl ?_; exact k) ?_
  show OwnEnd _ _ _ _ _ _ _ (T16.setTop (mkF m 22 (fL3 a0' p1 b1 (5 : Int32) (own_max (0 : Int32) (own_min (8 : Int32) (p1 - (32 : Int32))))) [(.int (p1 - (40 : Int32))), (.int (8 : Int32)), (.int (0 : Int32))]))
  obtain ⟨_, T17, L17, X17, hQ17, st17⟩ := callStat X16 hx hZ hown (hw _ (List.mem_of_getElem? (i := 10) rfl)) (hw _ (List.mem_of_getElem? (i := 11) rfl)) (hw _ (List.mem_of_getElem? (i := 12) rfl)) (hw _ (List.mem_of_getElem? (i := 13) rfl)) (by decide) (rm_min l Z a0 hw [] (8 : Int32) (p1 - (40 : Int32)) h16 n0 ) (W := 1) (by decide) (by decide) e16 (g := (mkF m 22 (fL3 a0' p1 b1 (5 : Int32) (own_max (0 : Int32) (own_min (8 : Int32) (p1 - (32 : Int32))))) [(.int (p1 - (40 : Int32))), (.int (8 : Int32)), (.int (0 : Int32))])) rfl (by rw [hml]; rfl) (argsL := [(.int (8 : Int32)), (.int (p1 - (40 : Int32)))]) (rest := [(.int (0 : Int32))]) rfl (lenOf pd__II_I rfl) rfl (by show 2 * 0 + _ ≤ _; exact Nat.le_of_eq rfl) (hb hby d_prog_6_method_4_code_22) (by decide) (by decide)
  obtain ⟨rfl, Nq17, eq17⟩ := hQ17
  have N17 := Fr.app N16 Nq17
  refine go st17 ?_
  show OwnEnd _ _ _ _ _ _ _ (T17.setTop (mkF m 25 (fL3 a0' p1 b1 (5 : Int32) (own_max (0 : Int32) (own_min (8 : Int32) (p1 - (32 : Int32))))) [(.int (own_min (8 : Int32) (p1 - (40 : Int32)))), (.int (0 : Int32))]))
  obtain ⟨_, T18, L18, X18, hQ18, st18⟩ := callStat X17 hx hZ hown (hw _ (List.mem_of_getElem? (i := 14) rfl)) (hw _ (List.mem_of_getElem? (i := 15) rfl)) (hw _ (List.mem_of_getElem? (i := 12) rfl)) (hw _ (List.mem_of_getElem? (i := 16) rfl)) (by decide) (rm_max l Z a0 hw [] (0 : Int32) (own_min (8 : Int32) (p1 - (40 : Int32))) h16 n0 ) (W := 0) (by decide) (by decide) eq17 (g := (mkF m 25 (fL3 a0' p1 b1 (5 : Int32) (own_max (0 : Int32) (own_min (8 : Int32) (p1 - (32 : Int32))))) [(.int (own_min (8 : Int32) (p1 - (40 : Int32)))), (.int (0 : Int32))])) rfl (by rw [hml]; rfl) (argsL := [(.int (0 : Int32)), (.int (own_min (8 : Int32) (p1 - (40 : Int32))))]) (rest := []) rfl (lenOf pd__II_I rfl) rfl (by show 2 * 0 + _ ≤ _; exact Nat.le_of_eq rfl) (hb hby d_prog_6_method_4_code_25) (by decide) (by decide)
  obtain ⟨rfl, Nq18, eq18⟩ := hQ18
  have N18 := Fr.app N17 Nq18
  refine go st18 ?_
  refine go (fun _ k => by refine XS.istore X18.here hx rfl (hb hby d_prog_6_method_4_code_28) rfl (l' := (fL3 a0' p1 b1 (5 : Int32) (own_max (0 : Int32) (own_min (8 : Int32) (p1 - (40 : Int32)))))) rfl ?_; exact k) ?_
  refine go (fun _ k => by refine XS.aloadN X18.here hx rfl (hb hby d_prog_6_method_4_code_30) rfl rfl ?_; exact k) ?_
  refine go (fun _ k => by refine XS.iloadN X18.here hx rfl (hb hby d_prog_6_method_4_code_31) rfl ?_; exact k) ?_
  show OwnEnd _ _ _ _ _ _ _ (T18.setTop (mkF m 32 (fL3 a0' p1 b1 (5 : Int32) (own_max (0 : Int32) (own_min (8 : Int32) (p1 - (40 : Int32))))) [(.int (5 : Int32)), (.ref b1)]))
  refine go (fun _ k => by refine XS.aloadN X18.here hx rfl (hb hby d_prog_6_method_4_code_32) rfl rfl ?_; exact k) ?_
  refine go (fun _ k => by refine XS.iloadN X18.here hx rfl (hb hby d_prog_6_method_4_code_33) rfl ?_; exact k) ?_
  show OwnEnd _ _ _ _ _ _ _ (T18.setTop (mkF m 34 (fL3 a0' p1 b1 (5 : Int32) (own_max (0 : Int32) (own_min (8 : Int32) (p1 - (40 : Int32))))) [(.int (5 : Int32)), (.ref a0'), (.int (5 : Int32)), (.ref b1)]))
  refine go (ldBv X18 hx hZ eq18 VA (j := (5 : Int32)) (i := 5) (w := y5) (by decide) (by decide) (by decide) rfl (g := (mkF m 34 (fL3 a0' p1 b1 (5 : Int32) (own_max (0 : Int32) (own_min (8 : Int32) (p1 - (40 : Int32))))) [(.int (5 : Int32)), (.ref a0'), (.int (5 : Int32)), (.ref b1)])) rfl rfl (hb hby d_prog_6_method_4_code_34)) ?_
  refine go (fun _ k => by refine XS.sipush X18.here hx rfl (hb hby d_prog_6_method_4_code_35) ?_; exact k) ?_
  refine go (fun _ k => by refine XS.bipush X18.here hx rfl (hb hby d_prog_6_method_4_code_38) ?_; exact k) ?_
  refine go (fun _ k => by refine XS.iload X18.here hx rfl (hb hby d_prog_6_method_4_code_40) rfl ?_; exact k) ?_
  show OwnEnd _ _ _ _ _ _ _ (T18.setTop (mkF m 42 (fL3 a0' p1 b1 (5 : Int32) (own_max (0 : Int32) (own_min (8 : Int32) (p1 - (40 : Int32))))) [(.int (own_max (0 : Int32) (own_min (8 : Int32) (p1 - (40 : Int32))))), (.int (8 : Int32)), (.int (255 : Int32)), (.int y5), (.int (5 : Int32)), (.ref b1)]))
  refine go (fun _ k => by refine XS.isub X18.here hx rfl (hb hby d_prog_6_method_4_code_42) rfl ?_; exact k) ?_
  refine go (fun _ k => by refine XS.ishl X18.here hx rfl (hb hby d_prog_6_method_4_code_43) rfl ?_; exact k) ?_
  refine go (fun _ k => by refine XS.iand X18.here hx rfl (hb hby d_prog_6_method_4_code_44) rfl ?_; exact k) ?_
  refine go (fun _ k => by refine XS.i2b X18.here hx rfl (hb hby d_prog_6_method_4_code_45) rfl ?_; exact k) ?_
  show OwnEnd _ _ _ _ _ _ _ (T18.setTop (mkF m 46 (fL3 a0' p1 b1 (5 : Int32) (own_max (0 : Int32) (own_min (8 : Int32) (p1 - (40 : Int32))))) [(.int ((y5 &&& ((255 : Int32) <<< (((8 : Int32) - (own_max (0 : Int32) (own_min (8 : Int32) (p1 - (40 : Int32))))) &&& 31))).toInt8.toInt32)), (.int (5 : Int32)), (.ref b1)]))
  obtain ⟨T19, h19, X19, e19, W19, V_b1', st19⟩ := stBv X18 hx hZ eq18 V_b1 (j := (5 : Int32)) (i := 5) (by decide) (by decide) (by decide) (Nat.le_of_ble_eq_true rfl) (g := (mkF m 46 (fL3 a0' p1 b1 (5 : Int32) (own_max (0 : Int32) (own_min (8 : Int32) (p1 - (40 : Int32))))) [(.int ((y5 &&& ((255 : Int32) <<< (((8 : Int32) - (own_max (0 : Int32) (own_min (8 : Int32) (p1 - (40 : Int32))))) &&& 31))).toInt8.toInt32)), (.int (5 : Int32)), (.ref b1)])) rfl rfl (hb hby d_prog_6_method_4_code_46)
  have N19 := Fr.snoc X19 N18 g_b1
  have VA := VA.other W19 ne_a0__b1
  have Z0 := Nat.le_trans Z0 (Keep.of_wr W19).1
  have KK := Keep.wr KK W19 (Or.inr sz_b1)
  have V_b1 : Arv Z h19 b1 k1 .byte (16 : Int32) [(.int (own_nb y0 p1 0)), (.int (own_nb y1 p1 8)), (.int (own_nb y2 p1 16)), (.int (own_nb y3 p1 24)), (.int (own_nb y4 p1 32)), (.int (own_nb y5 p1 40)), (.int (0 : Int32)), (.int (0 : Int32)), (.int (0 : Int32)), (.int (0 : Int32)), (.int (0 : Int32)), (.int (0 : Int32)), (.int (0 : Int32)), (.int (0 : Int32)), (.int (0 : Int32)), (.int (0 : Int32))] (.int (0 : Int32)) := V_b1'
  refine go st19 ?_
  show OwnEnd _ _ _ _ _ _ _ (T19.setTop (mkF m 47 (fL3 a0' p1 b1 (5 : Int32) (own_max (0 : Int32) (own_min (8 : Int32) (p1 - (40 : Int32))))) []))
  refine go (fun _ k => by refine XS.iinc X19.here hx rfl (hb hby d_prog_6_method_4_code_47) rfl (l' := (fL3 a0' p1 b1 ((5 : Int32) + (1 : Int32)) (own_max (0 : Int32) (own_min (8 : Int32) (p1 - (40 : Int32)))))) rfl ?_; exact k) ?_
  show OwnEnd _ _ _ _ _ _ _ (T19.setTop (mkF m 50 (fL3 a0' p1 b1 ((5 : Int32) + (1 : Int32)) (own_max (0 : Int32) (own_min (8 : Int32) (p1 - (40 : Int32))))) []))
  rw [show ((5 : Int32) + (1 : Int32)) = (6 : Int32) from by decide]
  refine go (fun _ k => by refine XS.goto X19.here hx rfl (pc0 := 50) (pc' := 7) rfl (hb hby d_prog_6_method_4_code_50) (by decide) (by decide) ?_; exact k) ?_
  refine go (fun _ k => by refine XS.iloadN X19.here hx rfl (hb hby d_prog_6_method_4_code_7) rfl ?_; exact k) ?_
  refine go (fun _ k => by refine XS.aloadN X19.here hx rfl (hb hby d_prog_6_method_4_code_8) rfl rfl ?_; exact k) ?_
  show OwnEnd _ _ _ _ _ _ _ (T19.setTop (mkF m 9 (fL3 a0' p1 b1 (6 : Int32) (own_max (0 : Int32) (own_min (8 : Int32) (p1 - (40 : Int32))))) [(.ref a0'), (.int (6 : Int32))]))
  refine go (lenV X19 hx hZ e19 VA (g := (mkF m 9 (fL3 a0' p1 b1 (6 : Int32) (own_max (0 : Int32) (own_min (8 : Int32) (p1 - (40 : Int32))))) [(.ref a0'), (.int (6 : Int32))])) rfl rfl (hb hby d_prog_6_method_4_code_9)) ?_
  show OwnEnd _ _ _ _ _ _ _ (T19.setTop (mkF m 10 (fL3 a0' p1 b1 (6 : Int32) (own_max (0 : Int32) (own_min (8 : Int32) (p1 - (40 : Int32))))) [(.int (16 : Int32)), (.int (6 : Int32))]))
  refine go (fun _ k => by refine XS.icmpNo X19.here hx rfl (hb hby d_prog_6_method_4_code_10) rfl (tlt (by decide)).2.1 ?_; exact k) ?_
  refine go (fun _ k => by refine XS.iconst X19.here hx rfl (hb hby d_prog_6_method_4_code_13) ?_; exact k) ?_
  refine go (fun _ k => by refine XS.bipush X19.here hx rfl (hb hby d_prog_6_method_4_code_14) ?_; exact k) ?_
  refine go (fun _ k => by refine XS.iloadN X19.here hx rfl (hb hby d_prog_6_method_4_code_16) rfl ?_; exact k) ?_
  show OwnEnd _ _ _ _ _ _ _ (T19.setTop (mkF m 17 (fL3 a0' p1 b1 (6 : Int32) (own_max (0 : Int32) (own_min (8 : Int32) (p1 - (40 : Int32))))) [(.int p1), (.int (8 : Int32)), (.int (0 : Int32))]))
  refine go (fun _ k => by refine XS.bipush X19.here hx rfl (hb hby d_prog_6_method_4_code_17) ?_; exact k) ?_
  refine go (fun _ k => by refine XS.iloadN X19.here hx rfl (hb hby d_prog_6_method_4_code_19) rfl ?_; exact k) ?_
  refine go (fun _ k => by refine XS.imul X19.here hx rfl (hb hby d_prog_6_method_4_code_20) rfl ?_; exact k) ?_
  show OwnEnd _ _ _ _ _ _ _ (T19.setTop (mkF m 21 (fL3 a0' p1 b1 (6 : Int32) (own_max (0 : Int32) (own_min (8 : Int32) (p1 - (40 : Int32))))) [(.int ((8 : Int32) * (6 : Int32))), (.int p1), (.int (8 : Int32)), (.int (0 : Int32))]))
  rw [show ((8 : Int32) * (6 : Int32)) = (48 : Int32) from by decide]
  refine go (fun _ k => by refine XS.isub X19.here hx rfl (hb hby d_prog_6_method_4_code_21) rfl ?_; exact k) ?_
  show OwnEnd _ _ _ _ _ _ _ (T19.setTop (mkF m 22 (fL3 a0' p1 b1 (6 : Int32) (own_max (0 : Int32) (own_min (8 : Int32) (p1 - (40 : Int32))))) [(.int (p1 - (48 : Int32))), (.int (8 : Int32)), (.int (0 : Int32))]))
  obtain ⟨_, T20, L20, X20, hQ20, st20⟩ := callStat X19 hx hZ hown (hw _ (List.mem_of_getElem? (i := 10) rfl)) (hw _ (List.mem_of_getElem? (i := 11) rfl)) (hw _ (List.mem_of_getElem? (i := 12) rfl)) (hw _ (List.mem_of_getElem? (i := 13) rfl)) (by decide) (rm_min l Z a0 hw [] (8 : Int32) (p1 - (48 : Int32)) h19 n0 ) (W := 1) (by decide) (by decide) e19 (g := (mkF m 22 (fL3 a0' p1 b1 (6 : Int32) (own_max (0 : Int32) (own_min (8 : Int32) (p1 - (40 : Int32))))) [(.int (p1 - (48 : Int32))), (.int (8 : Int32)), (.int (0 : Int32))])) rfl (by rw [hml]; rfl) (argsL := [(.int (8 : Int32)), (.int (p1 - (48 : Int32)))]) (rest := [(.int (0 : Int32))]) rfl (lenOf pd__II_I rfl) rfl (by show 2 * 0 + _ ≤ _; exact Nat.le_of_eq rfl) (hb hby d_prog_6_method_4_code_22) (by decide) (by decide)
  obtain ⟨rfl, Nq20, eq20⟩ := hQ20
  have N20 := Fr.app N19 Nq20
  refine go st20 ?_
  show OwnEnd _ _ _ _ _ _ _ (T20.setTop (mkF m 25 (fL3 a0' p1 b1 (6 : Int32) (own_max (0 : Int32) (own_min (8 : Int32) (p1 - (40 : Int32))))) [(.int (own_min (8 : Int32) (p1 - (48 : Int32)))), (.int (0 : Int32))]))
  obtain ⟨_, T21, L21, X21, hQ21, st21⟩ := callStat X20 hx hZ hown (hw _ (List.mem_of_getElem? (i := 14) rfl)) (hw _ (List.mem_of_getElem? (i := 15) rfl)) (hw _ (List.mem_of_getElem? (i := 12) rfl)) (hw _ (List.mem_of_getElem? (i := 16) rfl)) (by decide) (rm_max l Z a0 hw [] (0 : Int32) (own_min (8 : Int32) (p1 - (48 : Int32))) h19 n0 ) (W := 0) (by decide) (by decide) eq20 (g := (mkF m 25 (fL3 a0' p1 b1 (6 : Int32) (own_max (0 : Int32) (own_min (8 : Int32) (p1 - (40 : Int32))))) [(.int (own_min (8 : Int32) (p1 - (48 : Int32)))), (.int (0 : Int32))])) rfl (by rw [hml]; rfl) (argsL := [(.int (0 : Int32)), (.int (own_min (8 : Int32) (p1 - (48 : Int32))))]) (rest := []) rfl (lenOf pd__II_I rfl) rfl (by show 2 * 0 + _ ≤ _; exact Nat.le_of_eq rfl) (hb hby d_prog_6_method_4_code_25) (by decide) (by decide)
  obtain ⟨rfl, Nq21, eq21⟩ := hQ21
  have N21 := Fr.app N20 Nq21
  refine go st21 ?_
  refine go (fun _ k => by refine XS.istore X21.here hx rfl (hb hby d_prog_6_method_4_code_28) rfl (l' := (fL3 a0' p1 b1 (6 : Int32) (own_max (0 : Int32) (own_min (8 : Int32) (p1 - (48 : Int32)))))) rfl ?_; exact k) ?_
  refine go (fun _ k => by refine XS.aloadN X21.here hx rfl (hb hby d_prog_6_method_4_code_30) rfl rfl ?_; exact k) ?_
  refine go (fun _ k => by refine XS.iloadN X21.here hx rfl (hb hby d_prog_6_method_4_code_31) rfl ?_; exact k) ?_
  show OwnEnd _ _ _ _ _ _ _ (T21.setTop (mkF m 32 (fL3 a0' p1 b1 (6 : Int32) (own_max (0 : Int32) (own_min (8 : Int32) (p1 - (48 : Int32))))) [(.int (6 : Int32)), (.ref b1)]))
  refine go (fun _ k => by refine XS.aloadN X21.here hx rfl (hb hby d_prog_6_method_4_code_32) rfl rfl ?_; exact k) ?_
  refine go (fun _ k => by refine XS.iloadN X21.here hx rfl (hb hby d_prog_6_method_4_code_33) rfl ?_; exact k) ?_
  show OwnEnd _ _ _ _ _ _ _ (T21.setTop (mkF m 34 (fL3 a0' p1 b1 (6 : Int32) (own_max (0 : Int32) (own_min (8 : Int32) (p1 - (48 : Int32))))) [(.int (6 : Int32)), (.ref a0'), (.int (6 : Int32)), (.ref b1)]))
  refine go (ldBv X21 hx hZ eq21 VA (j := (6 : Int32)) (i := 6) (w := y6) (by decide) (by decide) (by decide) rfl (g := (mkF m 34 (fL3 a0' p1 b1 (6 : Int32) (own_max (0 : Int32) (own_min (8 : Int32) (p1 - (48 : Int32))))) [(.int (6 : Int32)), (.ref a0'), (.int (6 : Int32)), (.ref b1)])) rfl rfl (hb hby d_prog_6_method_4_code_34)) ?_
  refine go (fun _ k => by refine XS.sipush X21.here hx rfl (hb hby d_prog_6_method_4_code_35) ?_; exact k) ?_
  refine go (fun _ k => by refine XS.bipush X21.here hx rfl (hb hby d_prog_6_method_4_code_38) ?_; exact k) ?_
  refine go (fun _ k => by refine XS.iload X21.here hx rfl (hb hby d_prog_6_method_4_code_40) rfl ?_; exact k) ?_
  show OwnEnd _ _ _ _ _ _ _ (T21.setTop (mkF m 42 (fL3 a0' p1 b1 (6 : Int32) (own_max (0 : Int32) (own_min (8 : Int32) (p1 - (48 : Int32))))) [(.int (own_max (0 : Int32) (own_min (8 : Int32) (p1 - (48 : Int32))))), (.int (8 : Int32)), (.int (255 : Int32)), (.int y6), (.int (6 : Int32)), (.ref b1)]))
  refine go (fun _ k => by refine XS.isub X21.here hx rfl (hb hby d_prog_6_method_4_code_42) rfl ?_; exact k) ?_
  refine go (fun _ k => by refine XS.ishl X21.here hx rfl (hb hby d_prog_6_method_4_code_43) rfl ?_; exact k) ?_
  refine go (fun _ k => by refine XS.iand X21.here hx rfl (hb hby d_prog_6_method_4_code_44) rfl ?_; exact k) ?_
  refine go (fun _ k => by refine XS.i2b X21.here hx rfl (hb hby d_prog_6_method_4_code_45) rfl ?_; exact k) ?_
  show OwnEnd _ _ _ _ _ _ _ (T21.setTop (mkF m 46 (fL3 a0' p1 b1 (6 : Int32) (own_max (0 : Int32) (own_min (8 : Int32) (p1 - (48 : Int32))))) [(.int ((y6 &&& ((255 : Int32) <<< (((8 : Int32) - (own_max (0 : Int32) (own_min (8 : Int32) (p1 - (48 : Int32))))) &&& 31))).toInt8.toInt32)), (.int (6 : Int32)), (.ref b1)]))
  obtain ⟨T22, h22, X22, e22, W22, V_b1', st22⟩ := stBv X21 hx hZ eq21 V_b1 (j := (6 : Int32)) (i := 6) (by decide) (by decide) (by decide) (Nat.le_of_ble_eq_true rfl) (g := (mkF m 46 (fL3 a0' p1 b1 (6 : Int32) (own_max (0 : Int32) (own_min (8 : Int32) (p1 - (48 : Int32))))) [(.int ((y6 &&& ((255 : Int32) <<< (((8 : Int32) - (own_max (0 : Int32) (own_min (8 : Int32) (p1 - (48 : Int32))))) &&& 31))).toInt8.toInt32)), (.int (6 : Int32)), (.ref b1)])) rfl rfl (hb hby d_prog_6_method_4_code_46)
  have N22 := Fr.snoc X22 N21 g_b1
  have VA := VA.other W22 ne_a0__b1
  have Z0 := Nat.le_trans Z0 (Keep.of_wr W22).1
  have KK := Keep.wr KK W22 (Or.inr sz_b1)
  have V_b1 : Arv Z h22 b1 k1 .byte (16 : Int32) [(.int (own_nb y0 p1 0)), (.int (own_nb y1 p1 8)), (.int (own_nb y2 p1 16)), (.int (own_nb y3 p1 24)), (.int (own_nb y4 p1 32)), (.int (own_nb y5 p1 40)), (.int (own_nb y6 p1 48)), (.int (0 : Int32)), (.int (0 : Int32)), (.int (0 : Int32)), (.int (0 : Int32)), (.int (0 : Int32)), (.int (0 : Int32)), (.int (0 : Int32)), (.int (0 : Int32)), (.int (0 : Int32))] (.int (0 : Int32)) := V_b1'
  refine go st22 ?_
  show OwnEnd _ _ _ _ _ _ _ (T22.setTop (mkF m 47 (fL3 a0' p1 b1 (6 : Int32) (own_max (0 : Int32) (own_min (8 : Int32) (p1 - (48 : Int32))))) []))
  refine go (fun _ k => by refine XS.iinc X22.here hx rfl (hb hby d_prog_6_method_4_code_47) rfl (l' := (fL3 a0' p1 b1 ((6 : Int32) + (1 : Int32)) (own_max (0 : Int32) (own_min (8 : Int32) (p1 - (48 : Int32)))))) rfl ?_; exact k) ?_
  show OwnEnd _ _ _ _ _ _ _ (T22.setTop (mkF m 50 (fL3 a0' p1 b1 ((6 : Int32) + (1 : Int32)) (own_max (0 : Int32) (own_min (8 : Int32) (p1 - (48 : Int32))))) []))
  rw [show ((6 : Int32) + (1 : Int32)) = (7 : Int32) from by decide]
  refine go (fun _ k => by refine XS.goto X22.here hx rfl (pc0 := 50) (pc' := 7) rfl (hb hby d_prog_6_method_4_code_50) (by decide) (by decide) ?_; exact k) ?_
  refine go (fun _ k => by refine XS.iloadN X22.here hx rfl (hb hby d_prog_6_method_4_code_7) rfl ?_; exact k) ?_
  refine go (fun _ k => by refine XS.aloadN X22.here hx rfl (hb hby d_prog_6_method_4_code_8) rfl rfl ?_; exact k) ?_
  show OwnEnd _ _ _ _ _ _ _ (T22.setTop (mkF m 9 (fL3 a0' p1 b1 (7 : Int32) (own_max (0 : Int32) (own_min (8 : Int32) (p1 - (48 : Int32))))) [(.ref a0'), (.int (7 : Int32))]))
  refine go (lenV X22 hx hZ e22 VA (g := (mkF m 9 (fL3 a0' p1 b1 (7 : Int32) (own_max (0 : Int32) (own_min (8 : Int32) (p1 - (48 : Int32))))) [(.ref a0'), (.int (7 : Int32))])) rfl rfl (hb hby d_prog_6_method_4_code_9)) ?_
  show OwnEnd _ _ _ _ _ _ _ (T22.setTop (mkF m 10 (fL3 a0' p1 b1 (7 : Int32) (own_max (0 : Int32) (own_min (8 : Int32) (p1 - (48 : Int32))))) [(.int (16 : Int32)), (.int (7 : Int32))]))
  refine go (fun _ k => by refine XS.icmpNo X22.here hx rfl (hb hby d_prog_6_method_4_code_10) rfl (tlt (by decide)).2.1 ?_; exact k) ?_
  refine go (fun _ k => by refine XS.iconst X22.here hx rfl (hb hby d_prog_6_method_4_code_13) ?_; exact k) ?_
  refine go (fun _ k => by refine XS.bipush X22.here hx rfl (hb hby d_prog_6_method_4_code_14) ?_; exact k) ?_
  refine go (fun _ k => by refine XS.iloadN X22.here hx rfl (hb hby d_prog_6_method_4_code_16) rfl ?_; exact k) ?_
  show OwnEnd _ _ _ _ _ _ _ (T22.setTop (mkF m 17 (fL3 a0' p1 b1 (7 : Int32) (own_max (0 : Int32) (own_min (8 : Int32) (p1 - (48 : Int32))))) [(.int p1), (.int (8 : Int32)), (.int (0 : Int32))]))
  refine go (fun _ k => by refine XS.bipush X22.here hx rfl (hb hby d_prog_6_method_4_code_17) ?_; exact k) ?_
  refine go (fun _ k => by refine XS.iloadN X22.here hx rfl (hb hby d_prog_6_method_4_code_19) rfl ?_; exact k) ?_
  refine go (fun _ k => by refine XS.imul X22.here hx rfl (hb hby d_prog_6_method_4_code_20) rfl ?_; exact k) ?_
  show OwnEnd _ _ _ _ _ _ _ (T22.setTop (mkF m 21 (fL3 a0' p1 b1 (7 : Int32) (own_max (0 : Int32) (own_min (8 : Int32) (p1 - (48 : Int32))))) [(.int ((8 : Int32) * (7 : Int32))), (.int p1), (.int (8 : Int32)), (.int (0 : Int32))]))
  rw [show ((8 : Int32) * (7 : Int32)) = (56 : Int32) from by decide]
  refine go (fun _ k => by refine XS.isub X22.here hx rfl (hb hby d_prog_6_method_4_code_21) rfl ?_; exact k) ?_
  show OwnEnd _ _ _ _ _ _ _ (T22.setTop (mkF m 22 (fL3 a0' p1 b1 (7 : Int32) (own_max (0 : Int32) (own_min (8 : Int32) (p1 - (48 : Int32))))) [(.int (p1 - (56 : Int32))), (.int (8 : Int32)), (.int (0 : Int32))]))
  obtain ⟨_, T23, L23, X23, hQ23, st23⟩ := callStat X22 hx hZ hown (hw _ (List.mem_of_getElem? (i := 10) rfl)) (hw _ (List.mem_of_getElem? (i := 11) rfl)) (hw _ (List.mem_of_getElem? (i := 12) rfl)) (hw _ (List.mem_of_getElem? (i := 13) rfl)) (by decide) (rm_min l Z a0 hw [] (8 : Int32) (p1 - (56 : Int32)) h22 n0 ) (W := 1) (by decide) (by decide) e22 (g := (mkF m 22 (fL3 a0' p1 b1 (7 : Int32) (own_max (0 : Int32) (own_min (8 : Int32) (p1 - (48 : Int32))))) [(.int (p1 - (56 : Int32))), (.int (8 : Int32)), (.int (0 : Int32))])) rfl (by rw [hml]; rfl) (argsL := [(.int (8 : Int32)), (.int (p1 - (56 : Int32)))]) (rest := [(.int (0 : Int32))]) rfl (lenOf pd__II_I rfl) rfl (by show 2 * 0 + _ ≤ _; exact Nat.le_of_eq rfl) (hb hby d_prog_6_method_4_code_22) (by decide) (by decide)
  obtain ⟨rfl, Nq23, eq23⟩ := hQ23
  have N23 := Fr.app N22 Nq23
  refine go st23 ?_
  show OwnEnd _ _ _ _ _ _ _ (T23.setTop (mkF m 25 (fL3 a0' p1 b1 (7 : Int32) (own_max (0 : Int32) (own_min (8 : Int32) (p1 - (48 : Int32))))) [(.int (own_min (8 : Int32) (p1 - (56 : Int32)))), (.int (0 : Int32))]))
  obtain ⟨_, T24, L24, X24, hQ24, st24⟩ := callStat X23 hx hZ hown (hw _ (List.mem_of_getElem? (i := 14) rfl)) (hw _ (List.mem_of_getElem? (i := 15) rfl)) (hw _ (List.mem_of_getElem? (i := 12) rfl)) (hw _ (List.mem_of_getElem? (i := 16) rfl)) (by decide) (rm_max l Z a0 hw [] (0 : Int32) (own_min (8 : Int32) (p1 - (56 : Int32))) h22 n0 ) (W := 0) (by decide) (by decide) eq23 (g := (mkF m 25 (fL3 a0' p1 b1 (7 : Int32) (own_max (0 : Int32) (own_min (8 : Int32) (p1 - (48 : Int32))))) [(.int (own_min (8 : Int32) (p1 - (56 : Int32)))), (.int (0 : Int32))])) rfl (by rw [hml]; rfl) (argsL := [(.int (0 : Int32)), (.int (own_min (8 : Int32) (p1 - (56 : Int32))))]) (rest := []) rfl (lenOf pd__II_I rfl) rfl (by show 2 * 0 + _ ≤ _; exact Nat.le_of_eq rfl) (hb hby d_prog_6_method_4_code_25) (by decide) (by decide)
  obtain ⟨rfl, Nq24, eq24⟩ := hQ24
  have N24 := Fr.app N23 Nq24
  refine go st24 ?_
  refine go (fun _ k => by refine XS.istore X24.here hx rfl (hb hby d_prog_6_method_4_code_28) rfl (l' := (fL3 a0' p1 b1 (7 : Int32) (own_max (0 : Int32) (own_min (8 : Int32) (p1 - (56 : Int32)))))) rfl ?_; exact k) ?_
  refine go (fun _ k => by refine XS.aloadN X24.here hx rfl (hb hby d_prog_6_method_4_code_30) rfl rfl ?_; exact k) ?_
  refine go (fun _ k => by refine XS.iloadN X24.here hx rfl (hb hby d_prog_6_method_4_code_31) rfl ?_; exact k) ?_
  show OwnEnd _ _ _ _ _ _ _ (T24.setTop (mkF m 32 (fL3 a0' p1 b1 (7 : Int32) (own_max (0 : Int32) (own_min (8 : Int32) (p1 - (56 : Int32))))) [(.int (7 : Int32)), (.ref b1)]))
  refine go (fun _ k => by refine XS.aloadN X24.here hx rfl (hb hby d_prog_6_method_4_code_32) rfl rfl ?_; exact k) ?_
  refine go (fun _ k => by refine XS.iloadN X24.here hx rfl (hb hby d_prog_6_method_4_code_33) rfl ?_; exact k) ?_
  show OwnEnd _ _ _ _ _ _ _ (T24.setTop (mkF m 34 (fL3 a0' p1 b1 (7 : Int32) (own_max (0 : Int32) (own_min (8 : Int32) (p1 - (56 : Int32))))) [(.int (7 : Int32)), (.ref a0'), (.int (7 : Int32)), (.ref b1)]))
  refine go (ldBv X24 hx hZ eq24 VA (j := (7 : Int32)) (i := 7) (w := y7) (by decide) (by decide) (by decide) rfl (g := (mkF m 34 (fL3 a0' p1 b1 (7 : Int32) (own_max (0 : Int32) (own_min (8 : Int32) (p1 - (56 : Int32))))) [(.int (7 : Int32)), (.ref a0'), (.int (7 : Int32)), (.ref b1)])) rfl rfl (hb hby d_prog_6_method_4_code_34)) ?_
  refine go (fun _ k => by refine XS.sipush X24.here hx rfl (hb hby d_prog_6_method_4_code_35) ?_; exact k) ?_
  refine go (fun _ k => by refine XS.bipush X24.here hx rfl (hb hby d_prog_6_method_4_code_38) ?_; exact k) ?_
  refine go (fun _ k => by refine XS.iload X24.here hx rfl (hb hby d_prog_6_method_4_code_40) rfl ?_; exact k) ?_
  show OwnEnd _ _ _ _ _ _ _ (T24.setTop (mkF m 42 (fL3 a0' p1 b1 (7 : Int32) (own_max (0 : Int32) (own_min (8 : Int32) (p1 - (56 : Int32))))) [(.int (own_max (0 : Int32) (own_min (8 : Int32) (p1 - (56 : Int32))))), (.int (8 : Int32)), (.int (255 : Int32)), (.int y7), (.int (7 : Int32)), (.ref b1)]))
  refine go (fun _ k => by refine XS.isub X24.here hx rfl (hb hby d_prog_6_method_4_code_42) rfl ?_; exact k) ?_
  refine go (fun _ k => by refine XS.ishl X24.here hx rfl (hb hby d_prog_6_method_4_code_43) rfl ?_; exact k) ?_
  refine go (fun _ k => by refine XS.iand X24.here hx rfl (hb hby d_prog_6_method_4_code_44) rfl ?_; exact k) ?_
  refine go (fun _ k => by refine XS.i2b X24.here hx rfl (hb hby d_prog_6_method_4_code_45) rfl ?_; exact k) ?_
  show OwnEnd _ _ _ _ _ _ _ (T24.setTop (mkF m 46 (fL3 a0' p1 b1 (7 : Int32) (own_max (0 : Int32) (own_min (8 : Int32) (p1 - (56 : Int32))))) [(.int ((y7 &&& ((255 : Int32) <<< (((8 : Int32) - (own_max (0 : Int32) (own_min (8 : Int32) (p1 - (56 : Int32))))) &&& 31))).toInt8.toInt32)), (.int (7 : Int32)), (.ref b1)]))
  obtain ⟨T25, h25, X25, e25, W25, V_b1', st25⟩ := stBv X24 hx hZ eq24 V_b1 (j := (7 : Int32)) (i := 7) (by decide) (by decide) (by decide) (Nat.le_of_ble_eq_true rfl) (g := (mkF m 46 (fL3 a0' p1 b1 (7 : Int32) (own_max (0 : Int32) (own_min (8 : Int32) (p1 - (56 : Int32))))) [(.int ((y7 &&& ((255 : Int32) <<< (((8 : Int32) - (own_max (0 : Int32) (own_min (8 : Int32) (p1 - (56 : Int32))))) &&& 31))).toInt8.toInt32)), (.int (7 : Int32)), (.ref b1)])) rfl rfl (hb hby d_prog_6_method_4_code_46)
  have N25 := Fr.snoc X25 N24 g_b1
  have VA := VA.other W25 ne_a0__b1
  have Z0 := Nat.le_trans Z0 (Keep.of_wr W25).1
  have KK := Keep.wr KK W25 (Or.inr sz_b1)
  have V_b1 : Arv Z h25 b1 k1 .byte (16 : Int32) [(.int (own_nb y0 p1 0)), (.int (own_nb y1 p1 8)), (.int (own_nb y2 p1 16)), (.int (own_nb y3 p1 24)), (.int (own_nb y4 p1 32)), (.int (own_nb y5 p1 40)), (.int (own_nb y6 p1 48)), (.int (own_nb y7 p1 56)), (.int (0 : Int32)), (.int (0 : Int32)), (.int (0 : Int32)), (.int (0 : Int32)), (.int (0 : Int32)), (.int (0 : Int32)), (.int (0 : Int32)), (.int (0 : Int32))] (.int (0 : Int32)) := V_b1'
  refine go st25 ?_
  show OwnEnd _ _ _ _ _ _ _ (T25.setTop (mkF m 47 (fL3 a0' p1 b1 (7 : Int32) (own_max (0 : Int32) (own_min (8 : Int32) (p1 - (56 : Int32))))) []))
  refine go (fun _ k => by refine XS.iinc X25.here hx rfl (hb hby d_prog_6_method_4_code_47) rfl (l' := (fL3 a0' p1 b1 ((7 : Int32) + (1 : Int32)) (own_max (0 : Int32) (own_min (8 : Int32) (p1 - (56 : Int32)))))) rfl ?_; exact k) ?_
  show OwnEnd _ _ _ _ _ _ _ (T25.setTop (mkF m 50 (fL3 a0' p1 b1 ((7 : Int32) + (1 : Int32)) (own_max (0 : Int32) (own_min (8 : Int32) (p1 - (56 : Int32))))) []))
  rw [show ((7 : Int32) + (1 : Int32)) = (8 : Int32) from by decide]
  refine go (fun _ k => by refine XS.goto X25.here hx rfl (pc0 := 50) (pc' := 7) rfl (hb hby d_prog_6_method_4_code_50) (by decide) (by decide) ?_; exact k) ?_
  refine go (fun _ k => by refine XS.iloadN X25.here hx rfl (hb hby d_prog_6_method_4_code_7) rfl ?_; exact k) ?_
  refine go (fun _ k => by refine XS.aloadN X25.here hx rfl (hb hby d_prog_6_method_4_code_8) rfl rfl ?_; exact k) ?_
  show OwnEnd _ _ _ _ _ _ _ (T25.setTop (mkF m 9 (fL3 a0' p1 b1 (8 : Int32) (own_max (0 : Int32) (own_min (8 : Int32) (p1 - (56 : Int32))))) [(.ref a0'), (.int (8 : Int32))]))
  refine go (lenV X25 hx hZ e25 VA (g := (mkF m 9 (fL3 a0' p1 b1 (8 : Int32) (own_max (0 : Int32) (own_min (8 : Int32) (p1 - (56 : Int32))))) [(.ref a0'), (.int (8 : Int32))])) rfl rfl (hb hby d_prog_6_method_4_code_9)) ?_
  show OwnEnd _ _ _ _ _ _ _ (T25.setTop (mkF m 10 (fL3 a0' p1 b1 (8 : Int32) (own_max (0 : Int32) (own_min (8 : Int32) (p1 - (56 : Int32))))) [(.int (16 : Int32)), (.int (8 : Int32))]))
  refine go (fun _ k => by refine XS.icmpNo X25.here hx rfl (hb hby d_prog_6_method_4_code_10) rfl (tlt (by decide)).2.1 ?_; exact k) ?_
  refine go (fun _ k => by refine XS.iconst X25.here hx rfl (hb hby d_prog_6_method_4_code_13) ?_; exact k) ?_
  refine go (fun _ k => by refine XS.bipush X25.here hx rfl (hb hby d_prog_6_method_4_code_14) ?_; exact k) ?_
  refine go (fun _ k => by refine XS.iloadN X25.here hx rfl (hb hby d_prog_6_method_4_code_16) rfl ?_; exact k) ?_
  show OwnEnd _ _ _ _ _ _ _ (T25.setTop (mkF m 17 (fL3 a0' p1 b1 (8 : Int32) (own_max (0 : Int32) (own_min (8 : Int32) (p1 - (56 : Int32))))) [(.int p1), (.int (8 : Int32)), (.int (0 : Int32))]))
  refine go (fun _ k => by refine XS.bipush X25.here hx rfl (hb hby d_prog_6_method_4_code_17) ?_; exact k) ?_
  refine go (fun _ k => by refine XS.iloadN X25.here hx rfl (hb hby d_prog_6_method_4_code_19) rfl ?_; exact k) ?_
  refine go (fun _ k => by refine XS.imul X25.here hx rfl (hb hby d_prog_6_method_4_code_20) rfl ?_; exact k) ?_
  show OwnEnd _ _ _ _ _ _ _ (T25.setTop (mkF m 21 (fL3 a0' p1 b1 (8 : Int32) (own_max (0 : Int32) (own_min (8 : Int32) (p1 - (56 : Int32))))) [(.int ((8 : Int32) * (8 : Int32))), (.int p1), (.int (8 : Int32)), (.int (0 : Int32))]))
  rw [show ((8 : Int32) * (8 : Int32)) = (64 : Int32) from by decide]
  refine go (fun _ k => by refine XS.isub X25.here hx rfl (hb hby d_prog_6_method_4_code_21) rfl ?_; exact k) ?_
  show OwnEnd _ _ _ _ _ _ _ (T25.setTop (mkF m 22 (fL3 a0' p1 b1 (8 : Int32) (own_max (0 : Int32) (own_min (8 : Int32) (p1 - (56 : Int32))))) [(.int (p1 - (64 : Int32))), (.int (8 : Int32)), (.int (0 : Int32))]))
  obtain ⟨_, T26, L26, X26, hQ26, st26⟩ := callStat X25 hx hZ hown (hw _ (List.mem_of_getElem? (i := 10) rfl)) (hw _ (List.mem_of_getElem? (i := 11) rfl)) (hw _ (List.mem_of_getElem? (i := 12) rfl)) (hw _ (List.mem_of_getElem? (i := 13) rfl)) (by decide) (rm_min l Z a0 hw [] (8 : Int32) (p1 - (64 : Int32)) h25 n0 ) (W := 1) (by decide) (by decide) e25 (g := (mkF m 22 (fL3 a0' p1 b1 (8 : Int32) (own_max (0 : Int32) (own_min (8 : Int32) (p1 - (56 : Int32))))) [(.int (p1 - (64 : Int32))), (.int (8 : Int32)), (.int (0 : Int32))])) rfl (by rw [hml]; rfl) (argsL := [(.int (8 : Int32)), (.int (p1 - (64 : Int32)))]) (rest := [(.int (0 : Int32))]) rfl (lenOf pd__II_I rfl) rfl (by show 2 * 0 + _ ≤ _; exact Nat.le_of_eq rfl) (hb hby d_prog_6_method_4_code_22) (by decide) (by decide)
  obtain ⟨rfl, Nq26, eq26⟩ := hQ26
  have N26 := Fr.app N25 Nq26
  refine go st26 ?_
  show OwnEnd _ _ _ _ _ _ _ (T26.setTop (mkF m 25 (fL3 a0' p1 b1 (8 : Int32) (own_max (0 : Int32) (own_min (8 : Int32) (p1 - (56 : Int32))))) [(.int (own_min (8 : Int32) (p1 - (64 : Int32)))), (.int (0 : Int32))]))
  obtain ⟨_, T27, L27, X27, hQ27, st27⟩ := callStat X26 hx hZ hown (hw _ (List.mem_of_getElem? (i := 14) rfl)) (hw _ (List.mem_of_getElem? (i := 15) rfl)) (hw _ (List.mem_of_getElem? (i := 12) rfl)) (hw _ (List.mem_of_getElem? (i := 16) rfl)) (by decide) (rm_max l Z a0 hw [] (0 : Int32) (own_min (8 : Int32) (p1 - (64 : Int32))) h25 n0 ) (W := 0) (by decide) (by decide) eq26 (g := (mkF m 25 (fL3 a0' p1 b1 (8 : Int32) (own_max (0 : Int32) (own_min (8 : Int32) (p1 - (56 : Int32))))) [(.int (own_min (8 : Int32) (p1 - (64 : Int32)))), (.int (0 : Int32))])) rfl (by rw [hml]; rfl) (argsL := [(.int (0 : Int32)), (.int (own_min (8 : Int32) (p1 - (64 : Int32))))]) (rest := []) rfl (lenOf pd__II_I rfl) rfl (by show 2 * 0 + _ ≤ _; exact Nat.le_of_eq rfl) (hb hby d_prog_6_method_4_code_25) (by decide) (by decide)
  obtain ⟨rfl, Nq27, eq27⟩ := hQ27
  have N27 := Fr.app N26 Nq27
  refine go st27 ?_
  refine go (fun _ k => by refine XS.istore X27.here hx rfl (hb hby d_prog_6_method_4_code_28) rfl (l' := (fL3 a0' p1 b1 (8 : Int32) (own_max (0 : Int32) (own_min (8 : Int32) (p1 - (64 : Int32)))))) rfl ?_; exact k) ?_
  refine go (fun _ k => by refine XS.aloadN X27.here hx rfl (hb hby d_prog_6_method_4_code_30) rfl rfl ?_; exact k) ?_
  refine go (fun _ k => by refine XS.iloadN X27.here hx rfl (hb hby d_prog_6_method_4_code_31) rfl ?_; exact k) ?_
  show OwnEnd _ _ _ _ _ _ _ (T27.setTop (mkF m 32 (fL3 a0' p1 b1 (8 : Int32) (own_max (0 : Int32) (own_min (8 : Int32) (p1 - (64 : Int32))))) [(.int (8 : Int32)), (.ref b1)]))
  refine go (fun _ k => by refine XS.aloadN X27.here hx rfl (hb hby d_prog_6_method_4_code_32) rfl rfl ?_; exact k) ?_
  refine go (fun _ k => by refine XS.iloadN X27.here hx rfl (hb hby d_prog_6_method_4_code_33) rfl ?_; exact k) ?_
  show OwnEnd _ _ _ _ _ _ _ (T27.setTop (mkF m 34 (fL3 a0' p1 b1 (8 : Int32) (own_max (0 : Int32) (own_min (8 : Int32) (p1 - (64 : Int32))))) [(.int (8 : Int32)), (.ref a0'), (.int (8 : Int32)), (.ref b1)]))
  refine go (ldBv X27 hx hZ eq27 VA (j := (8 : Int32)) (i := 8) (w := y8) (by decide) (by decide) (by decide) rfl (g := (mkF m 34 (fL3 a0' p1 b1 (8 : Int32) (own_max (0 : Int32) (own_min (8 : Int32) (p1 - (64 : Int32))))) [(.int (8 : Int32)), (.ref a0'), (.int (8 : Int32)), (.ref b1)])) rfl rfl (hb hby d_prog_6_method_4_code_34)) ?_
  refine go (fun _ k => by refine XS.sipush X27.here hx rfl (hb hby d_prog_6_method_4_code_35) ?_; exact k) ?_
  refine go (fun _ k => by refine XS.bipush X27.here hx rfl (hb hby d_prog_6_method_4_code_38) ?_; exact k) ?_
  refine go (fun _ k => by refine XS.iload X27.here hx rfl (hb hby d_prog_6_method_4_code_40) rfl ?_; exact k) ?_
  show OwnEnd _ _ _ _ _ _ _ (T27.setTop (mkF m 42 (fL3 a0' p1 b1 (8 : Int32) (own_max (0 : Int32) (own_min (8 : Int32) (p1 - (64 : Int32))))) [(.int (own_max (0 : Int32) (own_min (8 : Int32) (p1 - (64 : Int32))))), (.int (8 : Int32)), (.int (255 : Int32)), (.int y8), (.int (8 : Int32)), (.ref b1)]))
  refine go (fun _ k => by refine XS.isub X27.here hx rfl (hb hby d_prog_6_method_4_code_42) rfl ?_; exact k) ?_
  refine go (fun _ k => by refine XS.ishl X27.here hx rfl (hb hby d_prog_6_method_4_code_43) rfl ?_; exact k) ?_
  refine go (fun _ k => by refine XS.iand X27.here hx rfl (hb hby d_prog_6_method_4_code_44) rfl ?_; exact k) ?_
  refine go (fun _ k => by refine XS.i2b X27.here hx rfl (hb hby d_prog_6_method_4_code_45) rfl ?_; exact k) ?_
  show OwnEnd _ _ _ _ _ _ _ (T27.setTop (mkF m 46 (fL3 a0' p1 b1 (8 : Int32) (own_max (0 : Int32) (own_min (8 : Int32) (p1 - (64 : Int32))))) [(.int ((y8 &&& ((255 : Int32) <<< (((8 : Int32) - (own_max (0 : Int32) (own_min (8 : Int32) (p1 - (64 : Int32))))) &&& 31))).toInt8.toInt32)), (.int (8 : Int32)), (.ref b1)]))
  obtain ⟨T28, h28, X28, e28, W28, V_b1', st28⟩ := stBv X27 hx hZ eq27 V_b1 (j := (8 : Int32)) (i := 8) (by decide) (by decide) (by decide) (Nat.le_of_ble_eq_true rfl) (g := (mkF m 46 (fL3 a0' p1 b1 (8 : Int32) (own_max (0 : Int32) (own_min (8 : Int32) (p1 - (64 : Int32))))) [(.int ((y8 &&& ((255 : Int32) <<< (((8 : Int32) - (own_max (0 : Int32) (own_min (8 : Int32) (p1 - (64 : Int32))))) &&& 31))).toInt8.toInt32)), (.int (8 : Int32)), (.ref b1)])) rfl rfl (hb hby d_prog_6_method_4_code_46)
  have N28 := Fr.snoc X28 N27 g_b1
  have VA := VA.other W28 ne_a0__b1
  have Z0 := Nat.le_trans Z0 (Keep.of_wr W28).1
  have KK := Keep.wr KK W28 (Or.inr sz_b1)
  have V_b1 : Arv Z h28 b1 k1 .byte (16 : Int32) [(.int (own_nb y0 p1 0)), (.int (own_nb y1 p1 8)), (.int (own_nb y2 p1 16)), (.int (own_nb y3 p1 24)), (.int (own_nb y4 p1 32)), (.int (own_nb y5 p1 40)), (.int (own_nb y6 p1 48)), (.int (own_nb y7 p1 56)), (.int (own_nb y8 p1 64)), (.int (0 : Int32)), (.int (0 : Int32)), (.int (0 : Int32)), (.int (0 : Int32)), (.int (0 : Int32)), (.int (0 : Int32)), (.int (0 : Int32))] (.int (0 : Int32)) := V_b1'
  refine go st28 ?_
  show OwnEnd _ _ _ _ _ _ _ (T28.setTop (mkF m 47 (fL3 a0' p1 b1 (8 : Int32) (own_max (0 : Int32) (own_min (8 : Int32) (p1 - (64 : Int32))))) []))
  refine go (fun _ k => by refine XS.iinc X28.here hx rfl (hb hby d_prog_6_method_4_code_47) rfl (l' := (fL3 a0' p1 b1 ((8 : Int32) + (1 : Int32)) (own_max (0 : Int32) (own_min (8 : Int32) (p1 - (64 : Int32)))))) rfl ?_; exact k) ?_
  show OwnEnd _ _ _ _ _ _ _ (T28.setTop (mkF m 50 (fL3 a0' p1 b1 ((8 : Int32) + (1 : Int32)) (own_max (0 : Int32) (own_min (8 : Int32) (p1 - (64 : Int32))))) []))
  rw [show ((8 : Int32) + (1 : Int32)) = (9 : Int32) from by decide]
  refine go (fun _ k => by refine XS.goto X28.here hx rfl (pc0 := 50) (pc' := 7) rfl (hb hby d_prog_6_method_4_code_50) (by decide) (by decide) ?_; exact k) ?_
  refine go (fun _ k => by refine XS.iloadN X28.here hx rfl (hb hby d_prog_6_method_4_code_7) rfl ?_; exact k) ?_
  refine go (fun _ k => by refine XS.aloadN X28.here hx rfl (hb hby d_prog_6_method_4_code_8) rfl rfl ?_; exact k) ?_
  show OwnEnd _ _ _ _ _ _ _ (T28.setTop (mkF m 9 (fL3 a0' p1 b1 (9 : Int32) (own_max (0 : Int32) (own_min (8 : Int32) (p1 - (64 : Int32))))) [(.ref a0'), (.int (9 : Int32))]))
  refine go (lenV X28 hx hZ e28 VA (g := (mkF m 9 (fL3 a0' p1 b1 (9 : Int32) (own_max (0 : Int32) (own_min (8 : Int32) (p1 - (64 : Int32))))) [(.ref a0'), (.int (9 : Int32))])) rfl rfl (hb hby d_prog_6_method_4_code_9)) ?_
  show OwnEnd _ _ _ _ _ _ _ (T28.setTop (mkF m 10 (fL3 a0' p1 b1 (9 : Int32) (own_max (0 : Int32) (own_min (8 : Int32) (p1 - (64 : Int32))))) [(.int (16 : Int32)), (.int (9 : Int32))]))
  refine go (fun _ k => by refine XS.icmpNo X28.here hx rfl (hb hby d_prog_6_method_4_code_10) rfl (tlt (by decide)).2.1 ?_; exact k) ?_
  refine go (fun _ k => by refine XS.iconst X28.here hx rfl (hb hby d_prog_6_method_4_code_13) ?_; exact k) ?_
  refine go (fun _ k => by refine XS.bipush X28.here hx rfl (hb hby d_prog_6_method_4_code_14) ?_; exact k) ?_
  refine go (fun _ k => by refine XS.iloadN X28.here hx rfl (hb hby d_prog_6_method_4_code_16) rfl ?_; exact k) ?_
  show OwnEnd _ _ _ _ _ _ _ (T28.setTop (mkF m 17 (fL3 a0' p1 b1 (9 : Int32) (own_max (0 : Int32) (own_min (8 : Int32) (p1 - (64 : Int32))))) [(.int p1), (.int (8 : Int32)), (.int (0 : Int32))]))
  refine go (fun _ k => by refine XS.bipush X28.here hx rfl (hb hby d_prog_6_method_4_code_17) ?_; exact k) ?_
  refine go (fun _ k => by refine XS.iloadN X28.here hx rfl (hb hby d_prog_6_method_4_code_19) rfl ?_; exact k) ?_
  refine go (fun _ k => by refine XS.imul X28.here hx rfl (hb hby d_prog_6_method_4_code_20) rfl ?_; exact k) ?_
  show OwnEnd _ _ _ _ _ _ _ (T28.setTop (mkF m 21 (fL3 a0' p1 b1 (9 : Int32) (own_max (0 : Int32) (own_min (8 : Int32) (p1 - (64 : Int32))))) [(.int ((8 : Int32) * (9 : Int32))), (.int p1), (.int (8 : Int32)), (.int (0 : Int32))]))
  rw [show ((8 : Int32) * (9 : Int32)) = (72 : Int32) from by decide]
  refine go (fun _ k => by refine XS.isub X28.here hx rfl (hb hby d_prog_6_method_4_code_21) rfl ?_; exact k) ?_
  show OwnEnd _ _ _ _ _ _ _ (T28.setTop (mkF m 22 (fL3 a0' p1 b1 (9 : Int32) (own_max (0 : Int32) (own_min (8 : Int32) (p1 - (64 : Int32))))) [(.int (p1 - (72 : Int32))), (.int (8 : Int32)), (.int (0 : Int32))]))
  obtain ⟨_, T29, L29, X29, hQ29, st29⟩ := callStat X28 hx hZ hown (hw _ (List.mem_of_getElem? (i := 10) rfl)) (hw _ (List.mem_of_getElem? (i := 11) rfl)) (hw _ (List.mem_of_getElem? (i := 12) rfl)) (hw _ (List.mem_of_getElem? (i := 13) rfl)) (by decide) (rm_min l Z a0 hw [] (8 : Int32) (p1 - (72 : Int32)) h28 n0 ) (W := 1) (by decide) (by decide) e28 (g := (mkF m 22 (fL3 a0' p1 b1 (9 : Int32) (own_max (0 : Int32) (own_min (8 : Int32) (p1 - (64 : Int32))))) [(.int (p1 - (72 : Int32))), (.int (8 : Int32)), (.int (0 : Int32))])) rfl (by rw [hml]; rfl) (argsL := [(.int (8 : Int32)), (.int (p1 - (72 : Int32)))]) (rest := [(.int (0 : Int32))]) rfl (lenOf pd__II_I rfl) rfl (by show 2 * 0 + _ ≤ _; exact Nat.le_of_eq rfl) (hb hby d_prog_6_method_4_code_22) (by decide) (by decide)
  obtain ⟨rfl, Nq29, eq29⟩ := hQ29
  have N29 := Fr.app N28 Nq29
  refine go st29 ?_
  show OwnEnd _ _ _ _ _ _ _ (T29.setTop (mkF m 25 (fL3 a0' p1 b1 (9 : Int32) (own_max (0 : Int32) (own_min (8 : Int32) (p1 - (64 : Int32))))) [(.int (own_min (8 : Int32) (p1 - (72 : Int32)))), (.int (0 : Int32))]))
  obtain ⟨_, T30, L30, X30, hQ30, st30⟩ := callStat X29 hx hZ hown (hw _ (List.mem_of_getElem? (i := 14) rfl)) (hw _ (List.mem_of_getElem? (i := 15) rfl)) (hw _ (List.mem_of_getElem? (i := 12) rfl)) (hw _ (List.mem_of_getElem? (i := 16) rfl)) (by decide) (rm_max l Z a0 hw [] (0 : Int32) (own_min (8 : Int32) (p1 - (72 : Int32))) h28 n0 ) (W := 0) (by decide) (by decide) eq29 (g := (mkF m 25 (fL3 a0' p1 b1 (9 : Int32) (own_max (0 : Int32) (own_min (8 : Int32) (p1 - (64 : Int32))))) [(.int (own_min (8 : Int32) (p1 - (72 : Int32)))), (.int (0 : Int32))])) rfl (by rw [hml]; rfl) (argsL := [(.int (0 : Int32)), (.int (own_min (8 : Int32) (p1 - (72 : Int32))))]) (rest := []) rfl (lenOf pd__II_I rfl) rfl (by show 2 * 0 + _ ≤ _; exact Nat.le_of_eq rfl) (hb hby d_prog_6_method_4_code_25) (by decide) (by decide)
  obtain ⟨rfl, Nq30, eq30⟩ := hQ30
  have N30 := Fr.app N29 Nq30
  refine go st30 ?_
  refine go (fun _ k => by refine XS.istore X30.here hx rfl (hb hby d_prog_6_method_4_code_28) rfl (l' := (fL3 a0' p1 b1 (9 : Int32) (own_max (0 : Int32) (own_min (8 : Int32) (p1 - (72 : Int32)))))) rfl ?_; exact k) ?_
  refine go (fun _ k => by refine XS.aloadN X30.here hx rfl (hb hby d_prog_6_method_4_code_30) rfl rfl ?_; exact k) ?_
  refine go (fun _ k => by refine XS.iloadN X30.here hx rfl (hb hby d_prog_6_method_4_code_31) rfl ?_; exact k) ?_
  show OwnEnd _ _ _ _ _ _ _ (T30.setTop (mkF m 32 (fL3 a0' p1 b1 (9 : Int32) (own_max (0 : Int32) (own_min (8 : Int32) (p1 - (72 : Int32))))) [(.int (9 : Int32)), (.ref b1)]))
  refine go (fun _ k => by refine XS.aloadN X30.here hx rfl (hb hby d_prog_6_method_4_code_32) rfl rfl ?_; exact k) ?_
  refine go (fun _ k => by refine XS.iloadN X30.here hx rfl (hb hby d_prog_6_method_4_code_33) rfl ?_; exact k) ?_
  show OwnEnd _ _ _ _ _ _ _ (T30.setTop (mkF m 34 (fL3 a0' p1 b1 (9 : Int32) (own_max (0 : Int32) (own_min (8 : Int32) (p1 - (72 : Int32))))) [(.int (9 : Int32)), (.ref a0'), (.int (9 : Int32)), (.ref b1)]))
  refine go (ldBv X30 hx hZ eq30 VA (j := (9 : Int32)) (i := 9) (w := y9) (by decide) (by decide) (by decide) rfl (g := (mkF m 34 (fL3 a0' p1 b1 (9 : Int32) (own_max (0 : Int32) (own_min (8 : Int32) (p1 - (72 : Int32))))) [(.int (9 : Int32)), (.ref a0'), (.int (9 : Int32)), (.ref b1)])) rfl rfl (hb hby d_prog_6_method_4_code_34)) ?_
  refine go (fun _ k => by refine XS.sipush X30.here hx rfl (hb hby d_prog_6_method_4_code_35) ?_; exact k) ?_
  refine go (fun _ k => by refine XS.bipush X30.here hx rfl (hb hby d_prog_6_method_4_code_38) ?_; exact k) ?_
  refine go (fun _ k => by refine XS.iload X30.here hx rfl (hb hby d_prog_6_method_4_code_40) rfl ?_; exact k) ?_
  show OwnEnd _ _ _ _ _ _ _ (T30.setTop (mkF m 42 (fL3 a0' p1 b1 (9 : Int32) (own_max (0 : Int32) (own_min (8 : Int32) (p1 - (72 : Int32))))) [(.int (own_max (0 : Int32) (own_min (8 : Int32) (p1 - (72 : Int32))))), (.int (8 : Int32)), (.int (255 : Int32)), (.int y9), (.int (9 : Int32)), (.ref b1)]))
  refine go (fun _ k => by refine XS.isub X30.here hx rfl (hb hby d_prog_6_method_4_code_42) rfl ?_; exact k) ?_
  refine go (fun _ k => by refine XS.ishl X30.here hx rfl (hb hby d_prog_6_method_4_code_43) rfl ?_; exact k) ?_
  refine go (fun _ k => by refine XS.iand X30.here hx rfl (hb hby d_prog_6_method_4_code_44) rfl ?_; exact k) ?_
  refine go (fun _ k => by refine XS.i2b X30.here hx rfl (hb hby d_prog_6_method_4_code_45) rfl ?_; exact k) ?_
  show OwnEnd _ _ _ _ _ _ _ (T30.setTop (mkF m 46 (fL3 a0' p1 b1 (9 : Int32) (own_max (0 : Int32) (own_min (8 : Int32) (p1 - (72 : Int32))))) [(.int ((y9 &&& ((255 : Int32) <<< (((8 : Int32) - (own_max (0 : Int32) (own_min (8 : Int32) (p1 - (72 : Int32))))) &&& 31))).toInt8.toInt32)), (.int (9 : Int32)), (.ref b1)]))
  obtain ⟨T31, h31, X31, e31, W31, V_b1', st31⟩ := stBv X30 hx hZ eq30 V_b1 (j := (9 : Int32)) (i := 9) (by decide) (by decide) (by decide) (Nat.le_of_ble_eq_true rfl) (g := (mkF m 46 (fL3 a0' p1 b1 (9 : Int32) (own_max (0 : Int32) (own_min (8 : Int32) (p1 - (72 : Int32))))) [(.int ((y9 &&& ((255 : Int32) <<< (((8 : Int32) - (own_max (0 : Int32) (own_min (8 : Int32) (p1 - (72 : Int32))))) &&& 31))).toInt8.toInt32)), (.int (9 : Int32)), (.ref b1)])) rfl rfl (hb hby d_prog_6_method_4_code_46)
  have N31 := Fr.snoc X31 N30 g_b1
  have VA := VA.other W31 ne_a0__b1
  have Z0 := Nat.le_trans Z0 (Keep.of_wr W31).1
  have KK := Keep.wr KK W31 (Or.inr sz_b1)
  have V_b1 : Arv Z h31 b1 k1 .byte (16 : Int32) [(.int (own_nb y0 p1 0)), (.int (own_nb y1 p1 8)), (.int (own_nb y2 p1 16)), (.int (own_nb y3 p1 24)), (.int (own_nb y4 p1 32)), (.int (own_nb y5 p1 40)), (.int (own_nb y6 p1 48)), (.int (own_nb y7 p1 56)), (.int (own_nb y8 p1 64)), (.int (own_nb y9 p1 72)), (.int (0 : Int32)), (.int (0 : Int32)), (.int (0 : Int32)), (.int (0 : Int32)), (.int (0 : Int32)), (.int (0 : Int32))] (.int (0 : Int32)) := V_b1'
  refine go st31 ?_
  show OwnEnd _ _ _ _ _ _ _ (T31.setTop (mkF m 47 (fL3 a0' p1 b1 (9 : Int32) (own_max (0 : Int32) (own_min (8 : Int32) (p1 - (72 : Int32))))) []))
  refine go (fun _ k => by refine XS.iinc X31.here hx rfl (hb hby d_prog_6_method_4_code_47) rfl (l' := (fL3 a0' p1 b1 ((9 : Int32) + (1 : Int32)) (own_max (0 : Int32) (own_min (8 : Int32) (p1 - (72 : Int32)))))) rfl ?_; exact k) ?_
  show OwnEnd _ _ _ _ _ _ _ (T31.setTop (mkF m 50 (fL3 a0' p1 b1 ((9 : Int32) + (1 : Int32)) (own_max (0 : Int32) (own_min (8 : Int32) (p1 - (72 : Int32))))) []))
  rw [show ((9 : Int32) + (1 : Int32)) = (10 : Int32) from by decide]
  refine go (fun _ k => by refine XS.goto X31.here hx rfl (pc0 := 50) (pc' := 7) rfl (hb hby d_prog_6_method_4_code_50) (by decide) (by decide) ?_; exact k) ?_
  refine go (fun _ k => by refine XS.iloadN X31.here hx rfl (hb hby d_prog_6_method_4_code_7) rfl ?_; exact k) ?_
  refine go (fun _ k => by refine XS.aloadN X31.here hx rfl (hb hby d_prog_6_method_4_code_8) rfl rfl ?_; exact k) ?_
  show OwnEnd _ _ _ _ _ _ _ (T31.setTop (mkF m 9 (fL3 a0' p1 b1 (10 : Int32) (own_max (0 : Int32) (own_min (8 : Int32) (p1 - (72 : Int32))))) [(.ref a0'), (.int (10 : Int32))]))
  refine go (lenV X31 hx hZ e31 VA (g := (mkF m 9 (fL3 a0' p1 b1 (10 : Int32) (own_max (0 : Int32) (own_min (8 : Int32) (p1 - (72 : Int32))))) [(.ref a0'), (.int (10 : Int32))])) rfl rfl (hb hby d_prog_6_method_4_code_9)) ?_
  show OwnEnd _ _ _ _ _ _ _ (T31.setTop (mkF m 10 (fL3 a0' p1 b1 (10 : Int32) (own_max (0 : Int32) (own_min (8 : Int32) (p1 - (72 : Int32))))) [(.int (16 : Int32)), (.int (10 : Int32))]))
  refine go (fun _ k => by refine XS.icmpNo X31.here hx rfl (hb hby d_prog_6_method_4_code_10) rfl (tlt (by decide)).2.1 ?_; exact k) ?_
  refine go (fun _ k => by refine XS.iconst X31.here hx rfl (hb hby d_prog_6_method_4_code_13) ?_; exact k) ?_
  refine go (fun _ k => by refine XS.bipush X31.here hx rfl (hb hby d_prog_6_method_4_code_14) ?_; exact k) ?_
  refine go (fun _ k => by refine XS.iloadN X31.here hx rfl (hb hby d_prog_6_method_4_code_16) rfl ?_; exact k) ?_
  show OwnEnd _ _ _ _ _ _ _ (T31.setTop (mkF m 17 (fL3 a0' p1 b1 (10 : Int32) (own_max (0 : Int32) (own_min (8 : Int32) (p1 - (72 : Int32))))) [(.int p1), (.int (8 : Int32)), (.int (0 : Int32))]))
  refine go (fun _ k => by refine XS.bipush X31.here hx rfl (hb hby d_prog_6_method_4_code_17) ?_; exact k) ?_
  refine go (fun _ k => by refine XS.iloadN X31.here hx rfl (hb hby d_prog_6_method_4_code_19) rfl ?_; exact k) ?_
  refine go (fun _ k => by refine XS.imul X31.here hx rfl (hb hby d_prog_6_method_4_code_20) rfl ?_; exact k) ?_
  show OwnEnd _ _ _ _ _ _ _ (T31.setTop (mkF m 21 (fL3 a0' p1 b1 (10 : Int32) (own_max (0 : Int32) (own_min (8 : Int32) (p1 - (72 : Int32))))) [(.int ((8 : Int32) * (10 : Int32))), (.int p1), (.int (8 : Int32)), (.int (0 : Int32))]))
  rw [show ((8 : Int32) * (10 : Int32)) = (80 : Int32) from by decide]
  refine go (fun _ k => by refine XS.isub X31.here hx rfl (hb hby d_prog_6_method_4_code_21) rfl ?_; exact k) ?_
  show OwnEnd _ _ _ _ _ _ _ (T31.setTop (mkF m 22 (fL3 a0' p1 b1 (10 : Int32) (own_max (0 : Int32) (own_min (8 : Int32) (p1 - (72 : Int32))))) [(.int (p1 - (80 : Int32))), (.int (8 : Int32)), (.int (0 : Int32))]))
  obtain ⟨_, T32, L32, X32, hQ32, st32⟩ := callStat X31 hx hZ hown (hw _ (List.mem_of_getElem? (i := 10) rfl)) (hw _ (List.mem_of_getElem? (i := 11) rfl)) (hw _ (List.mem_of_getElem? (i := 12) rfl)) (hw _ (List.mem_of_getElem? (i := 13) rfl)) (by decide) (rm_min l Z a0 hw [] (8 : Int32) (p1 - (80 : Int32)) h31 n0 ) (W := 1) (by decide) (by decide) e31 (g := (mkF m 22 (fL3 a0' p1 b1 (10 : Int32) (own_max (0 : Int32) (own_min (8 : Int32) (p1 - (72 : Int32))))) [(.int (p1 - (80 : Int32))), (.int (8 : Int32)), (.int (0 : Int32))])) rfl (by rw [hml]; rfl) (argsL := [(.int (8 : Int32)), (.int (p1 - (80 : Int32)))]) (rest := [(.int (0 : Int32))]) rfl (lenOf pd__II_I rfl) rfl (by show 2 * 0 + _ ≤ _; exact Nat.le_of_eq rfl) (hb hby d_prog_6_method_4_code_22) (by decide) (by decide)
  obtain ⟨rfl, Nq32, eq32⟩ := hQ32
  have N32 := Fr.app N31 Nq32
  refine go st32 ?_
  show OwnEnd _ _ _ _ _ _ _ (T32.setTop (mkF m 25 (fL3 a0' p1 b1 (10 : Int32) (own_max (0 : Int32) (own_min (8 : Int32) (p1 - (72 : Int32))))) [(.int (own_min (8 : Int32) (p1 - (80 : Int32)))), (.int (0 : Int32))]))
  obtain ⟨_, T33, L33, X33, hQ33, st33⟩ := callStat X32 hx hZ hown (hw _ (List.mem_of_getElem? (i := 14) rfl)) (hw _ (List.mem_of_getElem? (i := 15) rfl)) (hw _ (List.mem_of_getElem? (i := 12) rfl)) (hw _ (List.mem_of_getElem? (i := 16) rfl)) (by decide) (rm_max l Z a0 hw [] (0 : Int32) (own_min (8 : Int32) (p1 - (80 : Int32))) h31 n0 ) (W := 0) (by decide) (by decide) eq32 (g := (mkF m 25 (fL3 a0' p1 b1 (10 : Int32) (own_max (0 : Int32) (own_min (8 : Int32) (p1 - (72 : Int32))))) [(.int (own_min (8 : Int32) (p1 - (80 : Int32)))), (.int (0 : Int32))])) rfl (by rw [hml]; rfl) (argsL := [(.int (0 : Int32)), (.int (own_min (8 : Int32) (p1 - (80 : Int32))))]) (rest := []) rfl (lenOf pd__II_I rfl) rfl (by show 2 * 0 + _ ≤ _; exact Nat.le_of_eq rfl) (hb hby d_prog_6_method_4_code_25) (by decide) (by decide)
  obtain ⟨rfl, Nq33, eq33⟩ := hQ33
  have N33 := Fr.app N32 Nq33
  refine go st33 ?_
  refine go (fun _ k => by refine XS.istore X33.here hx rfl (hb hby d_prog_6_method_4_code_28) rfl (l' := (fL3 a0' p1 b1 (10 : Int32) (own_max (0 : Int32) (own_min (8 : Int32) (p1 - (80 : Int32)))))) rfl ?_; exact k) ?_
  refine go (fun _ k => by refine XS.aloadN X33.here hx rfl (hb hby d_prog_6_method_4_code_30) rfl rfl ?_; exact k) ?_
  refine go (fun _ k => by refine XS.iloadN X33.here hx rfl (hb hby d_prog_6_method_4_code_31) rfl ?_; exact k) ?_
  show OwnEnd _ _ _ _ _ _ _ (T33.setTop (mkF m 32 (fL3 a0' p1 b1 (10 : Int32) (own_max (0 : Int32) (own_min (8 : Int32) (p1 - (80 : Int32))))) [(.int (10 : Int32)), (.ref b1)]))
  refine go (fun _ k => by refine XS.aloadN X33.here hx rfl (hb hby d_prog_6_method_4_code_32) rfl rfl ?_; exact k) ?_
  refine go (fun _ k => by refine XS.iloadN X33.here hx rfl (hb hby d_prog_6_method_4_code_33) rfl ?_; exact k) ?_
  show OwnEnd _ _ _ _ _ _ _ (T33.setTop (mkF m 34 (fL3 a0' p1 b1 (10 : Int32) (own_max (0 : Int32) (own_min (8 : Int32) (p1 - (80 : Int32))))) [(.int (10 : Int32)), (.ref a0'), (.int (10 : Int32)), (.ref b1)]))
  refine go (ldBv X33 hx hZ eq33 VA (j := (10 : Int32)) (i := 10) (w := y10) (by decide) (by decide) (by decide) rfl (g := (mkF m 34 (fL3 a0' p1 b1 (10 : Int32) (own_max (0 : Int32) (own_min (8 : Int32) (p1 - (80 : Int32))))) [(.int (10 : Int32)), (.ref a0'), (.int (10 : Int32)), (.ref b1)])) rfl rfl (hb hby d_prog_6_method_4_code_34)) ?_
  refine go (fun _ k => by refine XS.sipush X33.here hx rfl (hb hby d_prog_6_method_4_code_35) ?_; exact k) ?_
  refine go (fun _ k => by refine XS.bipush X33.here hx rfl (hb hby d_prog_6_method_4_code_38) ?_; exact k) ?_
  refine go (fun _ k => by refine XS.iload X33.here hx rfl (hb hby d_prog_6_method_4_code_40) rfl ?_; exact k) ?_
  show OwnEnd _ _ _ _ _ _ _ (T33.setTop (mkF m 42 (fL3 a0' p1 b1 (10 : Int32) (own_max (0 : Int32) (own_min (8 : Int32) (p1 - (80 : Int32))))) [(.int (own_max (0 : Int32) (own_min (8 : Int32) (p1 - (80 : Int32))))), (.int (8 : Int32)), (.int (255 : Int32)), (.int y10), (.int (10 : Int32)), (.ref b1)]))
  refine go (fun _ k => by refine XS.isub X33.here hx rfl (hb hby d_prog_6_method_4_code_42) rfl ?_; exact k) ?_
  refine go (fun _ k => by refine XS.ishl X33.here hx rfl (hb hby d_prog_6_method_4_code_43) rfl ?_; exact k) ?_
  refine go (fun _ k => by refine XS.iand X33.here hx rfl (hb hby d_prog_6_method_4_code_44) rfl ?_; exact k) ?_
  refine go (fun _ k => by refine XS.i2b X33.here hx rfl (hb hby d_prog_6_method_4_code_45) rfl ?_; exact k) ?_
  show OwnEnd _ _ _ _ _ _ _ (T33.setTop (mkF m 46 (fL3 a0' p1 b1 (10 : Int32) (own_max (0 : Int32) (own_min (8 : Int32) (p1 - (80 : Int32))))) [(.int ((y10 &&& ((255 : Int32) <<< (((8 : Int32) - (own_max (0 : Int32) (own_min (8 : Int32) (p1 - (80 : Int32))))) &&& 31))).toInt8.toInt32)), (.int (10 : Int32)), (.ref b1)]))
  obtain ⟨T34, h34, X34, e34, W34, V_b1', st34⟩ := stBv X33 hx hZ eq33 V_b1 (j := (10 : Int32)) (i := 10) (by decide) (by decide) (by decide) (Nat.le_of_ble_eq_true rfl) (g := (mkF m 46 (fL3 a0' p1 b1 (10 : Int32) (own_max (0 : Int32) (own_min (8 : Int32) (p1 - (80 : Int32))))) [(.int ((y10 &&& ((255 : Int32) <<< (((8 : Int32) - (own_max (0 : Int32) (own_min (8 : Int32) (p1 - (80 : Int32))))) &&& 31))).toInt8.toInt32)), (.int (10 : Int32)), (.ref b1)])) rfl rfl (hb hby d_prog_6_method_4_code_46)
  have N34 := Fr.snoc X34 N33 g_b1
  have VA := VA.other W34 ne_a0__b1
  have Z0 := Nat.le_trans Z0 (Keep.of_wr W34).1
  have KK := Keep.wr KK W34 (Or.inr sz_b1)
  have V_b1 : Arv Z h34 b1 k1 .byte (16 : Int32) [(.int (own_nb y0 p1 0)), (.int (own_nb y1 p1 8)), (.int (own_nb y2 p1 16)), (.int (own_nb y3 p1 24)), (.int (own_nb y4 p1 32)), (.int (own_nb y5 p1 40)), (.int (own_nb y6 p1 48)), (.int (own_nb y7 p1 56)), (.int (own_nb y8 p1 64)), (.int (own_nb y9 p1 72)), (.int (own_nb y10 p1 80)), (.int (0 : Int32)), (.int (0 : Int32)), (.int (0 : Int32)), (.int (0 : Int32)), (.int (0 : Int32))] (.int (0 : Int32)) := V_b1'
  refine go st34 ?_
  show OwnEnd _ _ _ _ _ _ _ (T34.setTop (mkF m 47 (fL3 a0' p1 b1 (10 : Int32) (own_max (0 : Int32) (own_min (8 : Int32) (p1 - (80 : Int32))))) []))
  refine go (fun _ k => by refine XS.iinc X34.here hx rfl (hb hby d_prog_6_method_4_code_47) rfl (l' := (fL3 a0' p1 b1 ((10 : Int32) + (1 : Int32)) (own_max (0 : Int32) (own_min (8 : Int32) (p1 - (80 : Int32)))))) rfl ?_; exact k) ?_
  show OwnEnd _ _ _ _ _ _ _ (T34.setTop (mkF m 50 (fL3 a0' p1 b1 ((10 : Int32) + (1 : Int32)) (own_max (0 : Int32) (own_min (8 : Int32) (p1 - (80 : Int32))))) []))
  rw [show ((10 : Int32) + (1 : Int32)) = (11 : Int32) from by decide]
  refine go (fun _ k => by refine XS.goto X34.here hx rfl (pc0 := 50) (pc' := 7) rfl (hb hby d_prog_6_method_4_code_50) (by decide) (by decide) ?_; exact k) ?_
  refine go (fun _ k => by refine XS.iloadN X34.here hx rfl (hb hby d_prog_6_method_4_code_7) rfl ?_; exact k) ?_
  refine go (fun _ k => by refine XS.aloadN X34.here hx rfl (hb hby d_prog_6_method_4_code_8) rfl rfl ?_; exact k) ?_
  show OwnEnd _ _ _ _ _ _ _ (T34.setTop (mkF m 9 (fL3 a0' p1 b1 (11 : Int32) (own_max (0 : Int32) (own_min (8 : Int32) (p1 - (80 : Int32))))) [(.ref a0'), (.int (11 : Int32))]))
  refine go (lenV X34 hx hZ e34 VA (g := (mkF m 9 (fL3 a0' p1 b1 (11 : Int32) (own_max (0 : Int32) (own_min (8 : Int32) (p1 - (80 : Int32))))) [(.ref a0'), (.int (11 : Int32))])) rfl rfl (hb hby d_prog_6_method_4_code_9)) ?_
  show OwnEnd _ _ _ _ _ _ _ (T34.setTop (mkF m 10 (fL3 a0' p1 b1 (11 : Int32) (own_max (0 : Int32) (own_min (8 : Int32) (p1 - (80 : Int32))))) [(.int (16 : Int32)), (.int (11 : Int32))]))
  refine go (fun _ k => by refine XS.icmpNo X34.here hx rfl (hb hby d_prog_6_method_4_code_10) rfl (tlt (by decide)).2.1 ?_; exact k) ?_
  refine go (fun _ k => by refine XS.iconst X34.here hx rfl (hb hby d_prog_6_method_4_code_13) ?_; exact k) ?_
  refine go (fun _ k => by refine XS.bipush X34.here hx rfl (hb hby d_prog_6_method_4_code_14) ?_; exact k) ?_
  refine go (fun _ k => by refine XS.iloadN X34.here hx rfl (hb hby d_prog_6_method_4_code_16) rfl ?_; exact k) ?_
  show OwnEnd _ _ _ _ _ _ _ (T34.setTop (mkF m 17 (fL3 a0' p1 b1 (11 : Int32) (own_max (0 : Int32) (own_min (8 : Int32) (p1 - (80 : Int32))))) [(.int p1), (.int (8 : Int32)), (.int (0 : Int32))]))
  refine go (fun _ k => by refine XS.bipush X34.here hx rfl (hb hby d_prog_6_method_4_code_17) ?_; exact k) ?_
  refine go (fun _ k => by refine XS.iloadN X34.here hx rfl (hb hby d_prog_6_method_4_code_19) rfl ?_; exact k) ?_
  refine go (fun _ k => by refine XS.imul X34.here hx rfl (hb hby d_prog_6_method_4_code_20) rfl ?_; exact k) ?_
  show OwnEnd _ _ _ _ _ _ _ (T34.setTop (mkF m 21 (fL3 a0' p1 b1 (11 : Int32) (own_max (0 : Int32) (own_min (8 : Int32) (p1 - (80 : Int32))))) [(.int ((8 : Int32) * (11 : Int32))), (.int p1), (.int (8 : Int32)), (.int (0 : Int32))]))
  rw [show ((8 : Int32) * (11 : Int32)) = (88 : Int32) from by decide]
  refine go (fun _ k => by refine XS.isub X34.here hx rfl (hb hby d_prog_6_method_4_code_21) rfl ?_; exact k) ?_
  show OwnEnd _ _ _ _ _ _ _ (T34.setTop (mkF m 22 (fL3 a0' p1 b1 (11 : Int32) (own_max (0 : Int32) (own_min (8 : Int32) (p1 - (80 : Int32))))) [(.int (p1 - (88 : Int32))), (.int (8 : Int32)), (.int (0 : Int32))]))
  obtain ⟨_, T35, L35, X35, hQ35, st35⟩ := callStat X34 hx hZ hown (hw _ (List.mem_of_getElem? (i := 10) rfl)) (hw _ (List.mem_of_getElem? (i := 11) rfl)) (hw _ (List.mem_of_getElem? (i := 12) rfl)) (hw _ (List.mem_of_getElem? (i := 13) rfl)) (by decide) (rm_min l Z a0 hw [] (8 : Int32) (p1 - (88 : Int32)) h34 n0 ) (W := 1) (by decide) (by decide) e34 (g := (mkF m 22 (fL3 a0' p1 b1 (11 : Int32) (own_max (0 : Int32) (own_min (8 : Int32) (p1 - (80 : Int32))))) [(.int (p1 - (88 : Int32))), (.int (8 : Int32)), (.int (0 : Int32))])) rfl (by rw [hml]; rfl) (argsL := [(.int (8 : Int32)), (.int (p1 - (88 : Int32)))]) (rest := [(.int (0 : Int32))]) rfl (lenOf pd__II_I rfl) rfl (by show 2 * 0 + _ ≤ _; exact Nat.le_of_eq rfl) (hb hby d_prog_6_method_4_code_22) (by decide) (by decide)
  obtain ⟨rfl, Nq35, eq35⟩ := hQ35
  have N35 := Fr.app N34 Nq35
  refine go st35 ?_
  show OwnEnd _ _ _ _ _ _ _ (T35.setTop (mkF m 25 (fL3 a0' p1 b1 (11 : Int32) (own_max (0 : Int32) (own_min (8 : Int32) (p1 - (80 : Int32))))) [(.int (own_min (8 : Int32) (p1 - (88 : Int32)))), (.int (0 : Int32))]))
  obtain ⟨_, T36, L36, X36, hQ36, st36⟩ := callStat X35 hx hZ hown (hw _ (List.mem_of_getElem? (i := 14) rfl)) (hw _ (List.mem_of_getElem? (i := 15) rfl)) (hw _ (List.mem_of_getElem? (i := 12) rfl)) (hw _ (List.mem_of_getElem? (i := 16) rfl)) (by decide) (rm_max l Z a0 hw [] (0 : Int32) (own_min (8 : Int32) (p1 - (88 : Int32))) h34 n0 ) (W := 0) (by decide) (by decide) eq35 (g := (mkF m 25 (fL3 a0' p1 b1 (11 : Int32) (own_max (0 : Int32) (own_min (8 : Int32) (p1 - (80 : Int32))))) [(.int (own_min (8 : Int32) (p1 - (88 : Int32)))), (.int (0 : Int32))])) rfl (by rw [hml]; rfl) (argsL := [(.int (0 : Int32)), (.int (own_min (8 : Int32) (p1 - (88 : Int32))))]) (rest := []) rfl (lenOf pd__II_I rfl) rfl (by show 2 * 0 + _ ≤ _; exact Nat.le_of_eq rfl) (hb hby d_prog_6_method_4_code_25) (by decide) (by decide)
  obtain ⟨rfl, Nq36, eq36⟩ := hQ36
  have N36 := Fr.app N35 Nq36
  refine go st36 ?_
  refine go (fun _ k => by refine XS.istore X36.here hx rfl (hb hby d_prog_6_method_4_code_28) rfl (l' := (fL3 a0' p1 b1 (11 : Int32) (own_max (0 : Int32) (own_min (8 : Int32) (p1 - (88 : Int32)))))) rfl ?_; exact k) ?_
  refine go (fun _ k => by refine XS.aloadN X36.here hx rfl (hb hby d_prog_6_method_4_code_30) rfl rfl ?_; exact k) ?_
  refine go (fun _ k => by refine XS.iloadN X36.here hx rfl (hb hby d_prog_6_method_4_code_31) rfl ?_; exact k) ?_
  show OwnEnd _ _ _ _ _ _ _ (T36.setTop (mkF m 32 (fL3 a0' p1 b1 (11 : Int32) (own_max (0 : Int32) (own_min (8 : Int32) (p1 - (88 : Int32))))) [(.int (11 : Int32)), (.ref b1)]))
  refine go (fun _ k => by refine XS.aloadN X36.here hx rfl (hb hby d_prog_6_method_4_code_32) rfl rfl ?_; exact k) ?_
  refine go (fun _ k => by refine XS.iloadN X36.here hx rfl (hb hby d_prog_6_method_4_code_33) rfl ?_; exact k) ?_
  show OwnEnd _ _ _ _ _ _ _ (T36.setTop (mkF m 34 (fL3 a0' p1 b1 (11 : Int32) (own_max (0 : Int32) (own_min (8 : Int32) (p1 - (88 : Int32))))) [(.int (11 : Int32)), (.ref a0'), (.int (11 : Int32)), (.ref b1)]))
  refine go (ldBv X36 hx hZ eq36 VA (j := (11 : Int32)) (i := 11) (w := y11) (by decide) (by decide) (by decide) rfl (g := (mkF m 34 (fL3 a0' p1 b1 (11 : Int32) (own_max (0 : Int32) (own_min (8 : Int32) (p1 - (88 : Int32))))) [(.int (11 : Int32)), (.ref a0'), (.int (11 : Int32)), (.ref b1)])) rfl rfl (hb hby d_prog_6_method_4_code_34)) ?_
  refine go (fun _ k => by refine XS.sipush X36.here hx rfl (hb hby d_prog_6_method_4_code_35) ?_; exact k) ?_
  refine go (fun _ k => by refine XS.bipush X36.here hx rfl (hb hby d_prog_6_method_4_code_38) ?_; exact k) ?_
  refine go (fun _ k => by refine XS.iload X36.here hx rfl (hb hby d_prog_6_method_4_code_40) rfl ?_; exact k) ?_
  show OwnEnd _ _ _ _ _ _ _ (T36.setTop (mkF m 42 (fL3 a0' p1 b1 (11 : Int32) (own_max (0 : Int32) (own_min (8 : Int32) (p1 - (88 : Int32))))) [(.int (own_max (0 : Int32) (own_min (8 : Int32) (p1 - (88 : Int32))))), (.int (8 : Int32)), (.int (255 : Int32)), (.int y11), (.int (11 : Int32)), (.ref b1)]))
  refine go (fun _ k => by refine XS.isub X36.here hx rfl (hb hby d_prog_6_method_4_code_42) rfl ?_; exact k) ?_
  refine go (fun _ k => by refine XS.ishl X36.here hx rfl (hb hby d_prog_6_method_4_code_43) rfl ?_; exact k) ?_
  refine go (fun _ k => by refine XS.iand X36.here hx rfl (hb hby d_prog_6_method_4_code_44) rfl ?_; exact k) ?_
  refine go (fun _ k => by refine XS.i2b X36.here hx rfl (hb hby d_prog_6_method_4_code_45) rfl ?_; exact k) ?_
  show OwnEnd _ _ _ _ _ _ _ (T36.setTop (mkF m 46 (fL3 a0' p1 b1 (11 : Int32) (own_max (0 : Int32) (own_min (8 : Int32) (p1 - (88 : Int32))))) [(.int ((y11 &&& ((255 : Int32) <<< (((8 : Int32) - (own_max (0 : Int32) (own_min (8 : Int32) (p1 - (88 : Int32))))) &&& 31))).toInt8.toInt32)), (.int (11 : Int32)), (.ref b1)]))
  obtain ⟨T37, h37, X37, e37, W37, V_b1', st37⟩ := stBv X36 hx hZ eq36 V_b1 (j := (11 : Int32)) (i := 11) (by decide) (by decide) (by decide) (Nat.le_of_ble_eq_true rfl) (g := (mkF m 46 (fL3 a0' p1 b1 (11 : Int32) (own_max (0 : Int32) (own_min (8 : Int32) (p1 - (88 : Int32))))) [(.int ((y11 &&& ((255 : Int32) <<< (((8 : Int32) - (own_max (0 : Int32) (own_min (8 : Int32) (p1 - (88 : Int32))))) &&& 31))).toInt8.toInt32)), (.int (11 : Int32)), (.ref b1)])) rfl rfl (hb hby d_prog_6_method_4_code_46)
  have N37 := Fr.snoc X37 N36 g_b1
  have VA := VA.other W37 ne_a0__b1
  have Z0 := Nat.le_trans Z0 (Keep.of_wr W37).1
  have KK := Keep.wr KK W37 (Or.inr sz_b1)
  have V_b1 : Arv Z h37 b1 k1 .byte (16 : Int32) [(.int (own_nb y0 p1 0)), (.int (own_nb y1 p1 8)), (.int (own_nb y2 p1 16)), (.int (own_nb y3 p1 24)), (.int (own_nb y4 p1 32)), (.int (own_nb y5 p1 40)), (.int (own_nb y6 p1 48)), (.int (own_nb y7 p1 56)), (.int (own_nb y8 p1 64)), (.int (own_nb y9 p1 72)), (.int (own_nb y10 p1 80)), (.int (own_nb y11 p1 88)), (.int (0 : Int32)), (.int (0 : Int32)), (.int (0 : Int32)), (.int (0 : Int32))] (.int (0 : Int32)) := V_b1'
  refine go st37 ?_
  show OwnEnd _ _ _ _ _ _ _ (T37.setTop (mkF m 47 (fL3 a0' p1 b1 (11 : Int32) (own_max (0 : Int32) (own_min (8 : Int32) (p1 - (88 : Int32))))) []))
  refine go (fun _ k => by refine XS.iinc X37.here hx rfl (hb hby d_prog_6_method_4_code_47) rfl (l' := (fL3 a0' p1 b1 ((11 : Int32) + (1 : Int32)) (own_max (0 : Int32) (own_min (8 : Int32) (p1 - (88 : Int32)))))) rfl ?_; exact k) ?_
  show OwnEnd _ _ _ _ _ _ _ (T37.setTop (mkF m 50 (fL3 a0' p1 b1 ((11 : Int32) + (1 : Int32)) (own_max (0 : Int32) (own_min (8 : Int32) (p1 - (88 : Int32))))) []))
  rw [show ((11 : Int32) + (1 : Int32)) = (12 : Int32) from by decide]
  refine go (fun _ k => by refine XS.goto X37.here hx rfl (pc0 := 50) (pc' := 7) rfl (hb hby d_prog_6_method_4_code_50) (by decide) (by decide) ?_; exact k) ?_
  refine go (fun _ k => by refine XS.iloadN X37.here hx rfl (hb hby d_prog_6_method_4_code_7) rfl ?_; exact k) ?_
  refine go (fun _ k => by refine XS.aloadN X37.here hx rfl (hb hby d_prog_6_method_4_code_8) rfl rfl ?_; exact k) ?_
  show OwnEnd _ _ _ _ _ _ _ (T37.setTop (mkF m 9 (fL3 a0' p1 b1 (12 : Int32) (own_max (0 : Int32) (own_min (8 : Int32) (p1 - (88 : Int32))))) [(.ref a0'), (.int (12 : Int32))]))
  refine go (lenV X37 hx hZ e37 VA (g := (mkF m 9 (fL3 a0' p1 b1 (12 : Int32) (own_max (0 : Int32) (own_min (8 : Int32) (p1 - (88 : Int32))))) [(.ref a0'), (.int (12 : Int32))])) rfl rfl (hb hby d_prog_6_method_4_code_9)) ?_
  show OwnEnd _ _ _ _ _ _ _ (T37.setTop (mkF m 10 (fL3 a0' p1 b1 (12 : Int32) (own_max (0 : Int32) (own_min (8 : Int32) (p1 - (88 : Int32))))) [(.int (16 : Int32)), (.int (12 : Int32))]))
  refine go (fun _ k => by refine XS.icmpNo X37.here hx rfl (hb hby d_prog_6_method_4_code_10) rfl (tlt (by decide)).2.1 ?_; exact k) ?_
  refine go (fun _ k => by refine XS.iconst X37.here hx rfl (hb hby d_prog_6_method_4_code_13) ?_; exact k) ?_
  refine go (fun _ k => by refine XS.bipush X37.here hx rfl (hb hby d_prog_6_method_4_code_14) ?_; exact k) ?_
  refine go (fun _ k => by refine XS.iloadN X37.here hx rfl (hb hby d_prog_6_method_4_code_16) rfl ?_; exact k) ?_
  show OwnEnd _ _ _ _ _ _ _ (T37.setTop (mkF m 17 (fL3 a0' p1 b1 (12 : Int32) (own_max (0 : Int32) (own_min (8 : Int32) (p1 - (88 : Int32))))) [(.int p1), (.int (8 : Int32)), (.int (0 : Int32))]))
  refine go (fun _ k => by refine XS.bipush X37.here hx rfl (hb hby d_prog_6_method_4_code_17) ?_; exact k) ?_
  refine go (fun _ k => by refine XS.iloadN X37.here hx rfl (hb hby d_prog_6_method_4_code_19) rfl ?_; exact k) ?_
  refine go (fun _ k => by refine XS.imul X37.here hx rfl (hb hby d_prog_6_method_4_code_20) rfl ?_; exact k) ?_
  show OwnEnd _ _ _ _ _ _ _ (T37.setTop (mkF m 21 (fL3 a0' p1 b1 (12 : Int32) (own_max (0 : Int32) (own_min (8 : Int32) (p1 - (88 : Int32))))) [(.int ((8 : Int32) * (12 : Int32))), (.int p1), (.int (8 : Int32)), (.int (0 : Int32))]))
  rw [show ((8 : Int32) * (12 : Int32)) = (96 : Int32) from by decide]
  refine go (fun _ k => by refine XS.isub X37.here hx rfl (hb hby d_prog_6_method_4_code_21) rfl ?_; exact k) ?_
  show OwnEnd _ _ _ _ _ _ _ (T37.setTop (mkF m 22 (fL3 a0' p1 b1 (12 : Int32) (own_max (0 : Int32) (own_min (8 : Int32) (p1 - (88 : Int32))))) [(.int (p1 - (96 : Int32))), (.int (8 : Int32)), (.int (0 : Int32))]))
  obtain ⟨_, T38, L38, X38, hQ38, st38⟩ := callStat X37 hx hZ hown (hw _ (List.mem_of_getElem? (i := 10) rfl)) (hw _ (List.mem_of_getElem? (i := 11) rfl)) (hw _ (List.mem_of_getElem? (i := 12) rfl)) (hw _ (List.mem_of_getElem? (i := 13) rfl)) (by decide) (rm_min l Z a0 hw [] (8 : Int32) (p1 - (96 : Int32)) h37 n0 ) (W := 1) (by decide) (by decide) e37 (g := (mkF m 22 (fL3 a0' p1 b1 (12 : Int32) (own_max (0 : Int32) (own_min (8 : Int32) (p1 - (88 : Int32))))) [(.int (p1 - (96 : Int32))), (.int (8 : Int32)), (.int (0 : Int32))])) rfl (by rw [hml]; rfl) (argsL := [(.int (8 : Int32)), (.int (p1 - (96 : Int32)))]) (rest := [(.int (0 : Int32))]) rfl (lenOf pd__II_I rfl) rfl (by show 2 * 0 + _ ≤ _; exact Nat.le_of_eq rfl) (hb hby d_prog_6_method_4_code_22) (by decide) (by decide)
  obtain ⟨rfl, Nq38, eq38⟩ := hQ38
  have N38 := Fr.app N37 Nq38
  refine go st38 ?_
  show OwnEnd _ _ _ _ _ _ _ (T38.setTop (mkF m 25 (fL3 a0' p1 b1 (12 : Int32) (own_max (0 : Int32) (own_min (8 : Int32) (p1 - (88 : Int32))))) [(.int (own_min (8 : Int32) (p1 - (96 : Int32)))), (.int (0 : Int32))]))
  obtain ⟨_, T39, L39, X39, hQ39, st39⟩ := callStat X38 hx hZ hown (hw _ (List.mem_of_getElem? (i := 14) rfl)) (hw _ (List.mem_of_getElem? (i := 15) rfl)) (hw _ (List.mem_of_getElem? (i := 12) rfl)) (hw _ (List.mem_of_getElem? (i := 16) rfl)) (by decide) (rm_max l Z a0 hw [] (0 : Int32) (own_min (8 : Int32) (p1 - (96 : Int32))) h37 n0 ) (W := 0) (by decide) (by decide) eq38 (g := (mkF m 25 (fL3 a0' p1 b1 (12 : Int32) (own_max (0 : Int32) (own_min (8 : Int32) (p1 - (88 : Int32))))) [(.int (own_min (8 : Int32) (p1 - (96 : Int32)))), (.int (0 : Int32))])) rfl (by rw [hml]; rfl) (argsL := [(.int (0 : Int32)), (.int (own_min (8 : Int32) (p1 - (96 : Int32))))]) (rest := []) rfl (lenOf pd__II_I rfl) rfl (by show 2 * 0 + _ ≤ _; exact Nat.le_of_eq rfl) (hb hby d_prog_6_method_4_code_25) (by decide) (by decide)
  obtain ⟨rfl, Nq39, eq39⟩ := hQ39
  have N39 := Fr.app N38 Nq39
  refine go st39 ?_
  refine go (fun _ k => by refine XS.istore X39.here hx rfl (hb hby d_prog_6_method_4_code_28) rfl (l' := (fL3 a0' p1 b1 (12 : Int32) (own_max (0 : Int32) (own_min (8 : Int32) (p1 - (96 : Int32)))))) rfl ?_; exact k) ?_
  refine go (fun _ k => by refine XS.aloadN X39.here hx rfl (hb hby d_prog_6_method_4_code_30) rfl rfl ?_; exact k) ?_
  refine go (fun _ k => by refine XS.iloadN X39.here hx rfl (hb hby d_prog_6_method_4_code_31) rfl ?_; exact k) ?_
  show OwnEnd _ _ _ _ _ _ _ (T39.setTop (mkF m 32 (fL3 a0' p1 b1 (12 : Int32) (own_max (0 : Int32) (own_min (8 : Int32) (p1 - (96 : Int32))))) [(.int (12 : Int32)), (.ref b1)]))
  refine go (fun _ k => by refine XS.aloadN X39.here hx rfl (hb hby d_prog_6_method_4_code_32) rfl rfl ?_; exact k) ?_
  refine go (fun _ k => by refine XS.iloadN X39.here hx rfl (hb hby d_prog_6_method_4_code_33) rfl ?_; exact k) ?_
  show OwnEnd _ _ _ _ _ _ _ (T39.setTop (mkF m 34 (fL3 a0' p1 b1 (12 : Int32) (own_max (0 : Int32) (own_min (8 : Int32) (p1 - (96 : Int32))))) [(.int (12 : Int32)), (.ref a0'), (.int (12 : Int32)), (.ref b1)]))
  refine go (ldBv X39 hx hZ eq39 VA (j := (12 : Int32)) (i := 12) (w := y12) (by decide) (by decide) (by decide) rfl (g := (mkF m 34 (fL3 a0' p1 b1 (12 : Int32) (own_max (0 : Int32) (own_min (8 : Int32) (p1 - (96 : Int32))))) [(.int (12 : Int32)), (.ref a0'), (.int (12 : Int32)), (.ref b1)])) rfl rfl (hb hby d_prog_6_method_4_code_34)) ?_
  refine go (fun _ k => by refine XS.sipush X39.here hx rfl (hb hby d_prog_6_method_4_code_35) ?_; exact k) ?_
  refine go (fun _ k => by refine XS.bipush X39.here hx rfl (hb hby d_prog_6_method_4_code_38) ?_; exact k) ?_
  refine go (fun _ k => by refine XS.iload X39.here hx rfl (hb hby d_prog_6_method_4_code_40) rfl ?_; exact k) ?_
  show OwnEnd _ _ _ _ _ _ _ (T39.setTop (mkF m 42 (fL3 a0' p1 b1 (12 : Int32) (own_max (0 : Int32) (own_min (8 : Int32) (p1 - (96 : Int32))))) [(.int (own_max (0 : Int32) (own_min (8 : Int32) (p1 - (96 : Int32))))), (.int (8 : Int32)), (.int (255 : Int32)), (.int y12), (.int (12 : Int32)), (.ref b1)]))
  refine go (fun _ k => by refine XS.isub X39.here hx rfl (hb hby d_prog_6_method_4_code_42) rfl ?_; exact k) ?_
  refine go (fun _ k => by refine XS.ishl X39.here hx rfl (hb hby d_prog_6_method_4_code_43) rfl ?_; exact k) ?_
  refine go (fun _ k => by refine XS.iand X39.here hx rfl (hb hby d_prog_6_method_4_code_44) rfl ?_; exact k) ?_
  refine go (fun _ k => by refine XS.i2b X39.here hx rfl (hb hby d_prog_6_method_4_code_45) rfl ?_; exact k) ?_
  show OwnEnd _ _ _ _ _ _ _ (T39.setTop (mkF m 46 (fL3 a0' p1 b1 (12 : Int32) (own_max (0 : Int32) (own_min (8 : Int32) (p1 - (96 : Int32))))) [(.int ((y12 &&& ((255 : Int32) <<< (((8 : Int32) - (own_max (0 : Int32) (own_min (8 : Int32) (p1 - (96 : Int32))))) &&& 31))).toInt8.toInt32)), (.int (12 : Int32)), (.ref b1)]))
  obtain ⟨T40, h40, X40, e40, W40, V_b1', st40⟩ := stBv X39 hx hZ eq39 V_b1 (j := (12 : Int32)) (i := 12) (by decide) (by decide) (by decide) (Nat.le_of_ble_eq_true rfl) (g := (mkF m 46 (fL3 a0' p1 b1 (12 : Int32) (own_max (0 : Int32) (own_min (8 : Int32) (p1 - (96 : Int32))))) [(.int ((y12 &&& ((255 : Int32) <<< (((8 : Int32) - (own_max (0 : Int32) (own_min (8 : Int32) (p1 - (96 : Int32))))) &&& 31))).toInt8.toInt32)), (.int (12 : Int32)), (.ref b1)])) rfl rfl (hb hby d_prog_6_method_4_code_46)
  have N40 := Fr.snoc X40 N39 g_b1
  have VA := VA.other W40 ne_a0__b1
  have Z0 := Nat.le_trans Z0 (Keep.of_wr W40).1
  have KK := Keep.wr KK W40 (Or.inr sz_b1)
  have V_b1 : Arv Z h40 b1 k1 .byte (16 : Int32) [(.int (own_nb y0 p1 0)), (.int (own_nb y1 p1 8)), (.int (own_nb y2 p1 16)), (.int (own_nb y3 p1 24)), (.int (own_nb y4 p1 32)), (.int (own_nb y5 p1 40)), (.int (own_nb y6 p1 48)), (.int (own_nb y7 p1 56)), (.int (own_nb y8 p1 64)), (.int (own_nb y9 p1 72)), (.int (own_nb y10 p1 80)), (.int (own_nb y11 p1 88)), (.int (own_nb y12 p1 96)), (.int (0 : Int32)), (.int (0 : Int32)), (.int (0 : Int32))] (.int (0 : Int32)) := V_b1'
  refine go st40 ?_
  show OwnEnd _ _ _ _ _ _ _ (T40.setTop (mkF m 47 (fL3 a0' p1 b1 (12 : Int32) (own_max (0 : Int32) (own_min (8 : Int32) (p1 - (96 : Int32))))) []))
  refine go (fun _ k => by refine XS.iinc X40.here hx rfl (hb hby d_prog_6_method_4_code_47) rfl (l' := (fL3 a0' p1 b1 ((12 : Int32) + (1 : Int32)) (own_max (0 : Int32) (own_min (8 : Int32) (p1 - (96 : Int32)))))) rfl ?_; exact k) ?_
  show OwnEnd _ _ _ _ _ _ _ (T40.setTop (mkF m 50 (fL3 a0' p1 b1 ((12 : Int32) + (1 : Int32)) (own_max (0 : Int32) (own_min (8 : Int32) (p1 - (96 : Int32))))) []))
  rw [show ((12 : Int32) + (1 : Int32)) = (13 : Int32) from by decide]
  refine go (fun _ k => by refine XS.goto X40.here hx rfl (pc0 := 50) (pc' := 7) rfl (hb hby d_prog_6_method_4_code_50) (by decide) (by decide) ?_; exact k) ?_
  refine go (fun _ k => by refine XS.iloadN X40.here hx rfl (hb hby d_prog_6_method_4_code_7) rfl ?_; exact k) ?_
  refine go (fun _ k => by refine XS.aloadN X40.here hx rfl (hb hby d_prog_6_method_4_code_8) rfl rfl ?_; exact k) ?_
  show OwnEnd _ _ _ _ _ _ _ (T40.setTop (mkF m 9 (fL3 a0' p1 b1 (13 : Int32) (own_max (0 : Int32) (own_min (8 : Int32) (p1 - (96 : Int32))))) [(.ref a0'), (.int (13 : Int32))]))
  refine go (lenV X40 hx hZ e40 VA (g := (mkF m 9 (fL3 a0' p1 b1 (13 : Int32) (own_max (0 : Int32) (own_min (8 : Int32) (p1 - (96 : Int32))))) [(.ref a0'), (.int (13 : Int32))])) rfl rfl (hb hby d_prog_6_method_4_code_9)) ?_
  show OwnEnd _ _ _ _ _ _ _ (T40.setTop (mkF m 10 (fL3 a0' p1 b1 (13 : Int32) (own_max (0 : Int32) (own_min (8 : Int32) (p1 - (96 : Int32))))) [(.int (16 : Int32)), (.int (13 : Int32))]))
  refine go (fun _ k => by refine XS.icmpNo X40.here hx rfl (hb hby d_prog_6_method_4_code_10) rfl (tlt (by decide)).2.1 ?_; exact k) ?_
  refine go (fun _ k => by refine XS.iconst X40.here hx rfl (hb hby d_prog_6_method_4_code_13) ?_; exact k) ?_
  refine go (fun _ k => by refine XS.bipush X40.here hx rfl (hb hby d_prog_6_method_4_code_14) ?_; exact k) ?_
  refine go (fun _ k => by refine XS.iloadN X40.here hx rfl (hb hby d_prog_6_method_4_code_16) rfl ?_; exact k) ?_
  show OwnEnd _ _ _ _ _ _ _ (T40.setTop (mkF m 17 (fL3 a0' p1 b1 (13 : Int32) (own_max (0 : Int32) (own_min (8 : Int32) (p1 - (96 : Int32))))) [(.int p1), (.int (8 : Int32)), (.int (0 : Int32))]))
  refine go (fun _ k => by refine XS.bipush X40.here hx rfl (hb hby d_prog_6_method_4_code_17) ?_; exact k) ?_
  refine go (fun _ k => by refine XS.iloadN X40.here hx rfl (hb hby d_prog_6_method_4_code_19) rfl ?_; exact k) ?_
  refine go (fun _ k => by refine XS.imul X40.here hx rfl (hb hby d_prog_6_method_4_code_20) rfl ?_; exact k) ?_
  show OwnEnd _ _ _ _ _ _ _ (T40.setTop (mkF m 21 (fL3 a0' p1 b1 (13 : Int32) (own_max (0 : Int32) (own_min (8 : Int32) (p1 - (96 : Int32))))) [(.int ((8 : Int32) * (13 : Int32))), (.int p1), (.int (8 : Int32)), (.int (0 : Int32))]))
  rw [show ((8 : Int32) * (13 : Int32)) = (104 : Int32) from by decide]
  refine go (fun _ k => by refine XS.isub X40.here hx rfl (hb hby d_prog_6_method_4_code_21) rfl ?_; exact k) ?_
  show OwnEnd _ _ _ _ _ _ _ (T40.setTop (mkF m 22 (fL3 a0' p1 b1 (13 : Int32) (own_max (0 : Int32) (own_min (8 : Int32) (p1 - (96 : Int32))))) [(.int (p1 - (104 : Int32))), (.int (8 : Int32)), (.int (0 : Int32))]))
  obtain ⟨_, T41, L41, X41, hQ41, st41⟩ := callStat X40 hx hZ hown (hw _ (List.mem_of_getElem? (i := 10) rfl)) (hw _ (List.mem_of_getElem? (i := 11) rfl)) (hw _ (List.mem_of_getElem? (i := 12) rfl)) (hw _ (List.mem_of_getElem? (i := 13) rfl)) (by decide) (rm_min l Z a0 hw [] (8 : Int32) (p1 - (104 : Int32)) h40 n0 ) (W := 1) (by decide) (by decide) e40 (g := (mkF m 22 (fL3 a0' p1 b1 (13 : Int32) (own_max (0 : Int32) (own_min (8 : Int32) (p1 - (96 : Int32))))) [(.int (p1 - (104 : Int32))), (.int (8 : Int32)), (.int (0 : Int32))])) rfl (by rw [hml]; rfl) (argsL := [(.int (8 : Int32)), (.int (p1 - (104 : Int32)))]) (rest := [(.int (0 : Int32))]) rfl (lenOf pd__II_I rfl) rfl (by show 2 * 0 + _ ≤ _; exact Nat.le_of_eq rfl) (hb hby d_prog_6_method_4_code_22) (by decide) (by decide)
  obtain ⟨rfl, Nq41, eq41⟩ := hQ41
  have N41 := Fr.app N40 Nq41
  refine go st41 ?_
  show OwnEnd _ _ _ _ _ _ _ (T41.setTop (mkF m 25 (fL3 a0' p1 b1 (13 : Int32) (own_max (0 : Int32) (own_min (8 : Int32) (p1 - (96 : Int32))))) [(.int (own_min (8 : Int32) (p1 - (104 : Int32)))), (.int (0 : Int32))]))
  obtain ⟨_, T42, L42, X42, hQ42, st42⟩ := callStat X41 hx hZ hown (hw _ (List.mem_of_getElem? (i := 14) rfl)) (hw _ (List.mem_of_getElem? (i := 15) rfl)) (hw _ (List.mem_of_getElem? (i := 12) rfl)) (hw _ (List.mem_of_getElem? (i := 16) rfl)) (by decide) (rm_max l Z a0 hw [] (0 : Int32) (own_min (8 : Int32) (p1 - (104 : Int32))) h40 n0 ) (W := 0) (by decide) (by decide) eq41 (g := (mkF m 25 (fL3 a0' p1 b1 (13 : Int32) (own_max (0 : Int32) (own_min (8 : Int32) (p1 - (96 : Int32))))) [(.int (own_min (8 : Int32) (p1 - (104 : Int32)))), (.int (0 : Int32))])) rfl (by rw [hml]; rfl) (argsL := [(.int (0 : Int32)), (.int (own_min (8 : Int32) (p1 - (104 : Int32))))]) (rest := []) rfl (lenOf pd__II_I rfl) rfl (by show 2 * 0 + _ ≤ _; exact Nat.le_of_eq rfl) (hb hby d_prog_6_method_4_code_25) (by decide) (by decide)
  obtain ⟨rfl, Nq42, eq42⟩ := hQ42
  have N42 := Fr.app N41 Nq42
  refine go st42 ?_
  refine go (fun _ k => by refine XS.istore X42.here hx rfl (hb hby d_prog_6_method_4_code_28) rfl (l' := (fL3 a0' p1 b1 (13 : Int32) (own_max (0 : Int32) (own_min (8 : Int32) (p1 - (104 : Int32)))))) rfl ?_; exact k) ?_
  refine go (fun _ k => by refine XS.aloadN X42.here hx rfl (hb hby d_prog_6_method_4_code_30) rfl rfl ?_; exact k) ?_
  refine go (fun _ k => by refine XS.iloadN X42.here hx rfl (hb hby d_prog_6_method_4_code_31) rfl ?_; exact k) ?_
  show OwnEnd _ _ _ _ _ _ _ (T42.setTop (mkF m 32 (fL3 a0' p1 b1 (13 : Int32) (own_max (0 : Int32) (own_min (8 : Int32) (p1 - (104 : Int32))))) [(.int (13 : Int32)), (.ref b1)]))
  refine go (fun _ k => by refine XS.aloadN X42.here hx rfl (hb hby d_prog_6_method_4_code_32) rfl rfl ?_; exact k) ?_
  refine go (fun _ k => by refine XS.iloadN X42.here hx rfl (hb hby d_prog_6_method_4_code_33) rfl ?_; exact k) ?_
  show OwnEnd _ _ _ _ _ _ _ (T42.setTop (mkF m 34 (fL3 a0' p1 b1 (13 : Int32) (own_max (0 : Int32) (own_min (8 : Int32) (p1 - (104 : Int32))))) [(.int (13 : Int32)), (.ref a0'), (.int (13 : Int32)), (.ref b1)]))
  refine go (ldBv X42 hx hZ eq42 VA (j := (13 : Int32)) (i := 13) (w := y13) (by decide) (by decide) (by decide) rfl (g := (mkF m 34 (fL3 a0' p1 b1 (13 : Int32) (own_max (0 : Int32) (own_min (8 : Int32) (p1 - (104 : Int32))))) [(.int (13 : Int32)), (.ref a0'), (.int (13 : Int32)), (.ref b1)])) rfl rfl (hb hby d_prog_6_method_4_code_34)) ?_
  refine go (fun _ k => by refine XS.sipush X42.here hx rfl (hb hby d_prog_6_method_4_code_35) ?_; exact k) ?_
  refine go (fun _ k => by refine XS.bipush X42.here hx rfl (hb hby d_prog_6_method_4_code_38) ?_; exact k) ?_
  refine go (fun _ k => by refine XS.iload X42.here hx rfl (hb hby d_prog_6_method_4_code_40) rfl ?_; exact k) ?_
  show OwnEnd _ _ _ _ _ _ _ (T42.setTop (mkF m 42 (fL3 a0' p1 b1 (13 : Int32) (own_max (0 : Int32) (own_min (8 : Int32) (p1 - (104 : Int32))))) [(.int (own_max (0 : Int32) (own_min (8 : Int32) (p1 - (104 : Int32))))), (.int (8 : Int32)), (.int (255 : Int32)), (.int y13), (.int (13 : Int32)), (.ref b1)]))
  refine go (fun _ k => by refine XS.isub X42.here hx rfl (hb hby d_prog_6_method_4_code_42) rfl ?_; exact k) ?_
  refine go (fun _ k => by refine XS.ishl X42.here hx rfl (hb hby d_prog_6_method_4_code_43) rfl ?_; exact k) ?_
  refine go (fun _ k => by refine XS.iand X42.here hx rfl (hb hby d_prog_6_method_4_code_44) rfl ?_; exact k) ?_
  refine go (fun _ k => by refine XS.i2b X42.here hx rfl (hb hby d_prog_6_method_4_code_45) rfl ?_; exact k) ?_
  show OwnEnd _ _ _ _ _ _ _ (T42.setTop (mkF m 46 (fL3 a0' p1 b1 (13 : Int32) (own_max (0 : Int32) (own_min (8 : Int32) (p1 - (104 : Int32))))) [(.int ((y13 &&& ((255 : Int32) <<< (((8 : Int32) - (own_max (0 : Int32) (own_min (8 : Int32) (p1 - (104 : Int32))))) &&& 31))).toInt8.toInt32)), (.int (13 : Int32)), (.ref b1)]))
  obtain ⟨T43, h43, X43, e43, W43, V_b1', st43⟩ := stBv X42 hx hZ eq42 V_b1 (j := (13 : Int32)) (i := 13) (by decide) (by decide) (by decide) (Nat.le_of_ble_eq_true rfl) (g := (mkF m 46 (fL3 a0' p1 b1 (13 : Int32) (own_max (0 : Int32) (own_min (8 : Int32) (p1 - (104 : Int32))))) [(.int ((y13 &&& ((255 : Int32) <<< (((8 : Int32) - (own_max (0 : Int32) (own_min (8 : Int32) (p1 - (104 : Int32))))) &&& 31))).toInt8.toInt32)), (.int (13 : Int32)), (.ref b1)])) rfl rfl (hb hby d_prog_6_method_4_code_46)
  have N43 := Fr.snoc X43 N42 g_b1
  have VA := VA.other W43 ne_a0__b1
  have Z0 := Nat.le_trans Z0 (Keep.of_wr W43).1
  have KK := Keep.wr KK W43 (Or.inr sz_b1)
  have V_b1 : Arv Z h43 b1 k1 .byte (16 : Int32) [(.int (own_nb y0 p1 0)), (.int (own_nb y1 p1 8)), (.int (own_nb y2 p1 16)), (.int (own_nb y3 p1 24)), (.int (own_nb y4 p1 32)), (.int (own_nb y5 p1 40)), (.int (own_nb y6 p1 48)), (.int (own_nb y7 p1 56)), (.int (own_nb y8 p1 64)), (.int (own_nb y9 p1 72)), (.int (own_nb y10 p1 80)), (.int (own_nb y11 p1 88)), (.int (own_nb y12 p1 96)), (.int (own_nb y13 p1 104)), (.int (0 : Int32)), (.int (0 : Int32))] (.int (0 : Int32)) := V_b1'
  refine go st43 ?_
  show OwnEnd _ _ _ _ _ _ _ (T43.setTop (mkF m 47 (fL3 a0' p1 b1 (13 : Int32) (own_max (0 : Int32) (own_min (8 : Int32) (p1 - (104 : Int32))))) []))
  refine go (fun _ k => by refine XS.iinc X43.here hx rfl (hb hby d_prog_6_method_4_code_47) rfl (l' := (fL3 a0' p1 b1 ((13 : Int32) + (1 : Int32)) (own_max (0 : Int32) (own_min (8 : Int32) (p1 - (104 : Int32)))))) rfl ?_; exact k) ?_
  show OwnEnd _ _ _ _ _ _ _ (T43.setTop (mkF m 50 (fL3 a0' p1 b1 ((13 : Int32) + (1 : Int32)) (own_max (0 : Int32) (own_min (8 : Int32) (p1 - (104 : Int32))))) []))
  rw [show ((13 : Int32) + (1 : Int32)) = (14 : Int32) from by decide]
  refine go (fun _ k => by refine XS.goto X43.here hx rfl (pc0 := 50) (pc' := 7) rfl (hb hby d_prog_6_method_4_code_50) (by decide) (by decide) ?_; exact k) ?_
  refine go (fun _ k => by refine XS.iloadN X43.here hx rfl (hb hby d_prog_6_method_4_code_7) rfl ?_; exact k) ?_
  refine go (fun _ k => by refine XS.aloadN X43.here hx rfl (hb hby d_prog_6_method_4_code_8) rfl rfl ?_; exact k) ?_
  show OwnEnd _ _ _ _ _ _ _ (T43.setTop (mkF m 9 (fL3 a0' p1 b1 (14 : Int32) (own_max (0 : Int32) (own_min (8 : Int32) (p1 - (104 : Int32))))) [(.ref a0'), (.int (14 : Int32))]))
  refine go (lenV X43 hx hZ e43 VA (g := (mkF m 9 (fL3 a0' p1 b1 (14 : Int32) (own_max (0 : Int32) (own_min (8 : Int32) (p1 - (104 : Int32))))) [(.ref a0'), (.int (14 : Int32))])) rfl rfl (hb hby d_prog_6_method_4_code_9)) ?_
  show OwnEnd _ _ _ _ _ _ _ (T43.setTop (mkF m 10 (fL3 a0' p1 b1 (14 : Int32) (own_max (0 : Int32) (own_min (8 : Int32) (p1 - (104 : Int32))))) [(.int (16 : Int32)), (.int (14 : Int32))]))
  refine go (fun _ k => by refine XS.icmpNo X43.here hx rfl (hb hby d_prog_6_method_4_code_10) rfl (tlt (by decide)).2.1 ?_; exact k) ?_
  refine go (fun _ k => by refine XS.iconst X43.here hx rfl (hb hby d_prog_6_method_4_code_13) ?_; exact k) ?_
  refine go (fun _ k => by refine XS.bipush X43.here hx rfl (hb hby d_prog_6_method_4_code_14) ?_; exact k) ?_
  refine go (fun _ k => by refine XS.iloadN X43.here hx rfl (hb hby d_prog_6_method_4_code_16) rfl ?_; exact k) ?_
  show OwnEnd _ _ _ _ _ _ _ (T43.setTop (mkF m 17 (fL3 a0' p1 b1 (14 : Int32) (own_max (0 : Int32) (own_min (8 : Int32) (p1 - (104 : Int32))))) [(.int p1), (.int (8 : Int32)), (.int (0 : Int32))]))
  refine go (fun _ k => by refine XS.bipush X43.here hx rfl (hb hby d_prog_6_method_4_code_17) ?_; exact k) ?_
  refine go (fun _ k => by refine XS.iloadN X43.here hx rfl (hb hby d_prog_6_method_4_code_19) rfl ?_; exact k) ?_
  refine go (fun _ k => by refine XS.imul X43.here hx rfl (hb hby d_prog_6_method_4_code_20) rfl ?_; exact k) ?_
  show OwnEnd _ _ _ _ _ _ _ (T43.setTop (mkF m 21 (fL3 a0' p1 b1 (14 : Int32) (own_max (0 : Int32) (own_min (8 : Int32) (p1 - (104 : Int32))))) [(.int ((8 : Int32) * (14 : Int32))), (.int p1), (.int (8 : Int32)), (.int (0 : Int32))]))
  rw [show ((8 : Int32) * (14 : Int32)) = (112 : Int32) from by decide]
  refine go (fun _ k => by refine XS.isub X43.here hx rfl (hb hby d_prog_6_method_4_code_21) rfl ?_; exact k) ?_
  show OwnEnd _ _ _ _ _ _ _ (T43.setTop (mkF m 22 (fL3 a0' p1 b1 (14 : Int32) (own_max (0 : Int32) (own_min (8 : Int32) (p1 - (104 : Int32))))) [(.int (p1 - (112 : Int32))), (.int (8 : Int32)), (.int (0 : Int32))]))
  obtain ⟨_, T44, L44, X44, hQ44, st44⟩ := callStat X43 hx hZ hown (hw _ (List.mem_of_getElem? (i := 10) rfl)) (hw _ (List.mem_of_getElem? (i := 11) rfl)) (hw _ (List.mem_of_getElem? (i := 12) rfl)) (hw _ (List.mem_of_getElem? (i := 13) rfl)) (by decide) (rm_min l Z a0 hw [] (8 : Int32) (p1 - (112 : Int32)) h43 n0 ) (W := 1) (by decide) (by decide) e43 (g := (mkF m 22 (fL3 a0' p1 b1 (14 : Int32) (own_max (0 : Int32) (own_min (8 : Int32) (p1 - (104 : Int32))))) [(.int (p1 - (112 : Int32))), (.int (8 : Int32)), (.int (0 : Int32))])) rfl (by rw [hml]; rfl) (argsL := [(.int (8 : Int32)), (.int (p1 - (112 : Int32)))]) (rest := [(.int (0 : Int32))]) rfl (lenOf pd__II_I rfl) rfl (by show 2 * 0 + _ ≤ _; exact Nat.le_of_eq rfl) (hb hby d_prog_6_method_4_code_22) (by decide) (by decide)
  obtain ⟨rfl, Nq44, eq44⟩ := hQ44
  have N44 := Fr.app N43 Nq44
  refine go st44 ?_
  show OwnEnd _ _ _ _ _ _ _ (T44.setTop (mkF m 25 (fL3 a0' p1 b1 (14 : Int32) (own_max (0 : Int32) (own_min (8 : Int32) (p1 - (104 : Int32))))) [(.int (own_min (8 : Int32) (p1 - (112 : Int32)))), (.int (0 : Int32))]))
  obtain ⟨_, T45, L45, X45, hQ45, st45⟩ := callStat X44 hx hZ hown (hw _ (List.mem_of_getElem? (i := 14) rfl)) (hw _ (List.mem_of_getElem? (i := 15) rfl)) (hw _ (List.mem_of_getElem? (i := 12) rfl)) (hw _ (List.mem_of_getElem? (i := 16) rfl)) (by decide) (rm_max l Z a0 hw [] (0 : Int32) (own_min (8 : Int32) (p1 - (112 : Int32))) h43 n0 ) (W := 0) (by decide) (by decide) eq44 (g := (mkF m 25 (fL3 a0' p1 b1 (14 : Int32) (own_max (0 : Int32) (own_min (8 : Int32) (p1 - (104 : Int32))))) [(.int (own_min (8 : Int32) (p1 - (112 : Int32)))), (.int (0 : Int32))])) rfl (by rw [hml]; rfl) (argsL := [(.int (0 : Int32)), (.int (own_min (8 : Int32) (p1 - (112 : Int32))))]) (rest := []) rfl (lenOf pd__II_I rfl) rfl (by show 2 * 0 + _ ≤ _; exact Nat.le_of_eq rfl) (hb hby d_prog_6_method_4_code_25) (by decide) (by decide)
  obtain ⟨rfl, Nq45, eq45⟩ := hQ45
  have N45 := Fr.app N44 Nq45
  refine go st45 ?_
  refine go (fun _ k => by refine XS.istore X45.here hx rfl (hb hby d_prog_6_method_4_code_28) rfl (l' := (fL3 a0' p1 b1 (14 : Int32) (own_max (0 : Int32) (own_min (8 : Int32) (p1 - (112 : Int32)))))) rfl ?_; exact k) ?_
  refine go (fun _ k => by refine XS.aloadN X45.here hx rfl (hb hby d_prog_6_method_4_code_30) rfl rfl ?_; exact k) ?_
  refine go (fun _ k => by refine XS.iloadN X45.here hx rfl (hb hby d_prog_6_method_4_code_31) rfl ?_; exact k) ?_
  show OwnEnd _ _ _ _ _ _ _ (T45.setTop (mkF m 32 (fL3 a0' p1 b1 (14 : Int32) (own_max (0 : Int32) (own_min (8 : Int32) (p1 - (112 : Int32))))) [(.int (14 : Int32)), (.ref b1)]))
  refine go (fun _ k => by refine XS.aloadN X45.here hx rfl (hb hby d_prog_6_method_4_code_32) rfl rfl ?_; exact k) ?_
  refine go (fun _ k => by refine XS.iloadN X45.here hx rfl (hb hby d_prog_6_method_4_code_33) rfl ?_; exact k) ?_
  show OwnEnd _ _ _ _ _ _ _ (T45.setTop (mkF m 34 (fL3 a0' p1 b1 (14 : Int32) (own_max (0 : Int32) (own_min (8 : Int32) (p1 - (112 : Int32))))) [(.int (14 : Int32)), (.ref a0'), (.int (14 : Int32)), (.ref b1)]))
  refine go (ldBv X45 hx hZ eq45 VA (j := (14 : Int32)) (i := 14) (w := y14) (by decide) (by decide) (by decide) rfl (g := (mkF m 34 (fL3 a0' p1 b1 (14 : Int32) (own_max (0 : Int32) (own_min (8 : Int32) (p1 - (112 : Int32))))) [(.int (14 : Int32)), (.ref a0'), (.int (14 : Int32)), (.ref b1)])) rfl rfl (hb hby d_prog_6_method_4_code_34)) ?_
  refine go (fun _ k => by refine XS.sipush X45.here hx rfl (hb hby d_prog_6_method_4_code_35) ?_; exact k) ?_
  refine go (fun _ k => by refine XS.bipush X45.here hx rfl (hb hby d_prog_6_method_4_code_38) ?_; exact k) ?_
  refine go (fun _ k => by refine XS.iload X45.here hx rfl (hb hby d_prog_6_method_4_code_40) rfl ?_; exact k) ?_
  show OwnEnd _ _ _ _ _ _ _ (T45.setTop (mkF m 42 (fL3 a0' p1 b1 (14 : Int32) (own_max (0 : Int32) (own_min (8 : Int32) (p1 - (112 : Int32))))) [(.int (own_max (0 : Int32) (own_min (8 : Int32) (p1 - (112 : Int32))))), (.int (8 : Int32)), (.int (255 : Int32)), (.int y14), (.int (14 : Int32)), (.ref b1)]))
  refine go (fun _ k => by refine XS.isub X45.here hx rfl (hb hby d_prog_6_method_4_code_42) rfl ?_; exact k) ?_
  refine go (fun _ k => by refine XS.ishl X45.here hx rfl (hb hby d_prog_6_method_4_code_43) rfl ?_; exact k) ?_
  refine go (fun _ k => by refine XS.iand X45.here hx rfl (hb hby d_prog_6_method_4_code_44) rfl ?_; exact k) ?_
  refine go (fun _ k => by refine XS.i2b X45.here hx rfl (hb hby d_prog_6_method_4_code_45) rfl ?_; exact k) ?_
  show OwnEnd _ _ _ _ _ _ _ (T45.setTop (mkF m 46 (fL3 a0' p1 b1 (14 : Int32) (own_max (0 : Int32) (own_min (8 : Int32) (p1 - (112 : Int32))))) [(.int ((y14 &&& ((255 : Int32) <<< (((8 : Int32) - (own_max (0 : Int32) (own_min (8 : Int32) (p1 - (112 : Int32))))) &&& 31))).toInt8.toInt32)), (.int (14 : Int32)), (.ref b1)]))
  obtain ⟨T46, h46, X46, e46, W46, V_b1', st46⟩ := stBv X45 hx hZ eq45 V_b1 (j := (14 : Int32)) (i := 14) (by decide) (by decide) (by decide) (Nat.le_of_ble_eq_true rfl) (g := (mkF m 46 (fL3 a0' p1 b1 (14 : Int32) (own_max (0 : Int32) (own_min (8 : Int32) (p1 - (112 : Int32))))) [(.int ((y14 &&& ((255 : Int32) <<< (((8 : Int32) - (own_max (0 : Int32) (own_min (8 : Int32) (p1 - (112 : Int32))))) &&& 31))).toInt8.toInt32)), (.int (14 : Int32)), (.ref b1)])) rfl rfl (hb hby d_prog_6_method_4_code_46)
  have N46 := Fr.snoc X46 N45 g_b1
  have VA := VA.other W46 ne_a0__b1
  have Z0 := Nat.le_trans Z0 (Keep.of_wr W46).1
  have KK := Keep.wr KK W46 (Or.inr sz_b1)
  have V_b1 : Arv Z h46 b1 k1 .byte (16 : Int32) [(.int (own_nb y0 p1 0)), (.int (own_nb y1 p1 8)), (.int (own_nb y2 p1 16)), (.int (own_nb y3 p1 24)), (.int (own_nb y4 p1 32)), (.int (own_nb y5 p1 40)), (.int (own_nb y6 p1 48)), (.int (own_nb y7 p1 56)), (.int (own_nb y8 p1 64)), (.int (own_nb y9 p1 72)), (.int (own_nb y10 p1 80)), (.int (own_nb y11 p1 88)), (.int (own_nb y12 p1 96)), (.int (own_nb y13 p1 104)), (.int (own_nb y14 p1 112)), (.int (0 : Int32))] (.int (0 : Int32)) := V_b1'
  refine go st46 ?_
  show OwnEnd _ _ _ _ _ _ _ (T46.setTop (mkF m 47 (fL3 a0' p1 b1 (14 : Int32) (own_max (0 : Int32) (own_min (8 : Int32) (p1 - (112 : Int32))))) []))
  refine go (fun _ k => by refine XS.iinc X46.here hx rfl (hb hby d_prog_6_method_4_code_47) rfl (l' := (fL3 a0' p1 b1 ((14 : Int32) + (1 : Int32)) (own_max (0 : Int32) (own_min (8 : Int32) (p1 - (112 : Int32)))))) rfl ?_; exact k) ?_
  show OwnEnd _ _ _ _ _ _ _ (T46.setTop (mkF m 50 (fL3 a0' p1 b1 ((14 : Int32) + (1 : Int32)) (own_max (0 : Int32) (own_min (8 : Int32) (p1 - (112 : Int32))))) []))
  rw [show ((14 : Int32) + (1 : Int32)) = (15 : Int32) from by decide]
  refine go (fun _ k => by refine XS.goto X46.here hx rfl (pc0 := 50) (pc' := 7) rfl (hb hby d_prog_6_method_4_code_50) (by decide) (by decide) ?_; exact k) ?_
  refine go (fun _ k => by refine XS.iloadN X46.here hx rfl (hb hby d_prog_6_method_4_code_7) rfl ?_; exact k) ?_
  refine go (fun _ k => by refine XS.aloadN X46.here hx rfl (hb hby d_prog_6_method_4_code_8) rfl rfl ?_; exact k) ?_
  show OwnEnd _ _ _ _ _ _ _ (T46.setTop (mkF m 9 (fL3 a0' p1 b1 (15 : Int32) (own_max (0 : Int32) (own_min (8 : Int32) (p1 - (112 : Int32))))) [(.ref a0'), (.int (15 : Int32))]))
  refine go (lenV X46 hx hZ e46 VA (g := (mkF m 9 (fL3 a0' p1 b1 (15 : Int32) (own_max (0 : Int32) (own_min (8 : Int32) (p1 - (112 : Int32))))) [(.ref a0'), (.int (15 : Int32))])) rfl rfl (hb hby d_prog_6_method_4_code_9)) ?_
  show OwnEnd _ _ _ _ _ _ _ (T46.setTop (mkF m 10 (fL3 a0' p1 b1 (15 : Int32) (own_max (0 : Int32) (own_min (8 : Int32) (p1 - (112 : Int32))))) [(.int (16 : Int32)), (.int (15 : Int32))]))
  refine go (fun _ k => by refine XS.icmpNo X46.here hx rfl (hb hby d_prog_6_method_4_code_10) rfl (tlt (by decide)).2.1 ?_; exact k) ?_
  refine go (fun _ k => by refine XS.iconst X46.here hx rfl (hb hby d_prog_6_method_4_code_13) ?_; exact k) ?_
  refine go (fun _ k => by refine XS.bipush X46.here hx rfl (hb hby d_prog_6_method_4_code_14) ?_; exact k) ?_
  refine go (fun _ k => by refine XS.iloadN X46.here hx rfl (hb hby d_prog_6_method_4_code_16) rfl ?_; exact k) ?_
  show OwnEnd _ _ _ _ _ _ _ (T46.setTop (mkF m 17 (fL3 a0' p1 b1 (15 : Int32) (own_max (0 : Int32) (own_min (8 : Int32) (p1 - (112 : Int32))))) [(.int p1), (.int (8 : Int32)), (.int (0 : Int32))]))
  refine go (fun _ k => by refine XS.bipush X46.here hx rfl (hb hby d_prog_6_method_4_code_17) ?_; exact k) ?_
  refine go (fun _ k => by refine XS.iloadN X46.here hx rfl (hb hby d_prog_6_method_4_code_19) rfl ?_; exact k) ?_
  refine go (fun _ k => by refine XS.imul X46.here hx rfl (hb hby d_prog_6_method_4_code_20) rfl ?_; exact k) ?_
  show OwnEnd _ _ _ _ _ _ _ (T46.setTop (mkF m 21 (fL3 a0' p1 b1 (15 : Int32) (own_max (0 : Int32) (own_min (8 : Int32) (p1 - (112 : Int32))))) [(.int ((8 : Int32) * (15 : Int32))), (.int p1), (.int (8 : Int32)), (.int (0 : Int32))]))
  rw [show ((8 : Int32) * (15 : Int32)) = (120 : Int32) from by decide]
  refine go (fun _ k => by refine XS.isub X46.here hx rfl (hb hby d_prog_6_method_4_code_21) rfl ?_; exact k) ?_
  show OwnEnd _ _ _ _ _ _ _ (T46.setTop (mkF m 22 (fL3 a0' p1 b1 (15 : Int32) (own_max (0 : Int32) (own_min (8 : Int32) (p1 - (112 : Int32))))) [(.int (p1 - (120 : Int32))), (.int (8 : Int32)), (.int (0 : Int32))]))
  obtain ⟨_, T47, L47, X47, hQ47, st47⟩ := callStat X46 hx hZ hown (hw _ (List.mem_of_getElem? (i := 10) rfl)) (hw _ (List.mem_of_getElem? (i := 11) rfl)) (hw _ (List.mem_of_getElem? (i := 12) rfl)) (hw _ (List.mem_of_getElem? (i := 13) rfl)) (by decide) (rm_min l Z a0 hw [] (8 : Int32) (p1 - (120 : Int32)) h46 n0 ) (W := 1) (by decide) (by decide) e46 (g := (mkF m 22 (fL3 a0' p1 b1 (15 : Int32) (own_max (0 : Int32) (own_min (8 : Int32) (p1 - (112 : Int32))))) [(.int (p1 - (120 : Int32))), (.int (8 : Int32)), (.int (0 : Int32))])) rfl (by rw [hml]; rfl) (argsL := [(.int (8 : Int32)), (.int (p1 - (120 : Int32)))]) (rest := [(.int (0 : Int32))]) rfl (lenOf pd__II_I rfl) rfl (by show 2 * 0 + _ ≤ _; exact Nat.le_of_eq rfl) (hb hby d_prog_6_method_4_code_22) (by decide) (by decide)
  obtain ⟨rfl, Nq47, eq47⟩ := hQ47
  have N47 := Fr.app N46 Nq47
  refine go st47 ?_
  show OwnEnd _ _ _ _ _ _ _ (T47.setTop (mkF m 25 (fL3 a0' p1 b1 (15 : Int32) (own_max (0 : Int32) (own_min (8 : Int32) (p1 - (112 : Int32))))) [(.int (own_min (8 : Int32) (p1 - (120 : Int32)))), (.int (0 : Int32))]))
  obtain ⟨_, T48, L48, X48, hQ48, st48⟩ := callStat X47 hx hZ hown (hw _ (List.mem_of_getElem? (i := 14) rfl)) (hw _ (List.mem_of_getElem? (i := 15) rfl)) (hw _ (List.mem_of_getElem? (i := 12) rfl)) (hw _ (List.mem_of_getElem? (i := 16) rfl)) (by decide) (rm_max l Z a0 hw [] (0 : Int32) (own_min (8 : Int32) (p1 - (120 : Int32))) h46 n0 ) (W := 0) (by decide) (by decide) eq47 (g := (mkF m 25 (fL3 a0' p1 b1 (15 : Int32) (own_max (0 : Int32) (own_min (8 : Int32) (p1 - (112 : Int32))))) [(.int (own_min (8 : Int32) (p1 - (120 : Int32)))), (.int (0 : Int32))])) rfl (by rw [hml]; rfl) (argsL := [(.int (0 : Int32)), (.int (own_min (8 : Int32) (p1 - (120 : Int32))))]) (rest := []) rfl (lenOf pd__II_I rfl) rfl (by show 2 * 0 + _ ≤ _; exact Nat.le_of_eq rfl) (hb hby d_prog_6_method_4_code_25) (by decide) (by decide)
  obtain ⟨rfl, Nq48, eq48⟩ := hQ48
  have N48 := Fr.app N47 Nq48
  refine go st48 ?_
  refine go (fun _ k => by refine XS.istore X48.here hx rfl (hb hby d_prog_6_method_4_code_28) rfl (l' := (fL3 a0' p1 b1 (15 : Int32) (own_max (0 : Int32) (own_min (8 : Int32) (p1 - (120 : Int32)))))) rfl ?_; exact k) ?_
  refine go (fun _ k => by refine XS.aloadN X48.here hx rfl (hb hby d_prog_6_method_4_code_30) rfl rfl ?_; exact k) ?_
  refine go (fun _ k => by refine XS.iloadN X48.here hx rfl (hb hby d_prog_6_method_4_code_31) rfl ?_; exact k) ?_
  show OwnEnd _ _ _ _ _ _ _ (T48.setTop (mkF m 32 (fL3 a0' p1 b1 (15 : Int32) (own_max (0 : Int32) (own_min (8 : Int32) (p1 - (120 : Int32))))) [(.int (15 : Int32)), (.ref b1)]))
  refine go (fun _ k => by refine XS.aloadN X48.here hx rfl (hb hby d_prog_6_method_4_code_32) rfl rfl ?_; exact k) ?_
  refine go (fun _ k => by refine XS.iloadN X48.here hx rfl (hb hby d_prog_6_method_4_code_33) rfl ?_; exact k) ?_
  show OwnEnd _ _ _ _ _ _ _ (T48.setTop (mkF m 34 (fL3 a0' p1 b1 (15 : Int32) (own_max (0 : Int32) (own_min (8 : Int32) (p1 - (120 : Int32))))) [(.int (15 : Int32)), (.ref a0'), (.int (15 : Int32)), (.ref b1)]))
  refine go (ldBv X48 hx hZ eq48 VA (j := (15 : Int32)) (i := 15) (w := y15) (by decide) (by decide) (by decide) rfl (g := (mkF m 34 (fL3 a0' p1 b1 (15 : Int32) (own_max (0 : Int32) (own_min (8 : Int32) (p1 - (120 : Int32))))) [(.int (15 : Int32)), (.ref a0'), (.int (15 : Int32)), (.ref b1)])) rfl rfl (hb hby d_prog_6_method_4_code_34)) ?_
  refine go (fun _ k => by refine XS.sipush X48.here hx rfl (hb hby d_prog_6_method_4_code_35) ?_; exact k) ?_
  refine go (fun _ k => by refine XS.bipush X48.here hx rfl (hb hby d_prog_6_method_4_code_38) ?_; exact k) ?_
  refine go (fun _ k => by refine XS.iload X48.here hx rfl (hb hby d_prog_6_method_4_code_40) rfl ?_; exact k) ?_
  show OwnEnd _ _ _ _ _ _ _ (T48.setTop (mkF m 42 (fL3 a0' p1 b1 (15 : Int32) (own_max (0 : Int32) (own_min (8 : Int32) (p1 - (120 : Int32))))) [(.int (own_max (0 : Int32) (own_min (8 : Int32) (p1 - (120 : Int32))))), (.int (8 : Int32)), (.int (255 : Int32)), (.int y15), (.int (15 : Int32)), (.ref b1)]))
  refine go (fun _ k => by refine XS.isub X48.here hx rfl (hb hby d_prog_6_method_4_code_42) rfl ?_; exact k) ?_
  refine go (fun _ k => by refine XS.ishl X48.here hx rfl (hb hby d_prog_6_method_4_code_43) rfl ?_; exact k) ?_
  refine go (fun _ k => by refine XS.iand X48.here hx rfl (hb hby d_prog_6_method_4_code_44) rfl ?_; exact k) ?_
  refine go (fun _ k => by refine XS.i2b X48.here hx rfl (hb hby d_prog_6_method_4_code_45) rfl ?_; exact k) ?_
  show OwnEnd _ _ _ _ _ _ _ (T48.setTop (mkF m 46 (fL3 a0' p1 b1 (15 : Int32) (own_max (0 : Int32) (own_min (8 : Int32) (p1 - (120 : Int32))))) [(.int ((y15 &&& ((255 : Int32) <<< (((8 : Int32) - (own_max (0 : Int32) (own_min (8 : Int32) (p1 - (120 : Int32))))) &&& 31))).toInt8.toInt32)), (.int (15 : Int32)), (.ref b1)]))
  obtain ⟨T49, h49, X49, e49, W49, V_b1', st49⟩ := stBv X48 hx hZ eq48 V_b1 (j := (15 : Int32)) (i := 15) (by decide) (by decide) (by decide) (Nat.le_of_ble_eq_true rfl) (g := (mkF m 46 (fL3 a0' p1 b1 (15 : Int32) (own_max (0 : Int32) (own_min (8 : Int32) (p1 - (120 : Int32))))) [(.int ((y15 &&& ((255 : Int32) <<< (((8 : Int32) - (own_max (0 : Int32) (own_min (8 : Int32) (p1 - (120 : Int32))))) &&& 31))).toInt8.toInt32)), (.int (15 : Int32)), (.ref b1)])) rfl rfl (hb hby d_prog_6_method_4_code_46)
  have N49 := Fr.snoc X49 N48 g_b1
  have VA := VA.other W49 ne_a0__b1
  have Z0 := Nat.le_trans Z0 (Keep.of_wr W49).1
  have KK := Keep.wr KK W49 (Or.inr sz_b1)
  have V_b1 : Arv Z h49 b1 k1 .byte (16 : Int32) [(.int (own_nb y0 p1 0)), (.int (own_nb y1 p1 8)), (.int (own_nb y2 p1 16)), (.int (own_nb y3 p1 24)), (.int (own_nb y4 p1 32)), (.int (own_nb y5 p1 40)), (.int (own_nb y6 p1 48)), (.int (own_nb y7 p1 56)), (.int (own_nb y8 p1 64)), (.int (own_nb y9 p1 72)), (.int (own_nb y10 p1 80)), (.int (own_nb y11 p1 88)), (.int (own_nb y12 p1 96)), (.int (own_nb y13 p1 104)), (.int (own_nb y14 p1 112)), (.int (own_nb y15 p1 120))] (.int (0 : Int32)) := V_b1'
  refine go st49 ?_
  show OwnEnd _ _ _ _ _ _ _ (T49.setTop (mkF m 47 (fL3 a0' p1 b1 (15 : Int32) (own_max (0 : Int32) (own_min (8 : Int32) (p1 - (120 : Int32))))) []))
  refine go (fun _ k => by refine XS.iinc X49.here hx rfl (hb hby d_prog_6_method_4_code_47) rfl (l' := (fL3 a0' p1 b1 ((15 : Int32) + (1 : Int32)) (own_max (0 : Int32) (own_min (8 : Int32) (p1 - (120 : Int32)))))) rfl ?_; exact k) ?_
  show OwnEnd _ _ _ _ _ _ _ (T49.setTop (mkF m 50 (fL3 a0' p1 b1 ((15 : Int32) + (1 : Int32)) (own_max (0 : Int32) (own_min (8 : Int32) (p1 - (120 : Int32))))) []))
  rw [show ((15 : Int32) + (1 : Int32)) = (16 : Int32) from by decide]
  refine go (fun _ k => by refine XS.goto X49.here hx rfl (pc0 := 50) (pc' := 7) rfl (hb hby d_prog_6_method_4_code_50) (by decide) (by decide) ?_; exact k) ?_
  refine go (fun _ k => by refine XS.iloadN X49.here hx rfl (hb hby d_prog_6_method_4_code_7) rfl ?_; exact k) ?_
  refine go (fun _ k => by refine XS.aloadN X49.here hx rfl (hb hby d_prog_6_method_4_code_8) rfl rfl ?_; exact k) ?_
  show OwnEnd _ _ _ _ _ _ _ (T49.setTop (mkF m 9 (fL3 a0' p1 b1 (16 : Int32) (own_max (0 : Int32) (own_min (8 : Int32) (p1 - (120 : Int32))))) [(.ref a0'), (.int (16 : Int32))]))
  refine go (lenV X49 hx hZ e49 VA (g := (mkF m 9 (fL3 a0' p1 b1 (16 : Int32) (own_max (0 : Int32) (own_min (8 : Int32) (p1 - (120 : Int32))))) [(.ref a0'), (.int (16 : Int32))])) rfl rfl (hb hby d_prog_6_method_4_code_9)) ?_
  show OwnEnd _ _ _ _ _ _ _ (T49.setTop (mkF m 10 (fL3 a0' p1 b1 (16 : Int32) (own_max (0 : Int32) (own_min (8 : Int32) (p1 - (120 : Int32))))) [(.int (16 : Int32)), (.int (16 : Int32))]))
  refine go (fun _ k => by refine XS.icmpYes X49.here hx rfl (pc0 := 10) (pc' := 53) rfl (hb hby d_prog_6_method_4_code_10) rfl (flt (by decide)).2.1 (by decide) (by decide) ?_; exact k) ?_
  refine go (fun _ k => by refine XS.aloadN X49.here hx rfl (hb hby d_prog_6_method_4_code_53) rfl rfl ?_; exact k) ?_
  show OwnEnd _ _ _ _ _ _ _ (T49.setTop (mkF m 54 (fL3 a0' p1 b1 (16 : Int32) (own_max (0 : Int32) (own_min (8 : Int32) (p1 - (120 : Int32))))) [(.ref b1)]))
  refine endA X49 hx hlk Bd.returns rfl rfl (hb hby d_prog_6_method_4_code_54) e49 (by decide) (by decide) ?_
  exact ⟨b1, k1, rfl, N49, KK, sz_b1, g_b1, V_b1⟩
theorem pd___BI__B : parseMethodDescriptor "([BI)[B" = some ⟨[(.array .byte), .int], some (.array .byte)⟩ := by decide +kernel
theorem pd___B_I : parseMethodDescriptor "([B)I" = some ⟨[(.array .byte)], some .int⟩ := by decide +kernel
theorem pd___BIJ_V : parseMethodDescriptor "([BIJ)V" = some ⟨[(.array .byte), .int, .long], none⟩ := by decide +kernel
theorem pd___BI_J : parseMethodDescriptor "([BI)J" = some ⟨[(.array .byte), .int], some .long⟩ := by decide +kernel
theorem ef_rm_law (m : MethodId) (y0 : Int64) (y1 : Int64) (y2 : Int32) (y3 : Int32) : entryFrame m #[(.long y0), (.long y1), (.int y2), (.int y3)] maxLocals = mkF m 0 #[.val (.long y0), .second, .val (.long y1), .second, .val (.int y2), .val (.int y3), .unset, .unset, .unset, .unset, .unset, .unset, .unset] [] := by first | (simp [entryFrame, mkF, argsToLocals, Value.category, maxLocals]; done) | rfl
def Q_rm_law (Z : State) (q0 : Int64) (q1 : Int64) (p2 : Int32) (p3 : Int32) (h0 : Heap) (n0 : Nat) (v : Option Value) (h : Heap) (L : List Loc) : Prop := v = some (.int 1) ∧ Fr n0 L
set_option maxRecDepth 65536 in
set_option maxHeartbeats 40000000 in
theorem rm_law (l : Launch) (Z : State) (a0 : Array Value) (hw : ∀ d ∈ tables_1, d.before a0 Z = true) (ws : List Jvm.Cond) (q0 : Int64) (q1 : Int64) (p2 : Int32) (p3 : Int32) (h0 : Heap) (n0 : Nat) (Z0 : n0 ≤ h0.size) :
    MetFree l x (head1 (Jvm.Cond.code x code maxLocals ret :: ws) room_1) (fun a U => a = #[(.long q0), (.long q1), (.int p2), (.int p3)] ∧ Z.Warmed39 U.vm ∧ U.heap = h0) (fun _ _ _ _ _ => True) (fun _ U o U' => ∃ v L, o = .returned v ∧ Q_rm_law Z q0 q1 p2 p3 h0 n0 v U'.heap L ∧ FrameEnd U o U' L 16 128) := by
  refine MetFree.of_bodySF (plainFor_of_name pn_com_example_sliding_gate_slidinggate_IpAddressesNetworkPinLaw) hisR ?_
  intro p e s m args below meth c s₁ Bd hml0 hP hK
  obtain ⟨rfl, hZ, hh⟩ := hP
  have hx := Bd.exec
  have hby := Bd.bytes
  have hlk := Bd.notSynchronized
  have hml : c.maxLocals = 13 := hml0
  have hown : s.vm.findClass "com/example/sliding_gate/slidinggate/IpAddressesNetworkPinLaw" = some m.cls := findClass_of_methodNamed Bd.named
  have hnm := (name_of_methodNamed Bd.named Bd.method).1
  have X0 : Stand p l e room_1 s m #[(.long q0), (.long q1), (.int p2), (.int p3)] below meth c s₁ [] 0 0 := Stand.of_body Bd
  have e0 : s₁.heap = h0 := by rw [← hh, Bd.state]; rfl
  have N0 := Fr.nil n0
  show OwnEnd p e below s (Q_rm_law Z q0 q1 p2 p3 h0 n0) 16 128 (s₁.setTop (entryFrame m #[(.long q0), (.long q1), (.int p2), (.int p3)] maxLocals))
  refine go (fun t k => castTop (ef_rm_law m q0 q1 p2 p3) k) ?_
  show OwnEnd _ _ _ _ _ _ _ (s₁.setTop (mkF m 0 (fL4 q0 q1 p2 p3) []))
  refine go (fun _ k => by refine XS.iload X0.here hx rfl (hb hby at_0) rfl ?_; exact k) ?_
  refine go (fun _ k => by refine XS.iconst X0.here hx rfl (hb hby at_2) ?_; exact k) ?_
  refine go (fun _ k => by refine XS.iand X0.here hx rfl (hb hby at_3) rfl ?_; exact k) ?_
  show OwnEnd _ _ _ _ _ _ _ (s₁.setTop (mkF m 4 (fL4 q0 q1 p2 p3) [(.int (p3 &&& (1 : Int32)))]))
  by_cases hc4_1 : (p3 &&& (1 : Int32)) = (0 : Int32)
  · refine go (fun _ k => by refine XS.ifNo X0.here hx rfl (hb hby at_4) rfl ((if0 _ _).trans (teq hc4_1).2) ?_; exact k) ?_
    show OwnEnd _ _ _ _ _ _ _ (s₁.setTop (mkF m 7 (fL4 q0 q1 p2 p3) []))
    refine go (fun _ k => by refine XS.lloadN X0.here hx rfl (hb hby at_7) rfl ?_; exact k) ?_
    refine go (fun _ k => by refine XS.l2i X0.here hx rfl (hb hby at_8) rfl ?_; exact k) ?_
    refine go (fun _ k => by refine XS.istore X0.here hx rfl (hb hby at_9) rfl (l' := (fL5 q0 q1 p2 p3 (q1.toInt32))) rfl ?_; exact k) ?_
    show OwnEnd _ _ _ _ _ _ _ (s₁.setTop (mkF m 11 (fL5 q0 q1 p2 p3 (q1.toInt32)) []))
    generalize qx2 : (q1.toInt32) = x2
    refine go (fun _ k => by refine XS.iload X0.here hx rfl (hb hby at_11) rfl ?_; exact k) ?_
    show OwnEnd _ _ _ _ _ _ _ (s₁.setTop (mkF m 13 (fL5 q0 q1 p2 p3 x2) [(.int p2)]))
    refine go (X0.ldcInt hx hown (mvT hZ (hw _ (List.mem_of_getElem? (i := 0) rfl))) (g := (mkF m 13 (fL5 q0 q1 p2 p3 x2) [(.int p2)])) rfl (hb hby at_13)) ?_
    refine go (fun _ k => by refine XS.iand X0.here hx rfl (hb hby at_15) rfl ?_; exact k) ?_
    refine go (fun _ k => by refine XS.bipush X0.here hx rfl (hb hby at_16) ?_; exact k) ?_
    show OwnEnd _ _ _ _ _ _ _ (s₁.setTop (mkF m 18 (fL5 q0 q1 p2 p3 x2) [(.int (33 : Int32)), (.int (p2 &&& (2147483647 : Int32)))]))
    refine go (fun t k => iremM (g := (mkF m 18 (fL5 q0 q1 p2 p3 x2) [(.int (33 : Int32)), (.int (p2 &&& (2147483647 : Int32)))])) X0 hx rfl (hb hby at_18) rfl (by decide) k) ?_
    refine go (fun _ k => by refine XS.istore X0.here hx rfl (hb hby at_19) rfl (l' := (fL6 q0 q1 p2 p3 x2 ((p2 &&& (2147483647 : Int32)) % (33 : Int32)))) rfl ?_; exact k) ?_
    show OwnEnd _ _ _ _ _ _ _ (s₁.setTop (mkF m 21 (fL6 q0 q1 p2 p3 x2 ((p2 &&& (2147483647 : Int32)) % (33 : Int32))) []))
    generalize qx3 : ((p2 &&& (2147483647 : Int32)) % (33 : Int32)) = x3
    refine go (fun _ k => by refine XS.iconst X0.here hx rfl (hb hby at_21) ?_; exact k) ?_
    show OwnEnd _ _ _ _ _ _ _ (s₁.setTop (mkF m 22 (fL6 q0 q1 p2 p3 x2 x3) [(.int (4 : Int32))]))
    obtain ⟨T4, h4, k4, X4, e4, E4, A4, st4⟩ := newP X0 hx hZ (hw _ (List.mem_of_getElem? (i := 1) rfl)) e0 (g := (mkF m 22 (fL6 q0 q1 p2 p3 x2 x3) [(.int (4 : Int32))])) rfl (hb hby at_22) rfl (by decide) (cap := 4) (by decide) (by decide) (by decide) (by decide)
    obtain ⟨b4, g4⟩ : ∃ z, z = h0.size := ⟨_, rfl⟩
    rw [← g4] at A4 st4
    have g_b4 : n0 ≤ b4 := Nat.le_trans Z0 (Nat.le_of_eq g4.symm)
    have Z0 := Nat.le_trans Z0 E4.1
    have V_b4 : Arv Z h4 b4 k4 .byte (4 : Int32) [(.int (0 : Int32)), (.int (0 : Int32)), (.int (0 : Int32)), (.int (0 : Int32))] (.int (0 : Int32)) := (Arv.new A4 (by decide)).pad (pad_rep [] (.int (0 : Int32)) 4)
    refine go st4 ?_
    refine go (fun _ k => by refine XS.astore X4.here hx rfl (hb hby at_24) rfl rfl (l' := (fL7 q0 q1 p2 p3 x2 x3 b4)) rfl ?_; exact k) ?_
    refine go (fun _ k => by refine XS.aload X4.here hx rfl (hb hby at_26) rfl rfl ?_; exact k) ?_
    refine go (fun _ k => by refine XS.iconst X4.here hx rfl (hb hby at_28) ?_; exact k) ?_
    show OwnEnd _ _ _ _ _ _ _ (T4.setTop (mkF m 29 (fL7 q0 q1 p2 p3 x2 x3 b4) [(.int (0 : Int32)), (.ref b4)]))
    refine go (fun _ k => by refine XS.iload X4.here hx rfl (hb hby at_29) rfl ?_; exact k) ?_
    refine go (fun _ k => by refine XS.bipush X4.here hx rfl (hb hby at_31) ?_; exact k) ?_
    refine go (fun _ k => by refine XS.iushr X4.here hx rfl (hb hby at_33) rfl ?_; exact k) ?_
    refine go (fun _ k => by refine XS.i2b X4.here hx rfl (hb hby at_34) rfl ?_; exact k) ?_
    show OwnEnd _ _ _ _ _ _ _ (T4.setTop (mkF m 35 (fL7 q0 q1 p2 p3 x2 x3 b4) [(.int (((x2.toUInt32 >>> ((24 : Int32) &&& 31).toUInt32).toInt32).toInt8.toInt32)), (.int (0 : Int32)), (.ref b4)]))
    obtain ⟨T5, h5, X5, e5, W5, V_b4', st5⟩ := stBv X4 hx hZ e4 V_b4 (j := (0 : Int32)) (i := 0) (by decide) (by decide) (by decide) (Nat.le_of_ble_eq_true rfl) (g := (mkF m 35 (fL7 q0 q1 p2 p3 x2 x3 b4) [(.int (((x2.toUInt32 >>> ((24 : Int32) &&& 31).toUInt32).toInt32).toInt8.toInt32)), (.int (0 : Int32)), (.ref b4)])) rfl rfl (hb hby at_35)
    have N5 := Fr.snoc X5 N0 g_b4
    have Z0 := Nat.le_trans Z0 (Keep.of_wr W5).1
    have V_b4 : Arv Z h5 b4 k4 .byte (4 : Int32) [(.int (own_bi x2 24)), (.int (0 : Int32)), (.int (0 : Int32)), (.int (0 : Int32))] (.int (0 : Int32)) := V_b4'
    refine go st5 ?_
    refine go (fun _ k => by refine XS.aload X5.here hx rfl (hb hby at_36) rfl rfl ?_; exact k) ?_
    refine go (fun _ k => by refine XS.iconst X5.here hx rfl (hb hby at_38) ?_; exact k) ?_
    refine go (fun _ k => by refine XS.iload X5.here hx rfl (hb hby at_39) rfl ?_; exact k) ?_
    show OwnEnd _ _ _ _ _ _ _ (T5.setTop (mkF m 41 (fL7 q0 q1 p2 p3 x2 x3 b4) [(.int x2), (.int (1 : Int32)), (.ref b4)]))
    refine go (fun _ k => by refine XS.bipush X5.here hx rfl (hb hby at_41) ?_; exact k) ?_
    refine go (fun _ k => by refine XS.iushr X5.here hx rfl (hb hby at_43) rfl ?_; exact k) ?_
    refine go (fun _ k => by refine XS.i2b X5.here hx rfl (hb hby at_44) rfl ?_; exact k) ?_
    show OwnEnd _ _ _ _ _ _ _ (T5.setTop (mkF m 45 (fL7 q0 q1 p2 p3 x2 x3 b4) [(.int (((x2.toUInt32 >>> ((16 : Int32) &&& 31).toUInt32).toInt32).toInt8.toInt32)), (.int (1 : Int32)), (.ref b4)]))
    obtain ⟨T6, h6, X6, e6, W6, V_b4', st6⟩ := stBv X5 hx hZ e5 V_b4 (j := (1 : Int32)) (i := 1) (by decide) (by decide) (by decide) (Nat.le_of_ble_eq_true rfl) (g := (mkF m 45 (fL7 q0 q1 p2 p3 x2 x3 b4) [(.int (((x2.toUInt32 >>> ((16 : Int32) &&& 31).toUInt32).toInt32).toInt8.toInt32)), (.int (1 : Int32)), (.ref b4)])) rfl rfl (hb hby at_45)
    have N6 := Fr.snoc X6 N5 g_b4
    have Z0 := Nat.le_trans Z0 (Keep.of_wr W6).1
    have V_b4 : Arv Z h6 b4 k4 .byte (4 : Int32) [(.int (own_bi x2 24)), (.int (own_bi x2 16)), (.int (0 : Int32)), (.int (0 : Int32))] (.int (0 : Int32)) := V_b4'
    refine go st6 ?_
    refine go (fun _ k => by refine XS.aload X6.here hx rfl (hb hby at_46) rfl rfl ?_; exact k) ?_
    refine go (fun _ k => by refine XS.iconst X6.here hx rfl (hb hby at_48) ?_; exact k) ?_
    refine go (fun _ k => by refine XS.iload X6.here hx rfl (hb hby at_49) rfl ?_; exact k) ?_
    show OwnEnd _ _ _ _ _ _ _ (T6.setTop (mkF m 51 (fL7 q0 q1 p2 p3 x2 x3 b4) [(.int x2), (.int (2 : Int32)), (.ref b4)]))
    refine go (fun _ k => by refine XS.bipush X6.here hx rfl (hb hby at_51) ?_; exact k) ?_
    refine go (fun _ k => by refine XS.iushr X6.here hx rfl (hb hby at_53) rfl ?_; exact k) ?_
    refine go (fun _ k => by refine XS.i2b X6.here hx rfl (hb hby at_54) rfl ?_; exact k) ?_
    show OwnEnd _ _ _ _ _ _ _ (T6.setTop (mkF m 55 (fL7 q0 q1 p2 p3 x2 x3 b4) [(.int (((x2.toUInt32 >>> ((8 : Int32) &&& 31).toUInt32).toInt32).toInt8.toInt32)), (.int (2 : Int32)), (.ref b4)]))
    obtain ⟨T7, h7, X7, e7, W7, V_b4', st7⟩ := stBv X6 hx hZ e6 V_b4 (j := (2 : Int32)) (i := 2) (by decide) (by decide) (by decide) (Nat.le_of_ble_eq_true rfl) (g := (mkF m 55 (fL7 q0 q1 p2 p3 x2 x3 b4) [(.int (((x2.toUInt32 >>> ((8 : Int32) &&& 31).toUInt32).toInt32).toInt8.toInt32)), (.int (2 : Int32)), (.ref b4)])) rfl rfl (hb hby at_55)
    have N7 := Fr.snoc X7 N6 g_b4
    have Z0 := Nat.le_trans Z0 (Keep.of_wr W7).1
    have V_b4 : Arv Z h7 b4 k4 .byte (4 : Int32) [(.int (own_bi x2 24)), (.int (own_bi x2 16)), (.int (own_bi x2 8)), (.int (0 : Int32))] (.int (0 : Int32)) := V_b4'
    refine go st7 ?_
    refine go (fun _ k => by refine XS.aload X7.here hx rfl (hb hby at_56) rfl rfl ?_; exact k) ?_
    refine go (fun _ k => by refine XS.iconst X7.here hx rfl (hb hby at_58) ?_; exact k) ?_
    refine go (fun _ k => by refine XS.iload X7.here hx rfl (hb hby at_59) rfl ?_; exact k) ?_
    show OwnEnd _ _ _ _ _ _ _ (T7.setTop (mkF m 61 (fL7 q0 q1 p2 p3 x2 x3 b4) [(.int x2), (.int (3 : Int32)), (.ref b4)]))
    refine go (fun _ k => by refine XS.i2b X7.here hx rfl (hb hby at_61) rfl ?_; exact k) ?_
    show OwnEnd _ _ _ _ _ _ _ (T7.setTop (mkF m 62 (fL7 q0 q1 p2 p3 x2 x3 b4) [(.int (x2.toInt8.toInt32)), (.int (3 : Int32)), (.ref b4)]))
    obtain ⟨T8, h8, X8, e8, W8, V_b4', st8⟩ := stBv X7 hx hZ e7 V_b4 (j := (3 : Int32)) (i := 3) (by decide) (by decide) (by decide) (Nat.le_of_ble_eq_true rfl) (g := (mkF m 62 (fL7 q0 q1 p2 p3 x2 x3 b4) [(.int (x2.toInt8.toInt32)), (.int (3 : Int32)), (.ref b4)])) rfl rfl (hb hby at_62)
    have N8 := Fr.snoc X8 N7 g_b4
    have Z0 := Nat.le_trans Z0 (Keep.of_wr W8).1
    have V_b4 : Arv Z h8 b4 k4 .byte (4 : Int32) [(.int (own_bi x2 24)), (.int (own_bi x2 16)), (.int (own_bi x2 8)), (.int (own_bz x2))] (.int (0 : Int32)) := V_b4'
    refine go st8 ?_
    refine go (fun _ k => by refine XS.iload X8.here hx rfl (hb hby at_63) rfl ?_; exact k) ?_
    show OwnEnd _ _ _ _ _ _ _ (T8.setTop (mkF m 65 (fL7 q0 q1 p2 p3 x2 x3 b4) [(.int x3)]))
    have J10 : ∀ (x10_s0 : Int32) (qx10_s0 : x10_s0 = (if x3 = (0 : Int32) then (0 : Int32) else ((-1 : Int32) <<< (((32 : Int32) - x3) &&& 31)))), OwnEnd p e below s (Q_rm_law Z q0 q1 p2 p3 h0 n0) 16 128 (T8.setTop (mkF m 79 (fL7 q0 q1 p2 p3 x2 x3 b4) [(.int x10_s0)])) := by
      intro x10_s0 qx10_s0
      show OwnEnd _ _ _ _ _ _ _ (T8.setTop (mkF m 79 (fL7 q0 q1 p2 p3 x2 x3 b4) [(.int x10_s0)]))
      refine go (fun _ k => by refine XS.istore X8.here hx rfl (hb hby at_79) rfl (l' := (fL8 q0 q1 p2 p3 x2 x3 b4 x10_s0)) rfl ?_; exact k) ?_
      refine go (fun _ k => by refine XS.aload X8.here hx rfl (hb hby at_81) rfl rfl ?_; exact k) ?_
      refine go (fun _ k => by refine XS.iload X8.here hx rfl (hb hby at_83) rfl ?_; exact k) ?_
      show OwnEnd _ _ _ _ _ _ _ (T8.setTop (mkF m 85 (fL8 q0 q1 p2 p3 x2 x3 b4 x10_s0) [(.int x3), (.ref b4)]))
      obtain ⟨_, T11, L11, X11, hQ11, st11⟩ := callStat X8 hx hZ hown (hw _ (List.mem_of_getElem? (i := 6) rfl)) (hw _ (List.mem_of_getElem? (i := 7) rfl)) (hw _ (List.mem_of_getElem? (i := 8) rfl)) (hw _ (List.mem_of_getElem? (i := 9) rfl)) (by decide) (rm_net4 l Z a0 hw [] b4 x3 k4 (own_bi x2 24) (own_bi x2 16) (own_bi x2 8) (own_bz x2) h8 n0 Z0 V_b4) (W := 0) (by decide) (by decide) e8 (g := (mkF m 85 (fL8 q0 q1 p2 p3 x2 x3 b4 x10_s0) [(.int x3), (.ref b4)])) rfl (by rw [hml]; rfl) (argsL := [(.ref b4), (.int x3)]) (rest := []) rfl (lenOf pd___BI__B rfl) rfl (by show 2 * 0 + _ ≤ _; exact Nat.le_of_eq rfl) (hb hby at_85) (by decide) (by decide)
      have lta11 := V_b4.lt
      obtain ⟨r11, k11, rfl, Nq11, K11, sq11, g_r11, V_r11⟩ := hQ11
      have N11 := Fr.app N8 Nq11
      have Z0 := Nat.le_trans Z0 K11.1
      have V_b4 := V_b4.keep K11 nin0
      have ne_r11 : b4 ≠ r11 := fun q => absurd lta11 (by rw [q]; exact Nat.not_lt.mpr sq11)
      refine go st11 ?_
      refine go (fun _ k => by refine XS.astore X11.here hx rfl (hb hby at_88) rfl rfl (l' := (fL9 q0 q1 p2 p3 x2 x3 b4 x10_s0 r11)) rfl ?_; exact k) ?_
      refine go (fun _ k => by refine XS.aload X11.here hx rfl (hb hby at_90) rfl rfl ?_; exact k) ?_
      refine go (fun _ k => by refine XS.aload X11.here hx rfl (hb hby at_92) rfl rfl ?_; exact k) ?_
      show OwnEnd _ _ _ _ _ _ _ (T11.setTop (mkF m 94 (fL9 q0 q1 p2 p3 x2 x3 b4 x10_s0 r11) [(.ref b4), (.ref r11)]))
      refine go (fun t k => Jvm.RoadKit.acmp (g := (mkF m 94 (fL9 q0 q1 p2 p3 x2 x3 b4 x10_s0 r11) [(.ref b4), (.ref r11)])) X11 hx rfl rfl rfl (pc0 := 94) (pc' := 97) (same := false) rfl (hb hby at_94) rfl (decide_eq_false fun q => (Ne.symm ne_r11) (Value.ref.inj q)) (by decide) (by decide) k) ?_
      refine go (fun _ k => by refine XS.aload X11.here hx rfl (hb hby at_97) rfl rfl ?_; exact k) ?_
      show OwnEnd _ _ _ _ _ _ _ (T11.setTop (mkF m 99 (fL9 q0 q1 p2 p3 x2 x3 b4 x10_s0 r11) [(.ref r11)]))
      refine go (lenV X11 hx hZ rfl V_r11 (g := (mkF m 99 (fL9 q0 q1 p2 p3 x2 x3 b4 x10_s0 r11) [(.ref r11)])) rfl rfl (hb hby at_99)) ?_
      refine go (fun _ k => by refine XS.iconst X11.here hx rfl (hb hby at_100) ?_; exact k) ?_
      show OwnEnd _ _ _ _ _ _ _ (T11.setTop (mkF m 101 (fL9 q0 q1 p2 p3 x2 x3 b4 x10_s0 r11) [(.int (4 : Int32)), (.int (4 : Int32))]))
      refine go (fun _ k => by refine XS.icmpNo X11.here hx rfl (hb hby at_101) rfl (teq (by decide)).2 ?_; exact k) ?_
      refine go (fun _ k => by refine XS.aload X11.here hx rfl (hb hby at_104) rfl rfl ?_; exact k) ?_
      show OwnEnd _ _ _ _ _ _ _ (T11.setTop (mkF m 106 (fL9 q0 q1 p2 p3 x2 x3 b4 x10_s0 r11) [(.ref r11)]))
      obtain ⟨_, T12, L12, X12, hQ12, st12⟩ := callStat X11 hx hZ hown (hw _ (List.mem_of_getElem? (i := 21) rfl)) (hw _ (List.mem_of_getElem? (i := 22) rfl)) (hw _ (List.mem_of_getElem? (i := 4) rfl)) (hw _ (List.mem_of_getElem? (i := 23) rfl)) (by decide) (rm_pk4 l Z a0 hw [] r11 k11 (own_nb (own_bi x2 24) x3 0) (own_nb (own_bi x2 16) x3 8) (own_nb (own_bi x2 8) x3 16) (own_nb (own_bz x2) x3 24) T11.heap n0 V_r11) (W := 0) (by decide) (by decide) rfl (g := (mkF m 106 (fL9 q0 q1 p2 p3 x2 x3 b4 x10_s0 r11) [(.ref r11)])) rfl (by rw [hml]; rfl) (argsL := [(.ref r11)]) (rest := []) rfl (lenOf pd___B_I rfl) rfl (by show 2 * 0 + _ ≤ _; exact Nat.le_of_eq rfl) (hb hby at_106) (by decide) (by decide)
      obtain ⟨rfl, Nq12, eq12⟩ := hQ12
      have N12 := Fr.app N11 Nq12
      refine go st12 ?_
      refine go (fun _ k => by refine XS.iload X12.here hx rfl (hb hby at_109) rfl ?_; exact k) ?_
      refine go (fun _ k => by refine XS.iload X12.here hx rfl (hb hby at_111) rfl ?_; exact k) ?_
      refine go (fun _ k => by refine XS.iand X12.here hx rfl (hb hby at_113) rfl ?_; exact k) ?_
      show OwnEnd _ _ _ _ _ _ _ (T12.setTop (mkF m 114 (fL9 q0 q1 p2 p3 x2 x3 b4 x10_s0 r11) [(.int (x2 &&& x10_s0)), (.int (own_p4 (own_nb (own_bi x2 24) x3 0) (own_nb (own_bi x2 16) x3 8) (own_nb (own_bi x2 8) x3 16) (own_nb (own_bz x2) x3 24)))]))
      by_cases hc114_13 : (own_p4 (own_nb (own_bi x2 24) x3 0) (own_nb (own_bi x2 16) x3 8) (own_nb (own_bi x2 8) x3 16) (own_nb (own_bz x2) x3 24)) = (x2 &&& x10_s0)
      · refine go (fun _ k => by refine XS.icmpNo X12.here hx rfl (hb hby at_114) rfl (teq hc114_13).2 ?_; exact k) ?_
        show OwnEnd _ _ _ _ _ _ _ (T12.setTop (mkF m 117 (fL9 q0 q1 p2 p3 x2 x3 b4 x10_s0 r11) []))
        refine go (fun _ k => by refine XS.aload X12.here hx rfl (hb hby at_117) rfl rfl ?_; exact k) ?_
        show OwnEnd _ _ _ _ _ _ _ (T12.setTop (mkF m 119 (fL9 q0 q1 p2 p3 x2 x3 b4 x10_s0 r11) [(.ref b4)]))
        obtain ⟨_, T14, L14, X14, hQ14, st14⟩ := callStat X12 hx hZ hown (hw _ (List.mem_of_getElem? (i := 21) rfl)) (hw _ (List.mem_of_getElem? (i := 22) rfl)) (hw _ (List.mem_of_getElem? (i := 4) rfl)) (hw _ (List.mem_of_getElem? (i := 23) rfl)) (by decide) (rm_pk4 l Z a0 hw [] b4 k4 (own_bi x2 24) (own_bi x2 16) (own_bi x2 8) (own_bz x2) T11.heap n0 V_b4) (W := 0) (by decide) (by decide) eq12 (g := (mkF m 119 (fL9 q0 q1 p2 p3 x2 x3 b4 x10_s0 r11) [(.ref b4)])) rfl (by rw [hml]; rfl) (argsL := [(.ref b4)]) (rest := []) rfl (lenOf pd___B_I rfl) rfl (by show 2 * 0 + _ ≤ _; exact Nat.le_of_eq rfl) (hb hby at_119) (by decide) (by decide)
        obtain ⟨rfl, Nq14, eq14⟩ := hQ14
        have N14 := Fr.app N12 Nq14
        refine go st14 ?_
        refine go (fun _ k => by refine XS.iload X14.here hx rfl (hb hby at_122) rfl ?_; exact k) ?_
        show OwnEnd _ _ _ _ _ _ _ (T14.setTop (mkF m 124 (fL9 q0 q1 p2 p3 x2 x3 b4 x10_s0 r11) [(.int x2), (.int (own_p4 (own_bi x2 24) (own_bi x2 16) (own_bi x2 8) (own_bz x2)))]))
        by_cases hc124_15 : (own_p4 (own_bi x2 24) (own_bi x2 16) (own_bi x2 8) (own_bz x2)) = x2
        · refine go (fun _ k => by refine XS.icmpNo X14.here hx rfl (hb hby at_124) rfl (teq hc124_15).2 ?_; exact k) ?_
          show OwnEnd _ _ _ _ _ _ _ (T14.setTop (mkF m 127 (fL9 q0 q1 p2 p3 x2 x3 b4 x10_s0 r11) []))
          refine go (fun _ k => by refine XS.iconst X14.here hx rfl (hb hby at_127) ?_; exact k) ?_
          refine go (fun _ k => by refine XS.goto X14.here hx rfl (pc0 := 128) (pc' := 132) rfl (hb hby at_128) (by decide) (by decide) ?_; exact k) ?_
          show OwnEnd _ _ _ _ _ _ _ (T14.setTop (mkF m 132 (fL9 q0 q1 p2 p3 x2 x3 b4 x10_s0 r11) [(.int (1 : Int32))]))
          refine endN X14 hx hlk (t := .boolean) (by simp) Bd.returns (hb hby at_132) eq14 (by decide) (by decide) ?_
          exact ⟨rfl, N14⟩
        · refine go (fun _ k => by refine XS.icmpYes X14.here hx rfl (pc0 := 124) (pc' := 131) rfl (hb hby at_124) rfl (feq hc124_15).2 (by decide) (by decide) ?_; exact k) ?_
          show OwnEnd _ _ _ _ _ _ _ (T14.setTop (mkF m 131 (fL9 q0 q1 p2 p3 x2 x3 b4 x10_s0 r11) []))
          refine go (fun _ k => by refine XS.iconst X14.here hx rfl (hb hby at_131) ?_; exact k) ?_
          show OwnEnd _ _ _ _ _ _ _ (T14.setTop (mkF m 132 (fL9 q0 q1 p2 p3 x2 x3 b4 x10_s0 r11) [(.int (0 : Int32))]))
          refine endN X14 hx hlk (t := .boolean) (by simp) Bd.returns (hb hby at_132) eq14 (by decide) (by decide) ?_
          exact absurd (own_id4 _) hc124_15
      · refine go (fun _ k => by refine XS.icmpYes X12.here hx rfl (pc0 := 114) (pc' := 131) rfl (hb hby at_114) rfl (feq hc114_13).2 (by decide) (by decide) ?_; exact k) ?_
        show OwnEnd _ _ _ _ _ _ _ (T12.setTop (mkF m 131 (fL9 q0 q1 p2 p3 x2 x3 b4 x10_s0 r11) []))
        refine go (fun _ k => by refine XS.iconst X12.here hx rfl (hb hby at_131) ?_; exact k) ?_
        show OwnEnd _ _ _ _ _ _ _ (T12.setTop (mkF m 132 (fL9 q0 q1 p2 p3 x2 x3 b4 x10_s0 r11) [(.int (0 : Int32))]))
        refine endN X12 hx hlk (t := .boolean) (by simp) Bd.returns (hb hby at_132) eq12 (by decide) (by decide) ?_
        exact absurd (own_w4 _ _ _ _ qx3 qx10_s0) hc114_13
    by_cases hc65_9 : x3 = (0 : Int32)
    · refine go (fun _ k => by refine XS.ifNo X8.here hx rfl (hb hby at_65) rfl ((if0 _ _).trans (teq hc65_9).2) ?_; exact k) ?_
      show OwnEnd _ _ _ _ _ _ _ (T8.setTop (mkF m 68 (fL7 q0 q1 p2 p3 x2 x3 b4) []))
      refine go (fun _ k => by refine XS.iconst X8.here hx rfl (hb hby at_68) ?_; exact k) ?_
      refine go (fun _ k => by refine XS.goto X8.here hx rfl (pc0 := 69) (pc' := 79) rfl (hb hby at_69) (by decide) (by decide) ?_; exact k) ?_
      exact J10 (0 : Int32) (by rw [if_pos hc65_9])
    · refine go (fun _ k => by refine XS.ifYes X8.here hx rfl (pc0 := 65) (pc' := 72) rfl (hb hby at_65) rfl ((if0 _ _).trans (feq hc65_9).2) (by decide) (by decide) ?_; exact k) ?_
      show OwnEnd _ _ _ _ _ _ _ (T8.setTop (mkF m 72 (fL7 q0 q1 p2 p3 x2 x3 b4) []))
      refine go (fun _ k => by refine XS.iconst X8.here hx rfl (hb hby at_72) ?_; exact k) ?_
      refine go (fun _ k => by refine XS.bipush X8.here hx rfl (hb hby at_73) ?_; exact k) ?_
      refine go (fun _ k => by refine XS.iload X8.here hx rfl (hb hby at_75) rfl ?_; exact k) ?_
      refine go (fun _ k => by refine XS.isub X8.here hx rfl (hb hby at_77) rfl ?_; exact k) ?_
      show OwnEnd _ _ _ _ _ _ _ (T8.setTop (mkF m 78 (fL7 q0 q1 p2 p3 x2 x3 b4) [(.int ((32 : Int32) - x3)), (.int (-1 : Int32))]))
      refine go (fun _ k => by refine XS.ishl X8.here hx rfl (hb hby at_78) rfl ?_; exact k) ?_
      exact J10 ((-1 : Int32) <<< (((32 : Int32) - x3) &&& 31)) (by rw [if_neg hc65_9])
  · refine go (fun _ k => by refine XS.ifYes X0.here hx rfl (pc0 := 4) (pc' := 133) rfl (hb hby at_4) rfl ((if0 _ _).trans (feq hc4_1).2) (by decide) (by decide) ?_; exact k) ?_
    show OwnEnd _ _ _ _ _ _ _ (s₁.setTop (mkF m 133 (fL4 q0 q1 p2 p3) []))
    refine go (fun _ k => by refine XS.iload X0.here hx rfl (hb hby at_133) rfl ?_; exact k) ?_
    show OwnEnd _ _ _ _ _ _ _ (s₁.setTop (mkF m 135 (fL4 q0 q1 p2 p3) [(.int p2)]))
    refine go (X0.ldcInt hx hown (mvT hZ (hw _ (List.mem_of_getElem? (i := 0) rfl))) (g := (mkF m 135 (fL4 q0 q1 p2 p3) [(.int p2)])) rfl (hb hby at_135)) ?_
    refine go (fun _ k => by refine XS.iand X0.here hx rfl (hb hby at_137) rfl ?_; exact k) ?_
    refine go (fun _ k => by refine XS.sipush X0.here hx rfl (hb hby at_138) ?_; exact k) ?_
    show OwnEnd _ _ _ _ _ _ _ (s₁.setTop (mkF m 141 (fL4 q0 q1 p2 p3) [(.int (129 : Int32)), (.int (p2 &&& (2147483647 : Int32)))]))
    refine go (fun t k => iremM (g := (mkF m 141 (fL4 q0 q1 p2 p3) [(.int (129 : Int32)), (.int (p2 &&& (2147483647 : Int32)))])) X0 hx rfl (hb hby at_141) rfl (by decide) k) ?_
    refine go (fun _ k => by refine XS.istore X0.here hx rfl (hb hby at_142) rfl (l' := (fL5 q0 q1 p2 p3 ((p2 &&& (2147483647 : Int32)) % (129 : Int32)))) rfl ?_; exact k) ?_
    show OwnEnd _ _ _ _ _ _ _ (s₁.setTop (mkF m 144 (fL5 q0 q1 p2 p3 ((p2 &&& (2147483647 : Int32)) % (129 : Int32))) []))
    generalize qx16 : ((p2 &&& (2147483647 : Int32)) % (129 : Int32)) = x16
    refine go (fun _ k => by refine XS.bipush X0.here hx rfl (hb hby at_144) ?_; exact k) ?_
    show OwnEnd _ _ _ _ _ _ _ (s₁.setTop (mkF m 146 (fL5 q0 q1 p2 p3 x16) [(.int (16 : Int32))]))
    obtain ⟨T17, h17, k17, X17, e17, E17, A17, st17⟩ := newP X0 hx hZ (hw _ (List.mem_of_getElem? (i := 1) rfl)) e0 (g := (mkF m 146 (fL5 q0 q1 p2 p3 x16) [(.int (16 : Int32))])) rfl (hb hby at_146) rfl (by decide) (cap := 16) (by decide) (by decide) (by decide) (by decide)
    obtain ⟨b17, g17⟩ : ∃ z, z = h0.size := ⟨_, rfl⟩
    rw [← g17] at A17 st17
    have g_b17 : n0 ≤ b17 := Nat.le_trans Z0 (Nat.le_of_eq g17.symm)
    have Z0 := Nat.le_trans Z0 E17.1
    have V_b17 : Arv Z h17 b17 k17 .byte (16 : Int32) [(.int (0 : Int32)), (.int (0 : Int32)), (.int (0 : Int32)), (.int (0 : Int32)), (.int (0 : Int32)), (.int (0 : Int32)), (.int (0 : Int32)), (.int (0 : Int32)), (.int (0 : Int32)), (.int (0 : Int32)), (.int (0 : Int32)), (.int (0 : Int32)), (.int (0 : Int32)), (.int (0 : Int32)), (.int (0 : Int32)), (.int (0 : Int32))] (.int (0 : Int32)) := (Arv.new A17 (by decide)).pad (pad_rep [] (.int (0 : Int32)) 16)
    refine go st17 ?_
    refine go (fun _ k => by refine XS.astore X17.here hx rfl (hb hby at_148) rfl rfl (l' := (fL10 q0 q1 p2 p3 x16 b17)) rfl ?_; exact k) ?_
    refine go (fun _ k => by refine XS.aload X17.here hx rfl (hb hby at_150) rfl rfl ?_; exact k) ?_
    refine go (fun _ k => by refine XS.iconst X17.here hx rfl (hb hby at_152) ?_; exact k) ?_
    show OwnEnd _ _ _ _ _ _ _ (T17.setTop (mkF m 153 (fL10 q0 q1 p2 p3 x16 b17) [(.int (0 : Int32)), (.ref b17)]))
    refine go (fun _ k => by refine XS.lloadN X17.here hx rfl (hb hby at_153) rfl ?_; exact k) ?_
    show OwnEnd _ _ _ _ _ _ _ (T17.setTop (mkF m 154 (fL10 q0 q1 p2 p3 x16 b17) [(.long q0), (.int (0 : Int32)), (.ref b17)]))
    obtain ⟨_, T18, L18, X18, hQ18, st18⟩ := callStat X17 hx hZ hown (hw _ (List.mem_of_getElem? (i := 2) rfl)) (hw _ (List.mem_of_getElem? (i := 3) rfl)) (hw _ (List.mem_of_getElem? (i := 4) rfl)) (hw _ (List.mem_of_getElem? (i := 5) rfl)) (by decide) (rm_put0 l Z a0 hw [] b17 q0 k17 (0 : Int32) (0 : Int32) (0 : Int32) (0 : Int32) (0 : Int32) (0 : Int32) (0 : Int32) (0 : Int32) (0 : Int32) (0 : Int32) (0 : Int32) (0 : Int32) (0 : Int32) (0 : Int32) (0 : Int32) (0 : Int32) h17 n0 g_b17 V_b17) (W := 0) (by decide) (by decide) e17 (g := (mkF m 154 (fL10 q0 q1 p2 p3 x16 b17) [(.long q0), (.int (0 : Int32)), (.ref b17)])) rfl (by rw [hml]; rfl) (argsL := [(.ref b17), (.int (0 : Int32)), (.long q0)]) (rest := []) rfl (lenOf pd___BIJ_V rfl) rfl (by show 2 * 0 + _ ≤ _; exact Nat.le_of_eq rfl) (hb hby at_154) (by decide) (by decide)
    obtain ⟨rfl, Nq18, K18, V_b17⟩ := hQ18
    have N18 := Fr.app N0 Nq18
    have Z0 := Nat.le_trans Z0 K18.1
    refine go st18 ?_
    refine go (fun _ k => by refine XS.aload X18.here hx rfl (hb hby at_157) rfl rfl ?_; exact k) ?_
    refine go (fun _ k => by refine XS.bipush X18.here hx rfl (hb hby at_159) ?_; exact k) ?_
    refine go (fun _ k => by refine XS.lloadN X18.here hx rfl (hb hby at_161) rfl ?_; exact k) ?_
    show OwnEnd _ _ _ _ _ _ _ (T18.setTop (mkF m 162 (fL10 q0 q1 p2 p3 x16 b17) [(.long q1), (.int (8 : Int32)), (.ref b17)]))
    obtain ⟨_, T19, L19, X19, hQ19, st19⟩ := callStat X18 hx hZ hown (hw _ (List.mem_of_getElem? (i := 2) rfl)) (hw _ (List.mem_of_getElem? (i := 3) rfl)) (hw _ (List.mem_of_getElem? (i := 4) rfl)) (hw _ (List.mem_of_getElem? (i := 5) rfl)) (by decide) (rm_put8 l Z a0 hw [] b17 q1 k17 (own_by q0 56) (own_by q0 48) (own_by q0 40) (own_by q0 32) (own_by q0 24) (own_by q0 16) (own_by q0 8) (own_b0 q0) (0 : Int32) (0 : Int32) (0 : Int32) (0 : Int32) (0 : Int32) (0 : Int32) (0 : Int32) (0 : Int32) T18.heap n0 g_b17 V_b17) (W := 0) (by decide) (by decide) rfl (g := (mkF m 162 (fL10 q0 q1 p2 p3 x16 b17) [(.long q1), (.int (8 : Int32)), (.ref b17)])) rfl (by rw [hml]; rfl) (argsL := [(.ref b17), (.int (8 : Int32)), (.long q1)]) (rest := []) rfl (lenOf pd___BIJ_V rfl) rfl (by show 2 * 0 + _ ≤ _; exact Nat.le_of_eq rfl) (hb hby at_162) (by decide) (by decide)
    obtain ⟨rfl, Nq19, K19, V_b17⟩ := hQ19
    have N19 := Fr.app N18 Nq19
    have Z0 := Nat.le_trans Z0 K19.1
    refine go st19 ?_
    refine go (fun _ k => by refine XS.iload X19.here hx rfl (hb hby at_165) rfl ?_; exact k) ?_
    refine go (fun _ k => by refine XS.bipush X19.here hx rfl (hb hby at_167) ?_; exact k) ?_
    show OwnEnd _ _ _ _ _ _ _ (T19.setTop (mkF m 169 (fL10 q0 q1 p2 p3 x16 b17) [(.int (64 : Int32)), (.int x16)]))
    have J22 : ∀ (x22_s0 : Int64) (qx22_s0 : x22_s0 = (if x16 < (64 : Int32) then (if x16 = (0 : Int32) then (0 : Int64) else ((-1 : Int64) <<< (((64 : Int32) - x16) &&& 0x3f).toInt64)) else (-1 : Int64))), OwnEnd p e below s (Q_rm_law Z q0 q1 p2 p3 h0 n0) 16 128 (T19.setTop (mkF m 196 (fL10 q0 q1 p2 p3 x16 b17) [(.long x22_s0)])) := by
      intro x22_s0 qx22_s0
      show OwnEnd _ _ _ _ _ _ _ (T19.setTop (mkF m 196 (fL10 q0 q1 p2 p3 x16 b17) [(.long x22_s0)]))
      refine go (fun _ k => by refine XS.lstore X19.here hx rfl (hb hby at_196) rfl (l' := (fL11 q0 q1 p2 p3 x16 b17 x22_s0)) rfl ?_; exact k) ?_
      refine go (fun _ k => by refine XS.iload X19.here hx rfl (hb hby at_198) rfl ?_; exact k) ?_
      refine go (fun _ k => by refine XS.bipush X19.here hx rfl (hb hby at_200) ?_; exact k) ?_
      show OwnEnd _ _ _ _ _ _ _ (T19.setTop (mkF m 202 (fL11 q0 q1 p2 p3 x16 b17 x22_s0) [(.int (64 : Int32)), (.int x16)]))
      have J24 : ∀ (x24_s0 : Int64) (qx24_s0 : x24_s0 = (if (64 : Int32) < x16 then ((-1 : Int64) <<< (((128 : Int32) - x16) &&& 0x3f).toInt64) else (0 : Int64))), OwnEnd p e below s (Q_rm_law Z q0 q1 p2 p3 h0 n0) 16 128 (T19.setTop (mkF m 219 (fL11 q0 q1 p2 p3 x16 b17 x22_s0) [(.long x24_s0)])) := by
        intro x24_s0 qx24_s0
        show OwnEnd _ _ _ _ _ _ _ (T19.setTop (mkF m 219 (fL11 q0 q1 p2 p3 x16 b17 x22_s0) [(.long x24_s0)]))
        refine go (fun _ k => by refine XS.lstore X19.here hx rfl (hb hby at_219) rfl (l' := (fL12 q0 q1 p2 p3 x16 b17 x22_s0 x24_s0)) rfl ?_; exact k) ?_
        refine go (fun _ k => by refine XS.aload X19.here hx rfl (hb hby at_221) rfl rfl ?_; exact k) ?_
        refine go (fun _ k => by refine XS.iload X19.here hx rfl (hb hby at_223) rfl ?_; exact k) ?_
        show OwnEnd _ _ _ _ _ _ _ (T19.setTop (mkF m 225 (fL12 q0 q1 p2 p3 x16 b17 x22_s0 x24_s0) [(.int x16), (.ref b17)]))
        obtain ⟨_, T25, L25, X25, hQ25, st25⟩ := callStat X19 hx hZ hown (hw _ (List.mem_of_getElem? (i := 6) rfl)) (hw _ (List.mem_of_getElem? (i := 7) rfl)) (hw _ (List.mem_of_getElem? (i := 8) rfl)) (hw _ (List.mem_of_getElem? (i := 9) rfl)) (by decide) (rm_net16 l Z a0 hw [] b17 x16 k17 (own_by q0 56) (own_by q0 48) (own_by q0 40) (own_by q0 32) (own_by q0 24) (own_by q0 16) (own_by q0 8) (own_b0 q0) (own_by q1 56) (own_by q1 48) (own_by q1 40) (own_by q1 32) (own_by q1 24) (own_by q1 16) (own_by q1 8) (own_b0 q1) T19.heap n0 Z0 V_b17) (W := 0) (by decide) (by decide) rfl (g := (mkF m 225 (fL12 q0 q1 p2 p3 x16 b17 x22_s0 x24_s0) [(.int x16), (.ref b17)])) rfl (by rw [hml]; rfl) (argsL := [(.ref b17), (.int x16)]) (rest := []) rfl (lenOf pd___BI__B rfl) rfl (by show 2 * 0 + _ ≤ _; exact Nat.le_of_eq rfl) (hb hby at_225) (by decide) (by decide)
        have lta25 := V_b17.lt
        obtain ⟨r25, k25, rfl, Nq25, K25, sq25, g_r25, V_r25⟩ := hQ25
        have N25 := Fr.app N19 Nq25
        have Z0 := Nat.le_trans Z0 K25.1
        have V_b17 := V_b17.keep K25 nin0
        have ne_r25 : b17 ≠ r25 := fun q => absurd lta25 (by rw [q]; exact Nat.not_lt.mpr sq25)
        refine go st25 ?_
        refine go (fun _ k => by refine XS.astore X25.here hx rfl (hb hby at_228) rfl rfl (l' := (fL13 q0 q1 p2 p3 x16 b17 x22_s0 x24_s0 r25)) rfl ?_; exact k) ?_
        refine go (fun _ k => by refine XS.aload X25.here hx rfl (hb hby at_230) rfl rfl ?_; exact k) ?_
        refine go (fun _ k => by refine XS.aload X25.here hx rfl (hb hby at_232) rfl rfl ?_; exact k) ?_
        show OwnEnd _ _ _ _ _ _ _ (T25.setTop (mkF m 234 (fL13 q0 q1 p2 p3 x16 b17 x22_s0 x24_s0 r25) [(.ref b17), (.ref r25)]))
        refine go (fun t k => Jvm.RoadKit.acmp (g := (mkF m 234 (fL13 q0 q1 p2 p3 x16 b17 x22_s0 x24_s0 r25) [(.ref b17), (.ref r25)])) X25 hx rfl rfl rfl (pc0 := 234) (pc' := 237) (same := false) rfl (hb hby at_234) rfl (decide_eq_false fun q => (Ne.symm ne_r25) (Value.ref.inj q)) (by decide) (by decide) k) ?_
        refine go (fun _ k => by refine XS.aload X25.here hx rfl (hb hby at_237) rfl rfl ?_; exact k) ?_
        show OwnEnd _ _ _ _ _ _ _ (T25.setTop (mkF m 239 (fL13 q0 q1 p2 p3 x16 b17 x22_s0 x24_s0 r25) [(.ref r25)]))
        refine go (lenV X25 hx hZ rfl V_r25 (g := (mkF m 239 (fL13 q0 q1 p2 p3 x16 b17 x22_s0 x24_s0 r25) [(.ref r25)])) rfl rfl (hb hby at_239)) ?_
        refine go (fun _ k => by refine XS.bipush X25.here hx rfl (hb hby at_240) ?_; exact k) ?_
        show OwnEnd _ _ _ _ _ _ _ (T25.setTop (mkF m 242 (fL13 q0 q1 p2 p3 x16 b17 x22_s0 x24_s0 r25) [(.int (16 : Int32)), (.int (16 : Int32))]))
        refine go (fun _ k => by refine XS.icmpNo X25.here hx rfl (hb hby at_242) rfl (teq (by decide)).2 ?_; exact k) ?_
        refine go (fun _ k => by refine XS.aload X25.here hx rfl (hb hby at_245) rfl rfl ?_; exact k) ?_
        refine go (fun _ k => by refine XS.iconst X25.here hx rfl (hb hby at_247) ?_; exact k) ?_
        show OwnEnd _ _ _ _ _ _ _ (T25.setTop (mkF m 248 (fL13 q0 q1 p2 p3 x16 b17 x22_s0 x24_s0 r25) [(.int (0 : Int32)), (.ref r25)]))
        obtain ⟨_, T26, L26, X26, hQ26, st26⟩ := callStat X25 hx hZ hown (hw _ (List.mem_of_getElem? (i := 17) rfl)) (hw _ (List.mem_of_getElem? (i := 18) rfl)) (hw _ (List.mem_of_getElem? (i := 4) rfl)) (hw _ (List.mem_of_getElem? (i := 19) rfl)) (by decide) (rm_pk0 l Z a0 hw [] r25 k25 (own_nb (own_by q0 56) x16 0) (own_nb (own_by q0 48) x16 8) (own_nb (own_by q0 40) x16 16) (own_nb (own_by q0 32) x16 24) (own_nb (own_by q0 24) x16 32) (own_nb (own_by q0 16) x16 40) (own_nb (own_by q0 8) x16 48) (own_nb (own_b0 q0) x16 56) (own_nb (own_by q1 56) x16 64) (own_nb (own_by q1 48) x16 72) (own_nb (own_by q1 40) x16 80) (own_nb (own_by q1 32) x16 88) (own_nb (own_by q1 24) x16 96) (own_nb (own_by q1 16) x16 104) (own_nb (own_by q1 8) x16 112) (own_nb (own_b0 q1) x16 120) T25.heap n0 V_r25) (W := 0) (by decide) (by decide) rfl (g := (mkF m 248 (fL13 q0 q1 p2 p3 x16 b17 x22_s0 x24_s0 r25) [(.int (0 : Int32)), (.ref r25)])) rfl (by rw [hml]; rfl) (argsL := [(.ref r25), (.int (0 : Int32))]) (rest := []) rfl (lenOf pd___BI_J rfl) rfl (by show 2 * 0 + _ ≤ _; exact Nat.le_of_eq rfl) (hb hby at_248) (by decide) (by decide)
        obtain ⟨rfl, Nq26, eq26⟩ := hQ26
        have N26 := Fr.app N25 Nq26
        refine go st26 ?_
        refine go (fun _ k => by refine XS.lloadN X26.here hx rfl (hb hby at_251) rfl ?_; exact k) ?_
        refine go (fun _ k => by refine XS.lload X26.here hx rfl (hb hby at_252) rfl ?_; exact k) ?_
        refine go (fun _ k => by refine XS.land X26.here hx rfl (hb hby at_254) rfl ?_; exact k) ?_
        show OwnEnd _ _ _ _ _ _ _ (T26.setTop (mkF m 255 (fL13 q0 q1 p2 p3 x16 b17 x22_s0 x24_s0 r25) [(.long (q0 &&& x22_s0)), (.long (own_p8 (own_nb (own_by q0 56) x16 0) (own_nb (own_by q0 48) x16 8) (own_nb (own_by q0 40) x16 16) (own_nb (own_by q0 32) x16 24) (own_nb (own_by q0 24) x16 32) (own_nb (own_by q0 16) x16 40) (own_nb (own_by q0 8) x16 48) (own_nb (own_b0 q0) x16 56)))]))
        refine go (fun _ k => by refine XS.lcmp X26.here hx rfl (hb hby at_255) rfl ?_; exact k) ?_
        show OwnEnd _ _ _ _ _ _ _ (T26.setTop (mkF m 256 (fL13 q0 q1 p2 p3 x16 b17 x22_s0 x24_s0 r25) [(.int (lcmpW (own_p8 (own_nb (own_by q0 56) x16 0) (own_nb (own_by q0 48) x16 8) (own_nb (own_by q0 40) x16 16) (own_nb (own_by q0 32) x16 24) (own_nb (own_by q0 24) x16 32) (own_nb (own_by q0 16) x16 40) (own_nb (own_by q0 8) x16 48) (own_nb (own_b0 q0) x16 56)) (q0 &&& x22_s0)))]))
        by_cases hc256_27 : (own_p8 (own_nb (own_by q0 56) x16 0) (own_nb (own_by q0 48) x16 8) (own_nb (own_by q0 40) x16 16) (own_nb (own_by q0 32) x16 24) (own_nb (own_by q0 24) x16 32) (own_nb (own_by q0 16) x16 40) (own_nb (own_by q0 8) x16 48) (own_nb (own_b0 q0) x16 56)) = (q0 &&& x22_s0)
        · refine go (fun _ k => by refine XS.ifNo X26.here hx rfl (hb hby at_256) rfl ((if0 _ _).trans (teq ((lw_eq _ _).mpr hc256_27)).2) ?_; exact k) ?_
          show OwnEnd _ _ _ _ _ _ _ (T26.setTop (mkF m 259 (fL13 q0 q1 p2 p3 x16 b17 x22_s0 x24_s0 r25) []))
          refine go (fun _ k => by refine XS.aload X26.here hx rfl (hb hby at_259) rfl rfl ?_; exact k) ?_
          refine go (fun _ k => by refine XS.bipush X26.here hx rfl (hb hby at_261) ?_; exact k) ?_
          show OwnEnd _ _ _ _ _ _ _ (T26.setTop (mkF m 263 (fL13 q0 q1 p2 p3 x16 b17 x22_s0 x24_s0 r25) [(.int (8 : Int32)), (.ref r25)]))
          obtain ⟨_, T28, L28, X28, hQ28, st28⟩ := callStat X26 hx hZ hown (hw _ (List.mem_of_getElem? (i := 17) rfl)) (hw _ (List.mem_of_getElem? (i := 18) rfl)) (hw _ (List.mem_of_getElem? (i := 4) rfl)) (hw _ (List.mem_of_getElem? (i := 19) rfl)) (by decide) (rm_pk8 l Z a0 hw [] r25 k25 (own_nb (own_by q0 56) x16 0) (own_nb (own_by q0 48) x16 8) (own_nb (own_by q0 40) x16 16) (own_nb (own_by q0 32) x16 24) (own_nb (own_by q0 24) x16 32) (own_nb (own_by q0 16) x16 40) (own_nb (own_by q0 8) x16 48) (own_nb (own_b0 q0) x16 56) (own_nb (own_by q1 56) x16 64) (own_nb (own_by q1 48) x16 72) (own_nb (own_by q1 40) x16 80) (own_nb (own_by q1 32) x16 88) (own_nb (own_by q1 24) x16 96) (own_nb (own_by q1 16) x16 104) (own_nb (own_by q1 8) x16 112) (own_nb (own_b0 q1) x16 120) T25.heap n0 V_r25) (W := 0) (by decide) (by decide) eq26 (g := (mkF m 263 (fL13 q0 q1 p2 p3 x16 b17 x22_s0 x24_s0 r25) [(.int (8 : Int32)), (.ref r25)])) rfl (by rw [hml]; rfl) (argsL := [(.ref r25), (.int (8 : Int32))]) (rest := []) rfl (lenOf pd___BI_J rfl) rfl (by show 2 * 0 + _ ≤ _; exact Nat.le_of_eq rfl) (hb hby at_263) (by decide) (by decide)
          obtain ⟨rfl, Nq28, eq28⟩ := hQ28
          have N28 := Fr.app N26 Nq28
          refine go st28 ?_
          refine go (fun _ k => by refine XS.lloadN X28.here hx rfl (hb hby at_266) rfl ?_; exact k) ?_
          refine go (fun _ k => by refine XS.lload X28.here hx rfl (hb hby at_267) rfl ?_; exact k) ?_
          refine go (fun _ k => by refine XS.land X28.here hx rfl (hb hby at_269) rfl ?_; exact k) ?_
          show OwnEnd _ _ _ _ _ _ _ (T28.setTop (mkF m 270 (fL13 q0 q1 p2 p3 x16 b17 x22_s0 x24_s0 r25) [(.long (q1 &&& x24_s0)), (.long (own_p8 (own_nb (own_by q1 56) x16 64) (own_nb (own_by q1 48) x16 72) (own_nb (own_by q1 40) x16 80) (own_nb (own_by q1 32) x16 88) (own_nb (own_by q1 24) x16 96) (own_nb (own_by q1 16) x16 104) (own_nb (own_by q1 8) x16 112) (own_nb (own_b0 q1) x16 120)))]))
          refine go (fun _ k => by refine XS.lcmp X28.here hx rfl (hb hby at_270) rfl ?_; exact k) ?_
          show OwnEnd _ _ _ _ _ _ _ (T28.setTop (mkF m 271 (fL13 q0 q1 p2 p3 x16 b17 x22_s0 x24_s0 r25) [(.int (lcmpW (own_p8 (own_nb (own_by q1 56) x16 64) (own_nb (own_by q1 48) x16 72) (own_nb (own_by q1 40) x16 80) (own_nb (own_by q1 32) x16 88) (own_nb (own_by q1 24) x16 96) (own_nb (own_by q1 16) x16 104) (own_nb (own_by q1 8) x16 112) (own_nb (own_b0 q1) x16 120)) (q1 &&& x24_s0)))]))
          by_cases hc271_29 : (own_p8 (own_nb (own_by q1 56) x16 64) (own_nb (own_by q1 48) x16 72) (own_nb (own_by q1 40) x16 80) (own_nb (own_by q1 32) x16 88) (own_nb (own_by q1 24) x16 96) (own_nb (own_by q1 16) x16 104) (own_nb (own_by q1 8) x16 112) (own_nb (own_b0 q1) x16 120)) = (q1 &&& x24_s0)
          · refine go (fun _ k => by refine XS.ifNo X28.here hx rfl (hb hby at_271) rfl ((if0 _ _).trans (teq ((lw_eq _ _).mpr hc271_29)).2) ?_; exact k) ?_
            show OwnEnd _ _ _ _ _ _ _ (T28.setTop (mkF m 274 (fL13 q0 q1 p2 p3 x16 b17 x22_s0 x24_s0 r25) []))
            refine go (fun _ k => by refine XS.aload X28.here hx rfl (hb hby at_274) rfl rfl ?_; exact k) ?_
            refine go (fun _ k => by refine XS.iconst X28.here hx rfl (hb hby at_276) ?_; exact k) ?_
            show OwnEnd _ _ _ _ _ _ _ (T28.setTop (mkF m 277 (fL13 q0 q1 p2 p3 x16 b17 x22_s0 x24_s0 r25) [(.int (0 : Int32)), (.ref b17)]))
            obtain ⟨_, T30, L30, X30, hQ30, st30⟩ := callStat X28 hx hZ hown (hw _ (List.mem_of_getElem? (i := 17) rfl)) (hw _ (List.mem_of_getElem? (i := 18) rfl)) (hw _ (List.mem_of_getElem? (i := 4) rfl)) (hw _ (List.mem_of_getElem? (i := 19) rfl)) (by decide) (rm_pk0 l Z a0 hw [] b17 k17 (own_by q0 56) (own_by q0 48) (own_by q0 40) (own_by q0 32) (own_by q0 24) (own_by q0 16) (own_by q0 8) (own_b0 q0) (own_by q1 56) (own_by q1 48) (own_by q1 40) (own_by q1 32) (own_by q1 24) (own_by q1 16) (own_by q1 8) (own_b0 q1) T25.heap n0 V_b17) (W := 0) (by decide) (by decide) eq28 (g := (mkF m 277 (fL13 q0 q1 p2 p3 x16 b17 x22_s0 x24_s0 r25) [(.int (0 : Int32)), (.ref b17)])) rfl (by rw [hml]; rfl) (argsL := [(.ref b17), (.int (0 : Int32))]) (rest := []) rfl (lenOf pd___BI_J rfl) rfl (by show 2 * 0 + _ ≤ _; exact Nat.le_of_eq rfl) (hb hby at_277) (by decide) (by decide)
            obtain ⟨rfl, Nq30, eq30⟩ := hQ30
            have N30 := Fr.app N28 Nq30
            refine go st30 ?_
            refine go (fun _ k => by refine XS.lloadN X30.here hx rfl (hb hby at_280) rfl ?_; exact k) ?_
            refine go (fun _ k => by refine XS.lcmp X30.here hx rfl (hb hby at_281) rfl ?_; exact k) ?_
            show OwnEnd _ _ _ _ _ _ _ (T30.setTop (mkF m 282 (fL13 q0 q1 p2 p3 x16 b17 x22_s0 x24_s0 r25) [(.int (lcmpW (own_p8 (own_by q0 56) (own_by q0 48) (own_by q0 40) (own_by q0 32) (own_by q0 24) (own_by q0 16) (own_by q0 8) (own_b0 q0)) q0))]))
            by_cases hc282_31 : (own_p8 (own_by q0 56) (own_by q0 48) (own_by q0 40) (own_by q0 32) (own_by q0 24) (own_by q0 16) (own_by q0 8) (own_b0 q0)) = q0
            · refine go (fun _ k => by refine XS.ifNo X30.here hx rfl (hb hby at_282) rfl ((if0 _ _).trans (teq ((lw_eq _ _).mpr hc282_31)).2) ?_; exact k) ?_
              show OwnEnd _ _ _ _ _ _ _ (T30.setTop (mkF m 285 (fL13 q0 q1 p2 p3 x16 b17 x22_s0 x24_s0 r25) []))
              refine go (fun _ k => by refine XS.aload X30.here hx rfl (hb hby at_285) rfl rfl ?_; exact k) ?_
              refine go (fun _ k => by refine XS.bipush X30.here hx rfl (hb hby at_287) ?_; exact k) ?_
              show OwnEnd _ _ _ _ _ _ _ (T30.setTop (mkF m 289 (fL13 q0 q1 p2 p3 x16 b17 x22_s0 x24_s0 r25) [(.int (8 : Int32)), (.ref b17)]))
              obtain ⟨_, T32, L32, X32, hQ32, st32⟩ := callStat X30 hx hZ hown (hw _ (List.mem_of_getElem? (i := 17) rfl)) (hw _ (List.mem_of_getElem? (i := 18) rfl)) (hw _ (List.mem_of_getElem? (i := 4) rfl)) (hw _ (List.mem_of_getElem? (i := 19) rfl)) (by decide) (rm_pk8 l Z a0 hw [] b17 k17 (own_by q0 56) (own_by q0 48) (own_by q0 40) (own_by q0 32) (own_by q0 24) (own_by q0 16) (own_by q0 8) (own_b0 q0) (own_by q1 56) (own_by q1 48) (own_by q1 40) (own_by q1 32) (own_by q1 24) (own_by q1 16) (own_by q1 8) (own_b0 q1) T25.heap n0 V_b17) (W := 0) (by decide) (by decide) eq30 (g := (mkF m 289 (fL13 q0 q1 p2 p3 x16 b17 x22_s0 x24_s0 r25) [(.int (8 : Int32)), (.ref b17)])) rfl (by rw [hml]; rfl) (argsL := [(.ref b17), (.int (8 : Int32))]) (rest := []) rfl (lenOf pd___BI_J rfl) rfl (by show 2 * 0 + _ ≤ _; exact Nat.le_of_eq rfl) (hb hby at_289) (by decide) (by decide)
              obtain ⟨rfl, Nq32, eq32⟩ := hQ32
              have N32 := Fr.app N30 Nq32
              refine go st32 ?_
              refine go (fun _ k => by refine XS.lloadN X32.here hx rfl (hb hby at_292) rfl ?_; exact k) ?_
              refine go (fun _ k => by refine XS.lcmp X32.here hx rfl (hb hby at_293) rfl ?_; exact k) ?_
              show OwnEnd _ _ _ _ _ _ _ (T32.setTop (mkF m 294 (fL13 q0 q1 p2 p3 x16 b17 x22_s0 x24_s0 r25) [(.int (lcmpW (own_p8 (own_by q1 56) (own_by q1 48) (own_by q1 40) (own_by q1 32) (own_by q1 24) (own_by q1 16) (own_by q1 8) (own_b0 q1)) q1))]))
              by_cases hc294_33 : (own_p8 (own_by q1 56) (own_by q1 48) (own_by q1 40) (own_by q1 32) (own_by q1 24) (own_by q1 16) (own_by q1 8) (own_b0 q1)) = q1
              · refine go (fun _ k => by refine XS.ifNo X32.here hx rfl (hb hby at_294) rfl ((if0 _ _).trans (teq ((lw_eq _ _).mpr hc294_33)).2) ?_; exact k) ?_
                show OwnEnd _ _ _ _ _ _ _ (T32.setTop (mkF m 297 (fL13 q0 q1 p2 p3 x16 b17 x22_s0 x24_s0 r25) []))
                refine go (fun _ k => by refine XS.iconst X32.here hx rfl (hb hby at_297) ?_; exact k) ?_
                refine go (fun _ k => by refine XS.goto X32.here hx rfl (pc0 := 298) (pc' := 302) rfl (hb hby at_298) (by decide) (by decide) ?_; exact k) ?_
                show OwnEnd _ _ _ _ _ _ _ (T32.setTop (mkF m 302 (fL13 q0 q1 p2 p3 x16 b17 x22_s0 x24_s0 r25) [(.int (1 : Int32))]))
                refine endN X32 hx hlk (t := .boolean) (by simp) Bd.returns (hb hby at_302) eq32 (by decide) (by decide) ?_
                exact ⟨rfl, N32⟩
              · refine go (fun _ k => by refine XS.ifYes X32.here hx rfl (pc0 := 294) (pc' := 301) rfl (hb hby at_294) rfl ((if0 _ _).trans (feq (fun q => hc294_33 ((lw_eq _ _).mp q))).2) (by decide) (by decide) ?_; exact k) ?_
                show OwnEnd _ _ _ _ _ _ _ (T32.setTop (mkF m 301 (fL13 q0 q1 p2 p3 x16 b17 x22_s0 x24_s0 r25) []))
                refine go (fun _ k => by refine XS.iconst X32.here hx rfl (hb hby at_301) ?_; exact k) ?_
                show OwnEnd _ _ _ _ _ _ _ (T32.setTop (mkF m 302 (fL13 q0 q1 p2 p3 x16 b17 x22_s0 x24_s0 r25) [(.int (0 : Int32))]))
                refine endN X32 hx hlk (t := .boolean) (by simp) Bd.returns (hb hby at_302) eq32 (by decide) (by decide) ?_
                exact absurd (own_id8 _) hc294_33
            · refine go (fun _ k => by refine XS.ifYes X30.here hx rfl (pc0 := 282) (pc' := 301) rfl (hb hby at_282) rfl ((if0 _ _).trans (feq (fun q => hc282_31 ((lw_eq _ _).mp q))).2) (by decide) (by decide) ?_; exact k) ?_
              show OwnEnd _ _ _ _ _ _ _ (T30.setTop (mkF m 301 (fL13 q0 q1 p2 p3 x16 b17 x22_s0 x24_s0 r25) []))
              refine go (fun _ k => by refine XS.iconst X30.here hx rfl (hb hby at_301) ?_; exact k) ?_
              show OwnEnd _ _ _ _ _ _ _ (T30.setTop (mkF m 302 (fL13 q0 q1 p2 p3 x16 b17 x22_s0 x24_s0 r25) [(.int (0 : Int32))]))
              refine endN X30 hx hlk (t := .boolean) (by simp) Bd.returns (hb hby at_302) eq30 (by decide) (by decide) ?_
              exact absurd (own_id8 _) hc282_31
          · refine go (fun _ k => by refine XS.ifYes X28.here hx rfl (pc0 := 271) (pc' := 301) rfl (hb hby at_271) rfl ((if0 _ _).trans (feq (fun q => hc271_29 ((lw_eq _ _).mp q))).2) (by decide) (by decide) ?_; exact k) ?_
            show OwnEnd _ _ _ _ _ _ _ (T28.setTop (mkF m 301 (fL13 q0 q1 p2 p3 x16 b17 x22_s0 x24_s0 r25) []))
            refine go (fun _ k => by refine XS.iconst X28.here hx rfl (hb hby at_301) ?_; exact k) ?_
            show OwnEnd _ _ _ _ _ _ _ (T28.setTop (mkF m 302 (fL13 q0 q1 p2 p3 x16 b17 x22_s0 x24_s0 r25) [(.int (0 : Int32))]))
            refine endN X28 hx hlk (t := .boolean) (by simp) Bd.returns (hb hby at_302) eq28 (by decide) (by decide) ?_
            exact absurd (own_lo _ _ _ _ qx16 qx24_s0) hc271_29
        · refine go (fun _ k => by refine XS.ifYes X26.here hx rfl (pc0 := 256) (pc' := 301) rfl (hb hby at_256) rfl ((if0 _ _).trans (feq (fun q => hc256_27 ((lw_eq _ _).mp q))).2) (by decide) (by decide) ?_; exact k) ?_
          show OwnEnd _ _ _ _ _ _ _ (T26.setTop (mkF m 301 (fL13 q0 q1 p2 p3 x16 b17 x22_s0 x24_s0 r25) []))
          refine go (fun _ k => by refine XS.iconst X26.here hx rfl (hb hby at_301) ?_; exact k) ?_
          show OwnEnd _ _ _ _ _ _ _ (T26.setTop (mkF m 302 (fL13 q0 q1 p2 p3 x16 b17 x22_s0 x24_s0 r25) [(.int (0 : Int32))]))
          refine endN X26 hx hlk (t := .boolean) (by simp) Bd.returns (hb hby at_302) eq26 (by decide) (by decide) ?_
          exact absurd (own_hi _ _ _ _ qx16 qx22_s0) hc256_27
      by_cases hc202_23 : (64 : Int32) < x16
      · refine go (fun _ k => by refine XS.icmpYes X19.here hx rfl (pc0 := 202) (pc' := 209) rfl (hb hby at_202) rfl (tlt hc202_23).2.2.1 (by decide) (by decide) ?_; exact k) ?_
        show OwnEnd _ _ _ _ _ _ _ (T19.setTop (mkF m 209 (fL11 q0 q1 p2 p3 x16 b17 x22_s0) []))
        refine go (X19.ldc2Long hx hown (mvT hZ (hw _ (List.mem_of_getElem? (i := 24) rfl))) (g := (mkF m 209 (fL11 q0 q1 p2 p3 x16 b17 x22_s0) [])) rfl (hb hby at_209)) ?_
        refine go (fun _ k => by refine XS.sipush X19.here hx rfl (hb hby at_212) ?_; exact k) ?_
        refine go (fun _ k => by refine XS.iload X19.here hx rfl (hb hby at_215) rfl ?_; exact k) ?_
        refine go (fun _ k => by refine XS.isub X19.here hx rfl (hb hby at_217) rfl ?_; exact k) ?_
        show OwnEnd _ _ _ _ _ _ _ (T19.setTop (mkF m 218 (fL11 q0 q1 p2 p3 x16 b17 x22_s0) [(.int ((128 : Int32) - x16)), (.long (-1 : Int64))]))
        refine go (fun _ k => by refine XS.lshl X19.here hx rfl (hb hby at_218) rfl ?_; exact k) ?_
        exact J24 ((-1 : Int64) <<< (((128 : Int32) - x16) &&& 0x3f).toInt64) (by rw [if_pos hc202_23])
      · refine go (fun _ k => by refine XS.icmpNo X19.here hx rfl (hb hby at_202) rfl (flt hc202_23).2.2.1 ?_; exact k) ?_
        show OwnEnd _ _ _ _ _ _ _ (T19.setTop (mkF m 205 (fL11 q0 q1 p2 p3 x16 b17 x22_s0) []))
        refine go (fun _ k => by refine XS.lconst X19.here hx rfl (hb hby at_205) ?_; exact k) ?_
        refine go (fun _ k => by refine XS.goto X19.here hx rfl (pc0 := 206) (pc' := 219) rfl (hb hby at_206) (by decide) (by decide) ?_; exact k) ?_
        exact J24 (0 : Int64) (by rw [if_neg hc202_23])
    by_cases hc169_20 : x16 < (64 : Int32)
    · refine go (fun _ k => by refine XS.icmpYes X19.here hx rfl (pc0 := 169) (pc' := 178) rfl (hb hby at_169) rfl (tlt hc169_20).1 (by decide) (by decide) ?_; exact k) ?_
      show OwnEnd _ _ _ _ _ _ _ (T19.setTop (mkF m 178 (fL10 q0 q1 p2 p3 x16 b17) []))
      refine go (fun _ k => by refine XS.iload X19.here hx rfl (hb hby at_178) rfl ?_; exact k) ?_
      show OwnEnd _ _ _ _ _ _ _ (T19.setTop (mkF m 180 (fL10 q0 q1 p2 p3 x16 b17) [(.int x16)]))
      by_cases hc180_21 : x16 = (0 : Int32)
      · refine go (fun _ k => by refine XS.ifNo X19.here hx rfl (hb hby at_180) rfl ((if0 _ _).trans (teq hc180_21).2) ?_; exact k) ?_
        show OwnEnd _ _ _ _ _ _ _ (T19.setTop (mkF m 183 (fL10 q0 q1 p2 p3 x16 b17) []))
        refine go (fun _ k => by refine XS.lconst X19.here hx rfl (hb hby at_183) ?_; exact k) ?_
        refine go (fun _ k => by refine XS.goto X19.here hx rfl (pc0 := 184) (pc' := 196) rfl (hb hby at_184) (by decide) (by decide) ?_; exact k) ?_
        exact J22 (0 : Int64) (by rw [if_pos hc169_20, if_pos hc180_21])
      · refine go (fun _ k => by refine XS.ifYes X19.here hx rfl (pc0 := 180) (pc' := 187) rfl (hb hby at_180) rfl ((if0 _ _).trans (feq hc180_21).2) (by decide) (by decide) ?_; exact k) ?_
        show OwnEnd _ _ _ _ _ _ _ (T19.setTop (mkF m 187 (fL10 q0 q1 p2 p3 x16 b17) []))
        refine go (X19.ldc2Long hx hown (mvT hZ (hw _ (List.mem_of_getElem? (i := 24) rfl))) (g := (mkF m 187 (fL10 q0 q1 p2 p3 x16 b17) [])) rfl (hb hby at_187)) ?_
        refine go (fun _ k => by refine XS.bipush X19.here hx rfl (hb hby at_190) ?_; exact k) ?_
        refine go (fun _ k => by refine XS.iload X19.here hx rfl (hb hby at_192) rfl ?_; exact k) ?_
        refine go (fun _ k => by refine XS.isub X19.here hx rfl (hb hby at_194) rfl ?_; exact k) ?_
        show OwnEnd _ _ _ _ _ _ _ (T19.setTop (mkF m 195 (fL10 q0 q1 p2 p3 x16 b17) [(.int ((64 : Int32) - x16)), (.long (-1 : Int64))]))
        refine go (fun _ k => by refine XS.lshl X19.here hx rfl (hb hby at_195) rfl ?_; exact k) ?_
        exact J22 ((-1 : Int64) <<< (((64 : Int32) - x16) &&& 0x3f).toInt64) (by rw [if_pos hc169_20, if_neg hc180_21])
    · refine go (fun _ k => by refine XS.icmpNo X19.here hx rfl (hb hby at_169) rfl (flt hc169_20).1 ?_; exact k) ?_
      show OwnEnd _ _ _ _ _ _ _ (T19.setTop (mkF m 172 (fL10 q0 q1 p2 p3 x16 b17) []))
      refine go (X19.ldc2Long hx hown (mvT hZ (hw _ (List.mem_of_getElem? (i := 24) rfl))) (g := (mkF m 172 (fL10 q0 q1 p2 p3 x16 b17) [])) rfl (hb hby at_172)) ?_
      refine go (fun _ k => by refine XS.goto X19.here hx rfl (pc0 := 175) (pc' := 196) rfl (hb hby at_175) (by decide) (by decide) ?_; exact k) ?_
      exact J22 (-1 : Int64) (by rw [if_neg hc169_20])
set_option maxRecDepth 65536 in
set_option maxHeartbeats 40000000 in
theorem comes_1 {Post : Tables → Env → Array Value → State → Outcome → State → Prop} (hpost : ∀ tb e args s v u, (limb_1_1.after args s (.returned v) u = true ∧ limb_1_2.after args s (.returned v) u = true ∧ True) → FrameEnd s (.returned v) u (Jvm.fieldLocs frame_1_writes args s ++ Jvm.arrayLocs frame_1_arrays args s ++ Jvm.staticLocs frame_1_statics s) 16 128 → Post tb e args s (.returned v) u) :
    ArmFor flags0 classFile x code maxLocals ret World_1 tables_1 room_1 Calls_1 rest_1 Pre_1 Post := by
  intro l hfl _ _ p e ha hc hk s m args below hf hA hF happ hP
  obtain ⟨hcalls, hrest, hpre⟩ := hP
  obtain ⟨-, -, -, hnamed, -, -, -, hat⟩ := (Spec.applies_iff hf).mp happ
  obtain ⟨hg, hn⟩ := and_e (Cond.before_iff.mp (show (Jvm.Cond.and given_1 narrow_1).before args s = true from hpre))
  obtain ⟨gv1, gv2⟩ := and_e hg
  obtain ⟨gv3, gv4⟩ := and_e gv2
  obtain ⟨gv5, gv6⟩ := and_e gv4
  obtain ⟨gv7, gv8⟩ := and_e gv6
  obtain ⟨w0, w1, w2, w3, rfl⟩ : ∃ w0 w1 w2 w3 : Value, args = #[w0, w1, w2, w3] := by
    have hs : args.size = 4 := by simpa [Cond.value, given_1] using gv1
    obtain ⟨L⟩ := args
    match L, hs with
    | [w0, w1, w2, w3], _ => exact ⟨w0, w1, w2, w3, rfl⟩
  have hw := fun d (hd : d ∈ tables_1) => atoms_spec (ws := Jvm.Cond.code x code maxLocals ret :: tables_1) hat d (List.mem_cons_of_mem _ hd)
  have hfit : Fit s := fun {y c} hc i hi => by
    obtain ⟨ha, rfl⟩ := Array.getElem?_eq_some_iff.mp hc
    have q := List.all_eq_true.mp ((Array.all_eq_true_iff_forall_mem.mp hF) _ (Array.getElem_mem ha)) i (List.mem_range.mpr hi)
    simpa [Array.getElem?_eq_getElem hi] using q
  obtain ⟨i0, ei0⟩ := isL_v gv3
  obtain rfl : w0 = (.long i0) := Option.some.inj ei0
  obtain ⟨i1, ei1⟩ := isL_v gv5
  obtain rfl : w1 = (.long i1) := Option.some.inj ei1
  obtain ⟨i2, ei2⟩ := is_v gv7
  obtain rfl : w2 = (.int i2) := Option.some.inj ei2
  obtain ⟨i3, ei3⟩ := is_v gv8
  obtain rfl : w3 = (.int i3) := Option.some.inj ei3
  obtain ⟨n, o, h1, h2, h3, _, L, rfl, ⟨rfl, N⟩, hq⟩ := rm_law l s _ hw tables_1 i0 i1 i2 i3  s.heap s.heap.size (Nat.le_refl _) p e ha hc hk s m _ below hf ((Spec.applies_iff_loose hf).mp happ).1 ⟨rfl, State.Warmed39.refl s, rfl⟩ trivial
  refine ⟨n, _, h1, h2, h3, hpost _ _ _ _ _ _ ⟨Cond.after_iff.mpr rfl, Cond.after_iff.mpr (eq_i res_at (Term.int_eval (1)) rfl), trivial⟩ ⟨hq.1, hq.2.1, (hq.2.2.sift fun y hy => Or.inr (N y hy)).mono (by decide) (by decide)⟩⟩
theorem main_1_1 : Claimed_1_1 := comes_1 fun _ _ _ _ _ _ h hF => ⟨h.1, hF⟩
theorem main_1_2 : Claimed_1_2 := comes_1 fun _ _ _ _ _ _ h hF => ⟨h.2.1, hF⟩
end Jvm.Pilot.@@N@@
namespace Jvm.Pilot.@@N@@
open Jvm Jvm.ClassFile Sem Op Lib Jvm.Free Jvm.Stand Jvm.Pilot.@@N@@.Jvm.D
/-! MADE BY PROGRAM (witnessworld.py) out of the Statement's table words and the real class files: 10 classes; the members and pool entries that the words name. The judged class is class 1, her method 4. -/
namespace start1
open Jvm.ClassFile
def u (s : String) : CpInfo := .utf8 (stringToUtf16 s)
/-- a pool by its gaps: so many unusable entries, then the entry; so many at the end -/
def gap : Nat → List CpInfo → List CpInfo
  | 0, r => r
  | n + 1, r => .unusable :: gap n r
def poolList (es : List (Nat × CpInfo)) (last : Nat) : List CpInfo := es.foldr (fun e r => gap e.1 (e.2 :: r)) (gap last [])
def pool (es : List (Nat × CpInfo)) (last : Nat) : Array CpInfo := ⟨poolList es last⟩
def fileOf (pool : Array CpInfo) (this : Nat) (attrs : Array Attribute := #[]) (ms : Array MethodInfo := #[]) (fl : Nat := 33) (sup : Nat := 0) (ifs : Array Nat := #[]) (fds : Array FieldInfo := #[]) : ClassFile where
  minorVersion := 0
  majorVersion := 65
  constantPool := pool
  accessFlags := fl
  thisClass := this
  superClass := sup
  interfaces := ifs
  fields := fds
  methods := ms
  attributes := attrs
def plain (name : String) (sup : Option ClassId) : Class where
  name := name
  kind := .ordinary
  loader := none
  accessFlags := 33
  super := sup
  interfaces := #[]
  cf := none
  fields := #[]
  methods := #[]
  instanceTypes := #[]
  staticTypes := #[]
  resolved := #[]
  callSites := []
  init := .initialized
  statics := none
  mirror := none

def pool0 : Array CpInfo := pool [(5, u "<init>"), (0, u "()V"), (1, .class_ 10), (1, u "java/lang/Object")] 113

def k0m0 : Method := { name := "<init>", desc := "()V", sig := { parameters := [], returnType := none }, accessFlags := 1, code := none }
/-- java/lang/Object -/
def k0 : Class := { plain "java/lang/Object" none with
  accessFlags := 33
  interfaces := #[]
  cf := some (fileOf pool0 8 #[] #[{ accessFlags := 1, nameIndex := 5, descriptorIndex := 6, attributes := #[] }] 33 0 #[] #[])
  fields := #[]
  methods := #[k0m0]
  instanceTypes := #[]
  staticTypes := #[]
  resolved := Array.replicate 124 none
  statics := none }

def pool1 : Array CpInfo := pool [(2, .class_ 4), (1, u "java/lang/Object"), (0, u "<init>"), (0, u "()V"), (0, .long 255), (1, .integer 2147483647), (0, .methodref 11 12), (0, .class_ 13), (0, .nameAndType 14 15), (0, u "com/example/sliding_gate/slidinggate/IpAddresses"), (0, u "network"), (0, u "([BI)[B"), (0, .methodref 17 18), (0, .class_ 19), (0, .nameAndType 20 21), (0, u "com/example/sliding_gate/slidinggate/IpAddressesNetworkPinLaw"), (0, u "pack4"), (0, u "([B)I"), (0, .methodref 17 23), (0, .nameAndType 24 25), (0, u "put8"), (0, u "([BIJ)V"), (0, .long 18446744073709551615), (1, .methodref 17 29), (0, .nameAndType 30 31), (0, u "pack8"), (0, u "([BI)J"), (2, u "law"), (0, u "(JJII)Z")] 5

def k1m0 : Method := { name := "<init>", desc := "()V", sig := { parameters := [], returnType := none }, accessFlags := 1, code := none }
def k1c1 : Code := { maxStack := 6, maxLocals := 2, code := method_2_code, exceptionTable := #[], attributes := #[] }
def k1m1 : Method := { name := "pack8", desc := "([BI)J", sig := { parameters := [(.array .byte), .int], returnType := some .long }, accessFlags := 10, code := some k1c1 }
def k1c2 : Code := { maxStack := 5, maxLocals := 4, code := method_3_code, exceptionTable := #[], attributes := #[] }
def k1m2 : Method := { name := "put8", desc := "([BIJ)V", sig := { parameters := [(.array .byte), .int, .long], returnType := none }, accessFlags := 10, code := some k1c2 }
def k1c3 : Code := { maxStack := 3, maxLocals := 1, code := method_4_code, exceptionTable := #[], attributes := #[] }
def k1m3 : Method := { name := "pack4", desc := "([B)I", sig := { parameters := [(.array .byte)], returnType := some .int }, accessFlags := 10, code := some k1c3 }
def k1c4 : Code := { maxStack := 6, maxLocals := 13, code := code, exceptionTable := #[], attributes := #[] }
def k1m4 : Method := { name := "law", desc := "(JJII)Z", sig := { parameters := [.long, .long, .int, .int], returnType := some .boolean }, accessFlags := 9, code := some k1c4 }
/-- com/example/sliding_gate/slidinggate/IpAddressesNetworkPinLaw -/
def k1 : Class := { plain "com/example/sliding_gate/slidinggate/IpAddressesNetworkPinLaw" (some 0) with
  accessFlags := 49
  interfaces := #[]
  cf := some (fileOf pool1 17 #[] #[{ accessFlags := 1, nameIndex := 5, descriptorIndex := 6, attributes := #[] }, { accessFlags := 10, nameIndex := 30, descriptorIndex := 31, attributes := #[] }, { accessFlags := 10, nameIndex := 24, descriptorIndex := 25, attributes := #[] }, { accessFlags := 10, nameIndex := 20, descriptorIndex := 21, attributes := #[] }, { accessFlags := 9, nameIndex := 34, descriptorIndex := 35, attributes := #[] }] 49 2 #[] #[])
  fields := #[]
  methods := #[k1m0, k1m1, k1m2, k1m3, k1m4]
  instanceTypes := #[]
  staticTypes := #[]
  resolved := Array.replicate 41 none
  statics := none }

def pool2 : Array CpInfo := pool [(2, .class_ 4), (1, u "java/lang/Object"), (0, u "<init>"), (0, u "()V"), (7, .class_ 16), (1, u "com/example/sliding_gate/slidinggate/IpAddresses"), (16, .methodref 34 35), (0, .class_ 36), (0, .nameAndType 37 38), (0, u "java/lang/Math"), (0, u "min"), (0, u "(II)I"), (0, .methodref 34 40), (0, .nameAndType 41 38), (0, u "max"), (112, u "IPV6_GROUPS"), (0, u "I"), (9, u "network"), (0, u "([BI)[B")] 8

def k2m0 : Method := { name := "<init>", desc := "()V", sig := { parameters := [], returnType := none }, accessFlags := 2, code := none }
def k2c1 : Code := { maxStack := 6, maxLocals := 5, code := prog_6_method_4_code, exceptionTable := #[], attributes := #[] }
def k2m1 : Method := { name := "network", desc := "([BI)[B", sig := { parameters := [(.array .byte), .int], returnType := some (.array .byte) }, accessFlags := 8, code := some k2c1 }
/-- com/example/sliding_gate/slidinggate/IpAddresses -/
def k2 : Class := { plain "com/example/sliding_gate/slidinggate/IpAddresses" (some 0) with
  accessFlags := 32
  interfaces := #[]
  cf := some (fileOf pool2 14 #[] #[{ accessFlags := 2, nameIndex := 5, descriptorIndex := 6, attributes := #[] }, { accessFlags := 8, nameIndex := 165, descriptorIndex := 166, attributes := #[] }] 32 2 #[] #[{ accessFlags := 26, nameIndex := 154, descriptorIndex := 155, attributes := #[] }])
  fields := #[{ name := "IPV6_GROUPS", type := .int, accessFlags := 26, slot := 0, constantValue := 0 }]
  methods := #[k2m0, k2m1]
  instanceTypes := #[]
  staticTypes := #[.int]
  resolved := Array.replicate 175 none
  statics := none }

def pool3 : Array CpInfo := pool [(1, .class_ 2), (0, u "java/lang/Math"), (1, .class_ 6), (1, u "java/lang/Object"), (0, u "<init>"), (0, u "()V"), (89, .class_ 100), (1, u "java/lang/Math$RandomNumberGeneratorHolder"), (71, u "negativeZeroFloatBits"), (0, u "J"), (2, u "negativeZeroDoubleBits"), (21, u "max"), (2, u "min"), (43, u "$assertionsDisabled"), (0, u "Z"), (88, u "(II)I"), (2, u "twoToTheDoubleScaleDown"), (0, u "D"), (4, u "twoToTheDoubleScaleUp"), (9, u "E"), (3, u "PI"), (2, u "TAU"), (2, u "DEGREES_TO_RADIANS"), (0, u "RADIANS_TO_DEGREES")] 94

def k3m0 : Method := { name := "<init>", desc := "()V", sig := { parameters := [], returnType := none }, accessFlags := 2, code := none }
def k3c1 : Code := { maxStack := 2, maxLocals := 2, code := jdk_29_method_65_code, exceptionTable := #[], attributes := #[] }
def k3m1 : Method := { name := "max", desc := "(II)I", sig := { parameters := [.int, .int], returnType := some .int }, accessFlags := 9, code := some k3c1 }
def k3c2 : Code := { maxStack := 2, maxLocals := 2, code := jdk_29_method_69_code, exceptionTable := #[], attributes := #[] }
def k3m2 : Method := { name := "min", desc := "(II)I", sig := { parameters := [.int, .int], returnType := some .int }, accessFlags := 9, code := some k3c2 }
/-- java/lang/Math -/
def k3 : Class := { plain "java/lang/Math" (some 0) with
  accessFlags := 49
  interfaces := #[]
  cf := some (fileOf pool3 1 #[.nestMembers #[98]] #[{ accessFlags := 2, nameIndex := 7, descriptorIndex := 8, attributes := #[] }, { accessFlags := 9, nameIndex := 198, descriptorIndex := 335, attributes := #[] }, { accessFlags := 9, nameIndex := 201, descriptorIndex := 335, attributes := #[] }] 49 4 #[] #[{ accessFlags := 25, nameIndex := 354, descriptorIndex := 339, attributes := #[] }, { accessFlags := 25, nameIndex := 358, descriptorIndex := 339, attributes := #[] }, { accessFlags := 25, nameIndex := 361, descriptorIndex := 339, attributes := #[] }, { accessFlags := 26, nameIndex := 364, descriptorIndex := 339, attributes := #[] }, { accessFlags := 26, nameIndex := 365, descriptorIndex := 339, attributes := #[] }, { accessFlags := 26, nameIndex := 172, descriptorIndex := 173, attributes := #[] }, { accessFlags := 26, nameIndex := 176, descriptorIndex := 173, attributes := #[] }, { accessFlags := 8, nameIndex := 344, descriptorIndex := 339, attributes := #[] }, { accessFlags := 8, nameIndex := 338, descriptorIndex := 339, attributes := #[] }, { accessFlags := 4120, nameIndex := 245, descriptorIndex := 246, attributes := #[] }])
  fields := #[{ name := "E", type := .double, accessFlags := 25, slot := 0, constantValue := 0 }, { name := "PI", type := .double, accessFlags := 25, slot := 1, constantValue := 0 }, { name := "TAU", type := .double, accessFlags := 25, slot := 2, constantValue := 0 }, { name := "DEGREES_TO_RADIANS", type := .double, accessFlags := 26, slot := 3, constantValue := 0 }, { name := "RADIANS_TO_DEGREES", type := .double, accessFlags := 26, slot := 4, constantValue := 0 }, { name := "negativeZeroFloatBits", type := .long, accessFlags := 26, slot := 5, constantValue := 0 }, { name := "negativeZeroDoubleBits", type := .long, accessFlags := 26, slot := 6, constantValue := 0 }, { name := "twoToTheDoubleScaleUp", type := .double, accessFlags := 8, slot := 7, constantValue := 0 }, { name := "twoToTheDoubleScaleDown", type := .double, accessFlags := 8, slot := 8, constantValue := 0 }, { name := "$assertionsDisabled", type := .boolean, accessFlags := 4120, slot := 9, constantValue := 0 }]
  methods := #[k3m0, k3m1, k3m2]
  instanceTypes := #[]
  staticTypes := #[.double, .double, .double, .double, .double, .long, .long, .double, .double, .boolean]
  resolved := Array.replicate 460 none
  statics := none }

def pool4 : Array CpInfo := pool [(1, u "java/lang/Cloneable"), (0, .class_ 1), (0, u "java/lang/Object"), (0, .class_ 3)] 3

/-- java/lang/Cloneable -/
def k4 : Class := { plain "java/lang/Cloneable" (some 0) with
  accessFlags := 1537
  interfaces := #[]
  cf := some (fileOf pool4 2 #[] #[] 1537 4 #[] #[])
  fields := #[]
  methods := #[]
  instanceTypes := #[]
  staticTypes := #[]
  resolved := Array.replicate 8 none
  statics := none }

def pool5 : Array CpInfo := pool [(1, u "java/io/Serializable"), (0, .class_ 1), (0, u "java/lang/Object"), (0, .class_ 3)] 3

/-- java/io/Serializable -/
def k5 : Class := { plain "java/io/Serializable" (some 0) with
  accessFlags := 1537
  interfaces := #[]
  cf := some (fileOf pool5 2 #[] #[] 1537 4 #[] #[])
  fields := #[]
  methods := #[]
  instanceTypes := #[]
  staticTypes := #[]
  resolved := Array.replicate 8 none
  statics := none }

/-- the primitive byte -/
def k6 : Class := { plain "byte" none with kind := .primitive 'B', accessFlags := 0x411 }
/-- [B -/
def k7 : Class := { plain "[B" (some 0) with kind := .array 6 .byte, interfaces := #[4, 5], accessFlags := 1041 }

/-- the primitive int -/
def k8 : Class := { plain "int" none with kind := .primitive 'I', accessFlags := 0x411 }
/-- [I -/
def k9 : Class := { plain "[I" (some 0) with kind := .array 8 .int, interfaces := #[4, 5], accessFlags := 1041 }

def heap : Heap := #[]
def classes : Array Class := #[k0, k1, k2, k3, k4, k5, k6, k7, k8, k9]
def interned : List (Array UInt16 × Addr) := []
def slotsUsed : Nat := 0
def theMethod : MethodId := ⟨1, 4⟩
def args0 : Array Value := #[.long 5, .long 3, .int 2, .int 7]
def aboutOver (below : List Frame) : State where
  vm := { classes := classes, interned := interned.toArray }
  heap := heap
  slotsUsed := slotsUsed
  threads := #[{ frames := .invoking theMethod args0 :: below }]
def below0 : List Frame := [.native { method := ⟨0, 0⟩, args := #[] }]
def about1 : State := aboutOver below0
def p0 : Program := .bare "" "" ""
def e0 : Env := launch0.env 0 0 0
theorem w_frames : about1.frames = Frame.invoking theMethod args0 :: below0 := rfl
set_option maxRecDepth 65536 in
theorem w_args : argsFit about1.vm theMethod args0 = true := by decide +kernel
set_option maxRecDepth 65536 in
theorem w_heap : heapFits about1 = true := by decide +kernel
set_option maxRecDepth 65536 in
theorem w_runnable : about1.curStatus? = some .runnable := by decide +kernel
set_option maxRecDepth 65536 in
theorem w_alone : about1.alone = true := by decide +kernel
set_option maxRecDepth 65536 in
theorem w_named : about1.methodNamed? x = some theMethod := by decide +kernel
set_option maxRecDepth 65536 in
theorem w_hears : about1.hears theMethod below0 = true := by decide +kernel
set_option maxRecDepth 65536 in
theorem w_ripe : about1.ripe theMethod args0 below0 = true := by decide +kernel
theorem w_running : about1.status = .running := rfl
set_option maxRecDepth 65536 in
theorem w_room : about1.hasRoom e0.platform room_1 = true :=
  launch0.hasRoom_least _ room_1 (by decide +kernel) (by decide +kernel) (by decide +kernel) (by decide +kernel) (by decide +kernel) (by decide +kernel)
theorem allAtoms_all (ts : List Jvm.Cond) (a : Array Jvm.Value) (st : Jvm.State) : (allAtoms ts).before a st = ts.all (fun c => c.before a st) := by
  induction ts with
  | nil => rfl
  | cons c t ih =>
    show (Jvm.Cond.and c (allAtoms t)).before a st = _
    rw [Jvm.Cond.before_and, ih, List.all_cons]
def words1 : List Jvm.Cond := Jvm.Cond.code x code maxLocals ret :: tables_1
/-- a 'code' word, met by the world's own term for the bytes: nothing is compared byte by byte -/
theorem code_word {y : MethodName} {bytes : ByteArray} {mx : Nat} {rt : Option FieldType} {a : Array Value} {s : State} {m : MethodId} {meth : Method} {c : Code} (h1 : s.methodNamed? y = some m) (h2 : s.vm.method? m = some meth) (h3 : meth.code = some c) (h4 : c.code = bytes)
    (h5 : (c.maxLocals == mx && c.exceptionTable.isEmpty && decide (c.maxStack ≤ mostOperands) && decide (meth.sig.returnType = rt) && !meth.locks && decide (parseMethodDescriptor y.desc = some meth.sig)) = true) : (Jvm.Cond.code y bytes mx rt).before a s = true := by
  simp only [Bool.and_eq_true, beq_iff_eq, Bool.not_eq_true', decide_eq_true_eq] at h5
  obtain ⟨⟨⟨⟨⟨g1, g2⟩, g3⟩, g4⟩, g5⟩, g6⟩ := h5
  simp [Cond.before, Cond.holds, Cond.value, h1, h2, h3, h4, g1, g2, g3, g4, g5, g6]
def isCode : Jvm.Cond → Bool
  | .code _ _ _ _ => true
  | _ => false
theorem all_split {L : List Jvm.Cond} {P : Jvm.Cond → Bool} (h1 : L.all (fun c => isCode c || P c) = true) (h2 : ∀ c ∈ L.filter isCode, P c = true) : L.all P = true := by
  refine List.all_eq_true.mpr fun c hc => ?_
  have h := List.all_eq_true.mp h1 c hc
  rcases Bool.eq_false_or_eq_true (isCode c) with hi | hi
  · exact h2 c (List.mem_filter.mpr ⟨hc, hi⟩)
  · simpa [hi] using h
set_option maxRecDepth 65536 in
theorem w_c0 : (Jvm.Cond.code x code maxLocals ret).before args0 about1 = true := code_word (m := ⟨1, 4⟩) (meth := k1m4) (c := k1c4) (by decide +kernel) rfl rfl rfl (by decide +kernel)
set_option maxRecDepth 65536 in
theorem w_c1 : (Jvm.Cond.code ({ cls := "com/example/sliding_gate/slidinggate/IpAddressesNetworkPinLaw", name := "put8", desc := "([BIJ)V" } : Jvm.MethodName) method_3_code (4 : Nat) (Option.none : Option Jvm.ClassFile.FieldType)).before args0 about1 = true := code_word (m := ⟨1, 2⟩) (meth := k1m2) (c := k1c2) (by decide +kernel) rfl rfl rfl (by decide +kernel)
set_option maxRecDepth 65536 in
theorem w_c2 : (Jvm.Cond.code ({ cls := "com/example/sliding_gate/slidinggate/IpAddresses", name := "network", desc := "([BI)[B" } : Jvm.MethodName) prog_6_method_4_code (5 : Nat) (Option.some (Jvm.ClassFile.FieldType.array Jvm.ClassFile.FieldType.byte))).before args0 about1 = true := code_word (m := ⟨2, 1⟩) (meth := k2m1) (c := k2c1) (by decide +kernel) rfl rfl rfl (by decide +kernel)
set_option maxRecDepth 65536 in
theorem w_c3 : (Jvm.Cond.code ({ cls := "java/lang/Math", name := "min", desc := "(II)I" } : Jvm.MethodName) jdk_29_method_69_code (2 : Nat) (Option.some Jvm.ClassFile.FieldType.int)).before args0 about1 = true := code_word (m := ⟨3, 2⟩) (meth := k3m2) (c := k3c2) (by decide +kernel) rfl rfl rfl (by decide +kernel)
set_option maxRecDepth 65536 in
theorem w_c4 : (Jvm.Cond.code ({ cls := "java/lang/Math", name := "max", desc := "(II)I" } : Jvm.MethodName) jdk_29_method_65_code (2 : Nat) (Option.some Jvm.ClassFile.FieldType.int)).before args0 about1 = true := code_word (m := ⟨3, 1⟩) (meth := k3m1) (c := k3c1) (by decide +kernel) rfl rfl rfl (by decide +kernel)
set_option maxRecDepth 65536 in
theorem w_c5 : (Jvm.Cond.code ({ cls := "com/example/sliding_gate/slidinggate/IpAddressesNetworkPinLaw", name := "pack8", desc := "([BI)J" } : Jvm.MethodName) method_2_code (2 : Nat) (Option.some Jvm.ClassFile.FieldType.long)).before args0 about1 = true := code_word (m := ⟨1, 1⟩) (meth := k1m1) (c := k1c1) (by decide +kernel) rfl rfl rfl (by decide +kernel)
set_option maxRecDepth 65536 in
theorem w_c6 : (Jvm.Cond.code ({ cls := "com/example/sliding_gate/slidinggate/IpAddressesNetworkPinLaw", name := "pack4", desc := "([B)I" } : Jvm.MethodName) method_4_code (1 : Nat) (Option.some Jvm.ClassFile.FieldType.int)).before args0 about1 = true := code_word (m := ⟨1, 3⟩) (meth := k1m3) (c := k1c3) (by decide +kernel) rfl rfl rfl (by decide +kernel)
def codes1 : List Jvm.Cond := [Jvm.Cond.code x code maxLocals ret, Jvm.Cond.code ({ cls := "com/example/sliding_gate/slidinggate/IpAddressesNetworkPinLaw", name := "put8", desc := "([BIJ)V" } : Jvm.MethodName) method_3_code (4 : Nat) (Option.none : Option Jvm.ClassFile.FieldType), Jvm.Cond.code ({ cls := "com/example/sliding_gate/slidinggate/IpAddresses", name := "network", desc := "([BI)[B" } : Jvm.MethodName) prog_6_method_4_code (5 : Nat) (Option.some (Jvm.ClassFile.FieldType.array Jvm.ClassFile.FieldType.byte)), Jvm.Cond.code ({ cls := "java/lang/Math", name := "min", desc := "(II)I" } : Jvm.MethodName) jdk_29_method_69_code (2 : Nat) (Option.some Jvm.ClassFile.FieldType.int), Jvm.Cond.code ({ cls := "java/lang/Math", name := "max", desc := "(II)I" } : Jvm.MethodName) jdk_29_method_65_code (2 : Nat) (Option.some Jvm.ClassFile.FieldType.int), Jvm.Cond.code ({ cls := "com/example/sliding_gate/slidinggate/IpAddressesNetworkPinLaw", name := "pack8", desc := "([BI)J" } : Jvm.MethodName) method_2_code (2 : Nat) (Option.some Jvm.ClassFile.FieldType.long), Jvm.Cond.code ({ cls := "com/example/sliding_gate/slidinggate/IpAddressesNetworkPinLaw", name := "pack4", desc := "([B)I" } : Jvm.MethodName) method_4_code (1 : Nat) (Option.some Jvm.ClassFile.FieldType.int)]
set_option maxRecDepth 65536 in
theorem codes_eq : words1.filter isCode = codes1 := rfl
theorem w_codes : ∀ c ∈ words1.filter isCode, c.before args0 about1 = true := by
  rw [codes_eq]
  intro c hc
  simp only [codes1, List.mem_cons, List.not_mem_nil, or_false] at hc
  rcases hc with rfl | rfl | rfl | rfl | rfl | rfl | rfl
  · exact w_c0
  · exact w_c1
  · exact w_c2
  · exact w_c3
  · exact w_c4
  · exact w_c5
  · exact w_c6
set_option maxRecDepth 65536 in
theorem w_t1 : (words1.take 24).all (fun c => isCode c || c.before args0 about1) = true := by decide +kernel
set_option maxRecDepth 65536 in
theorem w_t2 : (words1.drop 24).all (fun c => isCode c || c.before args0 about1) = true := by decide +kernel
theorem w_tables : (allAtoms (Jvm.Cond.code x code maxLocals ret :: tables_1)).before args0 about1 = true := by
  rw [allAtoms_all]
  show words1.all (fun c => c.before args0 about1) = true
  refine all_split ?_ w_codes
  rw [← List.take_append_drop 24 words1, List.all_append, w_t1, w_t2]
  rfl
set_option maxRecDepth 65536 in
theorem w_case : (Jvm.Cond.and given_1 narrow_1).before args0 about1 = true := by decide +kernel
theorem w_applies : (headSpec (Jvm.Cond.code x code maxLocals ret :: tables_1) room_1).applies x e0.platform about1 = true :=
  (Spec.applies_iff w_frames).mpr ⟨w_running, w_runnable, w_alone, w_named, w_hears, w_ripe, w_room, w_tables⟩
theorem atStart : AtStart classFile x code maxLocals ret World_1 tables_1 room_1 Calls_1 rest_1 Pre_1 launch0 p0 e0 about1 theMethod args0 below0 :=
  ⟨lists_1, trivial, launch0.admits_env _ _ _, launch0.least_env, fairChoices_fair.cas, fairChoices_fair.clock, w_frames, w_args, w_heap, w_applies, trivial, trivial, w_case⟩
end start1
theorem witness_1 : WitnessClaimed_1 := ⟨start1.p0, start1.e0, start1.about1, start1.theMethod, start1.args0, start1.below0, start1.atStart⟩
end Jvm.Pilot.@@N@@
