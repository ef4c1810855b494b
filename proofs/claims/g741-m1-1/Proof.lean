import JvmDerived
import JvmDerived.Pilot.@@N@@Statement
import JvmDerived.Pilot.@@N@@Code
set_option linter.unusedVariables false
set_option linter.unusedSimpArgs false
namespace Jvm.OwnKit
open Sem ClassFile Op Lib Jvm.Stand Jvm.Free Jvm.LawKit Jvm.RoadKit
/-- from the state A the run comes to an end as the contract asks it -/
def OwnEnd (p : Program) (e : Env) (below : List Frame) (s : State) (Q : Option Value → Heap → List Loc → Prop) (kc ks : Nat) (A : State) : Prop :=
  ∃ (s₂ : State) (o : Outcome), Steps p.tables e below A s₂ ∧ s₂.status = .running ∧ Ended s₂ below o ∧ ∃ v L, o = .returned v ∧ Q v s₂.heap L ∧ FrameEnd s o s₂ L kc ks
section Own
variable {p : Program} {l : Launch} {e : Env} {R : Room} {s : State} {m : MethodId} {args : Array Value} {below : List Frame} {meth : Method} {c : Code} {T : State} {locs : List Loc} {cells slots : Nat} {Z : State} {a0 : Array Value} {h : Heap}
variable {Q : Option Value → Heap → List Loc → Prop} {kc ks : Nat}
theorem go {A B : State} (k : ∀ t, Steps p.tables e below B t → Steps p.tables e below A t) (F : OwnEnd p e below s Q kc ks B) : OwnEnd p e below s Q kc ks A := by
  obtain ⟨s₂, o, h1, r⟩ := F; exact ⟨s₂, o, k _ h1, r⟩
theorem up {cells' slots' : Nat} (X : Stand p l e R s m args below meth c T locs cells slots) (h1 : cells ≤ cells') (h2 : slots ≤ slots') : Stand p l e R s m args below meth c T locs cells' slots' :=
  ⟨X.admits, X.cas, X.clock, X.frames, X.room, X.hears, X.method, X.code, X.here, X.tail, X.warmed, X.limits, X.bytes, X.same.mono h1 h2⟩
theorem done (X : Stand p l e R s m args below meth c T locs cells slots) (hlk : meth.locks = false) {v : Option Value} (hv : meth.sig.returnType = none → v = none) {A : State}
    (st : ∀ fs, (∀ (f : JFrame) (acts : List Action), f.method = m → f.locked = none → f.entered = [] → (doReturn e (T.setTop f) acts v).1 = T.setFrames fs) → Steps p.tables e below A (T.setFrames fs))
    (eT : T.heap = h) (hk : cells ≤ kc) (hs : slots ≤ ks) (hQ : Q v h locs) : OwnEnd p e below s Q kc ks A := by
  obtain ⟨fs, hr, hrun, hended, hW, hsame⟩ := X.leave (v := v) hv hlk
  exact ⟨_, _, st fs hr, hrun, hended, _, _, rfl, (by show Q v T.heap locs; rw [eT]; exact hQ), ⟨_, rfl⟩, hW, hsame.mono hk hs⟩
theorem endI (X : Stand p l e R s m args below meth c T locs cells slots) (hx : p.tables.exec = Jvm.exec) (hlk : meth.locks = false) (hret : meth.sig.returnType = some .int) {pc : Nat} {Ls : Array Slot} {z : Int32} {rest : List Value} (hd : decode c.code pc = .ok (.ireturn, 1))
    (eT : T.heap = h) (hk : cells ≤ kc) (hs : slots ≤ ks) (hQ : Q (some (.int z)) h locs) : OwnEnd p e below s Q kc ks (T.setTop (mkF m pc Ls (.int z :: rest))) :=
  done X hlk (fun q => by rw [hret] at q; cases q) (fun fs hr => retOut X hx (w := .int z) hret rfl (Or.inl ⟨rfl, Or.inl rfl, z, rfl⟩) hd hr) eT hk hs hQ
theorem endN (X : Stand p l e R s m args below meth c T locs cells slots) (hx : p.tables.exec = Jvm.exec) (hlk : meth.locks = false) {t : FieldType} (ht : t = .boolean ∨ t = .byte ∨ t = .char ∨ t = .short) (hret : meth.sig.returnType = some t) {pc : Nat} {Ls : Array Slot} {z : Int32} {rest : List Value} (hd : decode c.code pc = .ok (.ireturn, 1))
    (eT : T.heap = h) (hk : cells ≤ kc) (hs : slots ≤ ks) (hQ : Q (some (.int (nar t z))) h locs) : OwnEnd p e below s Q kc ks (T.setTop (mkF m pc Ls (.int z :: rest))) :=
  done X hlk (fun q => by rw [hret] at q; cases q) (fun fs hr => retN X hx hret ht hd hr) eT hk hs hQ
theorem endJ (X : Stand p l e R s m args below meth c T locs cells slots) (hx : p.tables.exec = Jvm.exec) (hlk : meth.locks = false) (hret : meth.sig.returnType = some .long) {pc : Nat} {Ls : Array Slot} {z : Int64} {rest : List Value} (hd : decode c.code pc = .ok (.lreturn, 1))
    (eT : T.heap = h) (hk : cells ≤ kc) (hs : slots ≤ ks) (hQ : Q (some (.long z)) h locs) : OwnEnd p e below s Q kc ks (T.setTop (mkF m pc Ls (.long z :: rest))) :=
  done X hlk (fun q => by rw [hret] at q; cases q) (fun fs hr => retOut X hx (w := .long z) hret rfl (Or.inr (Or.inl ⟨rfl, rfl, z, rfl⟩)) hd hr) eT hk hs hQ
theorem endA (X : Stand p l e R s m args below meth c T locs cells slots) (hx : p.tables.exec = Jvm.exec) (hlk : meth.locks = false) {t : FieldType} (hret : meth.sig.returnType = some t) (ht : t.isReference = true) {pc : Nat} {Ls : Array Slot} {w : Value} (hw : w.isRef = true) {rest : List Value} (hd : decode c.code pc = .ok (.areturn, 1))
    (eT : T.heap = h) (hk : cells ≤ kc) (hs : slots ≤ ks) (hQ : Q (some w) h locs) : OwnEnd p e below s Q kc ks (T.setTop (mkF m pc Ls (w :: rest))) :=
  done X hlk (fun q => by rw [hret] at q; cases q) (fun fs hr => retOut X hx (w := w) hret (by cases t <;> first | rfl | cases ht) (Or.inr (Or.inr (Or.inr (Or.inr ⟨rfl, ht, hw⟩)))) hd hr) eT hk hs hQ
theorem endV (X : Stand p l e R s m args below meth c T locs cells slots) (hx : p.tables.exec = Jvm.exec) (hlk : meth.locks = false) (hret : meth.sig.returnType = none) {pc : Nat} {Ls : Array Slot} (hd : decode c.code pc = .ok (.return_, 1))
    (eT : T.heap = h) (hk : cells ≤ kc) (hs : slots ≤ ks) (hQ : Q none h locs) : OwnEnd p e below s Q kc ks (T.setTop (mkF m pc Ls [])) :=
  done X hlk (fun _ => rfl) (fun fs hr => X.returnOut hx hret hd hr) eT hk hs hQ
theorem nar01 {P : Prop} [Decidable P] : nar .boolean (if P then (1 : Int32) else 0) = if P then (1 : Int32) else 0 := by split <;> rfl
section Call
variable {own : String} {index : Nat} {y z : MethodName} {bytes : ByteArray} {maxL W : Nat} {ret : Option FieldType} {rm : Room} {as' : Array Value} {Qc : Option Value → Heap → List Loc → Prop} {g : JFrame} {argsL rest : List Value}
theorem callStat (X : Stand p l e R s m args below meth c T locs cells slots) (hx : p.tables.exec = Jvm.exec) (hZ : Z.Warmed39 s.vm) (hown : s.vm.findClass own = some m.cls)
    (w1 : (Cond.methodLink own index y).before a0 Z = true) (w2 : (Cond.static y).before a0 Z = true) (w3 : (Cond.initialized y.cls).before a0 Z = true) (w4 : (Cond.code y bytes maxL ret).before a0 Z = true)
    (hy : y.cls ≠ "java/lang/invoke/MethodHandle" ∧ y.cls ≠ "java/lang/invoke/VarHandle")
    (hM : MetFree l y (head1 [Cond.code y bytes maxL ret] rm) (fun a U => a = as' ∧ Z.Warmed39 U.vm ∧ U.heap = h) (fun _ _ _ _ _ => True) (fun _ U o U' => ∃ v L, o = .returned v ∧ Qc v U'.heap L ∧ FrameEnd U o U' L rm.cells rm.slots))
    (hf : rm.frames + 1 ≤ R.frames) (hl : W + (maxL + 11) + rm.locals ≤ R.locals) (eT : T.heap = h) (hg : g.method = m) (hsize : g.locals.size = c.maxLocals) (ha : argsL.toArray = as')
    (hlen : ∀ sig, parseMethodDescriptor y.desc = some sig → argsL.length = sig.parameters.length) (hstack : g.stack = argsL.reverse ++ rest) (hW : 2 * g.monitorRoom + (rest.map fun v => v.category).sum ≤ W) (hdg : decode c.code g.pc = .ok (.invokestatic index, 3))
    (hc : cells + rm.cells ≤ R.cells) (hs : slots + rm.slots ≤ R.slots) :
    ∃ (v : Option Value) (T' : State) (L : List Loc), Stand p l e R s m args below meth c T' (locs ++ L) (cells + rm.cells) (slots + rm.slots) ∧ Qc v T'.heap L ∧ ∀ target, Steps p.tables e below (T'.setTop { g with pc := g.pc + 3, stack := v.toList ++ rest }) target → Steps p.tables e below (T.setTop g) target := by
  obtain ⟨v, _, ⟨T', L', k', n'⟩, -, X', ⟨L, hQ, l1, l2, l3⟩, st⟩ := Jvm.LawKit.callS X hx hown (mvT hZ w1) (mvT hZ w2) (mvT hZ w3) (mvT hZ w4) hy (backOf (W := W) hM hZ w4 w3 hf hl) (g := g) hg hsize (argsL := argsL) (rest := rest) hlen hstack hW hdg (fun _ _ => ⟨ha, eT, hc, hs⟩)
  dsimp only [Pt.U, Pt.locs, Pt.cells, Pt.slots] at X' l1 l2 l3 st hQ
  subst l1 l2 l3
  exact ⟨v, T', L, X', hQ, st⟩
theorem callInit (X : Stand p l e R s m args below meth c T locs cells slots) (hx : p.tables.exec = Jvm.exec) (hZ : Z.Warmed39 s.vm) (hown : s.vm.findClass own = some m.cls) (hy1 : y.name = "<init>")
    (w1 : (Cond.methodLink own index y).before a0 Z = true) (w2 : (Cond.instanceMethod y).before a0 Z = true) (w3 : (Cond.initialized y.cls).before a0 Z = true) (w4 : (Cond.code y bytes maxL none).before a0 Z = true)
    (hy : y.cls ≠ "java/lang/invoke/MethodHandle" ∧ y.cls ≠ "java/lang/invoke/VarHandle")
    (hM : MetFree l y (head1 [Cond.code y bytes maxL none] rm) (fun a U => a = as' ∧ Z.Warmed39 U.vm ∧ U.heap = h) (fun _ _ _ _ _ => True) (fun _ U o U' => ∃ v L, o = .returned v ∧ Qc v U'.heap L ∧ FrameEnd U o U' L rm.cells rm.slots))
    (hf : rm.frames + 1 ≤ R.frames) (hl : W + (maxL + 11) + rm.locals ≤ R.locals) (eT : T.heap = h) (hg : g.method = m) (hsize : g.locals.size = c.maxLocals) {a : Addr} (ha : (Value.ref a :: argsL).toArray = as')
    (hlen : ∀ sig, parseMethodDescriptor y.desc = some sig → argsL.length = sig.parameters.length) (hstack : g.stack = argsL.reverse ++ .ref a :: rest) (hW : 2 * g.monitorRoom + (rest.map fun v => v.category).sum ≤ W) (hdg : decode c.code g.pc = .ok (.invokespecial index, 3))
    (hc : cells + rm.cells ≤ R.cells) (hs : slots + rm.slots ≤ R.slots) :
    ∃ (v : Option Value) (T' : State) (L : List Loc), Stand p l e R s m args below meth c T' (locs ++ L) (cells + rm.cells) (slots + rm.slots) ∧ Qc v T'.heap L ∧ ∀ target, Steps p.tables e below (T'.setTop { g with pc := g.pc + 3, stack := v.toList ++ rest }) target → Steps p.tables e below (T.setTop g) target := by
  obtain ⟨v, _, ⟨T', L', k', n'⟩, -, X', ⟨L, hQ, l1, l2, l3⟩, st⟩ := X.specialBack hx hy1 hown (mvT hZ w1) (mvT hZ w2) (mvT hZ w4) hy (backOf (W := W) hM hZ w4 w3 hf hl) (g := g) hg hsize (Steps.refl _) (a := a) (argsL := argsL) (rest := rest) hlen hstack hW hdg (fun _ _ => ⟨ha, eT, hc, hs⟩)
  dsimp only [Pt.U, Pt.locs, Pt.cells, Pt.slots] at X' l1 l2 l3 st hQ
  subst l1 l2 l3
  exact ⟨v, T', L, X', hQ, fun _ k => st.trans k⟩
theorem callVirt (X : Stand p l e R s m args below meth c T locs cells slots) (hx : p.tables.exec = Jvm.exec) (hZ : Z.Warmed39 s.vm) (hown : s.vm.findClass own = some m.cls) {C : String}
    (w1 : (Cond.methodLink own index y).before a0 Z = true) (w2 : (Cond.declares y).before a0 Z = true) (hnf : NotFace s y) (w3 : (Cond.selects C y z).before a0 Z = true) (w5 : (Cond.instanceMethod z).before a0 Z = true) (w6 : (Cond.initialized z.cls).before a0 Z = true) (w4 : (Cond.code z bytes maxL ret).before a0 Z = true)
    (hy : y.cls ≠ "java/lang/invoke/MethodHandle" ∧ y.cls ≠ "java/lang/invoke/VarHandle")
    (hM : MetFree l z (head1 [Cond.code z bytes maxL ret] rm) (fun a U => a = as' ∧ Z.Warmed39 U.vm ∧ U.heap = h) (fun _ _ _ _ _ => True) (fun _ U o U' => ∃ v L, o = .returned v ∧ Qc v U'.heap L ∧ FrameEnd U o U' L rm.cells rm.slots))
    (hf : rm.frames + 1 ≤ R.frames) (hl : W + (maxL + 11) + rm.locals ≤ R.locals) (eT : T.heap = h) {a : Addr} (E : Exa Z h a C) (hg : g.method = m) (hsize : g.locals.size = c.maxLocals) (ha : (Value.ref a :: argsL).toArray = as')
    (hlen : ∀ sig, parseMethodDescriptor y.desc = some sig → argsL.length = sig.parameters.length) (hstack : g.stack = argsL.reverse ++ .ref a :: rest) (hW : 2 * g.monitorRoom + (rest.map fun v => v.category).sum ≤ W) (hdg : decode c.code g.pc = .ok (.invokevirtual index, 3))
    (hc : cells + rm.cells ≤ R.cells) (hs : slots + rm.slots ≤ R.slots) :
    ∃ (v : Option Value) (T' : State) (L : List Loc), Stand p l e R s m args below meth c T' (locs ++ L) (cells + rm.cells) (slots + rm.slots) ∧ Qc v T'.heap L ∧ ∀ target, Steps p.tables e below (T'.setTop { g with pc := g.pc + 3, stack := v.toList ++ rest }) target → Steps p.tables e below (T.setTop g) target := by
  obtain ⟨cq, kq, q1, q2, q3⟩ := isOf hZ eT E
  obtain ⟨v, _, ⟨T', L', k', n'⟩, -, X', ⟨L, hQ, l1, l2, l3⟩, st⟩ := X.virtualBack hx hown (mvT hZ w1) (mvT hZ w2) hnf (mvT hZ w3) (mvT hZ w5) hy (backOf (W := W) hM hZ w4 w6 hf hl) q1 q3 (g := g) hg hsize (Steps.refl _) (argsL := argsL) (rest := rest) hlen hstack hW hdg (fun _ _ => ⟨ha, eT, hc, hs⟩)
  dsimp only [Pt.U, Pt.locs, Pt.cells, Pt.slots] at X' l1 l2 l3 st hQ
  subst l1 l2 l3
  exact ⟨v, T', L, X', hQ, fun _ k => st.trans k⟩
theorem callUp (X : Stand p l e R s m args below meth c T locs cells slots) (hx : p.tables.exec = Jvm.exec) (hZ : Z.Warmed39 s.vm) (hown : s.vm.findClass own = some m.cls) {C owner : String}
    (w1 : (Cond.methodLink own index y).before a0 Z = true) (w0 : (Cond.sameMethod y.cls owner y.name y.desc).before a0 Z = true) (w2 : (Cond.declares ⟨owner, y.name, y.desc⟩).before a0 Z = true) (ho : owner ≠ "java/lang/invoke/MethodHandle" ∧ owner ≠ "java/lang/invoke/VarHandle")
    (w3 : (Cond.selects C y z).before a0 Z = true) (w5 : (Cond.instanceMethod z).before a0 Z = true) (w6 : (Cond.initialized z.cls).before a0 Z = true) (w4 : (Cond.code z bytes maxL ret).before a0 Z = true)
    (hM : MetFree l z (head1 [Cond.code z bytes maxL ret] rm) (fun a U => a = as' ∧ Z.Warmed39 U.vm ∧ U.heap = h) (fun _ _ _ _ _ => True) (fun _ U o U' => ∃ v L, o = .returned v ∧ Qc v U'.heap L ∧ FrameEnd U o U' L rm.cells rm.slots))
    (hf : rm.frames + 1 ≤ R.frames) (hl : W + (maxL + 11) + rm.locals ≤ R.locals) (eT : T.heap = h) {a : Addr} (E : Exa Z h a C) (hg : g.method = m) (hsize : g.locals.size = c.maxLocals) (ha : (Value.ref a :: argsL).toArray = as')
    (hlen : ∀ sig, parseMethodDescriptor y.desc = some sig → argsL.length = sig.parameters.length) (hstack : g.stack = argsL.reverse ++ .ref a :: rest) (hW : 2 * g.monitorRoom + (rest.map fun v => v.category).sum ≤ W) (hdg : decode c.code g.pc = .ok (.invokevirtual index, 3))
    (hc : cells + rm.cells ≤ R.cells) (hs : slots + rm.slots ≤ R.slots) :
    ∃ (v : Option Value) (T' : State) (L : List Loc), Stand p l e R s m args below meth c T' (locs ++ L) (cells + rm.cells) (slots + rm.slots) ∧ Qc v T'.heap L ∧ ∀ target, Steps p.tables e below (T'.setTop { g with pc := g.pc + 3, stack := v.toList ++ rest }) target → Steps p.tables e below (T.setTop g) target := by
  obtain ⟨cq, kq, q1, q2, q3⟩ := isOf hZ eT E
  obtain ⟨v, _, ⟨T', L', k', n'⟩, -, X', ⟨L, hQ, l1, l2, l3⟩, st⟩ := X.virtualBackUp hx hown (mvT hZ w1) (mvT hZ w0) (mvT hZ w2) ho (mvT hZ w3) (mvT hZ w5) (backOf (W := W) hM hZ w4 w6 hf hl) q1 q3 (g := g) hg hsize (Steps.refl _) (argsL := argsL) (rest := rest) hlen hstack hW hdg (fun _ _ => ⟨ha, eT, hc, hs⟩)
  dsimp only [Pt.U, Pt.locs, Pt.cells, Pt.slots] at X' l1 l2 l3 st hQ
  subst l1 l2 l3
  exact ⟨v, T', L, X', hQ, fun _ k => st.trans k⟩
theorem callPriv (X : Stand p l e R s m args below meth c T locs cells slots) (hx : p.tables.exec = Jvm.exec) (hZ : Z.Warmed39 s.vm) (hown : s.vm.findClass own = some m.cls) {C : String} {kk : Nat}
    (w1 : (Cond.methodLink own index y).before a0 Z = true) (w2 : (Cond.instanceMethod y).before a0 Z = true) (wp : (Cond.privateMethod y).before a0 Z = true) (wi : (Cond.instantiable y.cls kk).before a0 Z = true) (w6 : (Cond.initialized y.cls).before a0 Z = true) (w4 : (Cond.code y bytes maxL ret).before a0 Z = true)
    (hy : y.cls ≠ "java/lang/invoke/MethodHandle" ∧ y.cls ≠ "java/lang/invoke/VarHandle")
    (hM : MetFree l y (head1 [Cond.code y bytes maxL ret] rm) (fun a U => a = as' ∧ Z.Warmed39 U.vm ∧ U.heap = h) (fun _ _ _ _ _ => True) (fun _ U o U' => ∃ v L, o = .returned v ∧ Qc v U'.heap L ∧ FrameEnd U o U' L rm.cells rm.slots))
    (hf : rm.frames + 1 ≤ R.frames) (hl : W + (maxL + 11) + rm.locals ≤ R.locals) (eT : T.heap = h) {a : Addr} (E : Exa Z h a C) (hg : g.method = m) (hsize : g.locals.size = c.maxLocals) (ha : (Value.ref a :: argsL).toArray = as')
    (hlen : ∀ sig, parseMethodDescriptor y.desc = some sig → argsL.length = sig.parameters.length) (hstack : g.stack = argsL.reverse ++ .ref a :: rest) (hW : 2 * g.monitorRoom + (rest.map fun v => v.category).sum ≤ W) (hdg : decode c.code g.pc = .ok (.invokevirtual index, 3))
    (hc : cells + rm.cells ≤ R.cells) (hs : slots + rm.slots ≤ R.slots) :
    ∃ (v : Option Value) (T' : State) (L : List Loc), Stand p l e R s m args below meth c T' (locs ++ L) (cells + rm.cells) (slots + rm.slots) ∧ Qc v T'.heap L ∧ ∀ target, Steps p.tables e below (T'.setTop { g with pc := g.pc + 3, stack := v.toList ++ rest }) target → Steps p.tables e below (T.setTop g) target := by
  obtain ⟨c2, k2, i1, i2, -, i4, -⟩ := Cond.instantiable_spec (mvT hZ wi (args := args))
  simp only [Bool.or_eq_false_iff] at i4
  have hpriv := Cond.privateMethod_at (mvP hZ wp (args := args))
  have hsel := selects_self_of_private (args := args) i1 i2 i4.1 hpriv (mvT hZ w2) hy
  obtain ⟨cl, q1, q2⟩ := E.cell
  obtain ⟨v, _, ⟨T', L', k', n'⟩, -, X', ⟨L, hQ, l1, l2, l3⟩, st⟩ := X.privateBack hx hown (mvT hZ w1) (mvT hZ w2) hsel hpriv (mvT hZ w4) hy (backOf (W := W) hM hZ w4 w6 hf hl) (g := g) hg hsize (Steps.refl _) (a := a) (cell := cl) (by rw [eT]; exact q1) q2 (argsL := argsL) (rest := rest) hlen hstack hW hdg (fun _ _ => ⟨ha, eT, hc, hs⟩)
  dsimp only [Pt.U, Pt.locs, Pt.cells, Pt.slots] at X' l1 l2 l3 st hQ
  subst l1 l2 l3
  exact ⟨v, T', L, X', hQ, fun _ k => st.trans k⟩
theorem callFace (X : Stand p l e R s m args below meth c T locs cells slots) (hx : p.tables.exec = Jvm.exec) (hZ : Z.Warmed39 s.vm) (hown : s.vm.findClass own = some m.cls) {C : String} {count : Nat}
    (w1 : (Cond.methodLink own index y).before a0 Z = true) (w2 : (Cond.declares y).before a0 Z = true) (wf : (Cond.interfaceMethod y.cls y.cls y.name y.desc).before args s = true) (w3 : (Cond.selects C y z).before a0 Z = true) (w5 : (Cond.instanceMethod z).before a0 Z = true) (wu : (Cond.publicMethod z).before a0 Z = true) (wh : (Cond.unhidden C y.name y.desc).before a0 Z = true) (wk : (Cond.castable C y.cls).before a0 Z = true) (w6 : (Cond.initialized z.cls).before a0 Z = true) (w4 : (Cond.code z bytes maxL ret).before a0 Z = true)
    (hy : y.cls ≠ "java/lang/invoke/MethodHandle" ∧ y.cls ≠ "java/lang/invoke/VarHandle")
    (hM : MetFree l z (head1 [Cond.code z bytes maxL ret] rm) (fun a U => a = as' ∧ Z.Warmed39 U.vm ∧ U.heap = h) (fun _ _ _ _ _ => True) (fun _ U o U' => ∃ v L, o = .returned v ∧ Qc v U'.heap L ∧ FrameEnd U o U' L rm.cells rm.slots))
    (hf : rm.frames + 1 ≤ R.frames) (hl : W + (maxL + 11) + rm.locals ≤ R.locals) (eT : T.heap = h) {a : Addr} (E : Exa Z h a C) (hg : g.method = m) (hsize : g.locals.size = c.maxLocals) (ha : (Value.ref a :: argsL).toArray = as')
    (hlen : ∀ sig, parseMethodDescriptor y.desc = some sig → argsL.length = sig.parameters.length) (hstack : g.stack = argsL.reverse ++ .ref a :: rest) (hW : 2 * g.monitorRoom + (rest.map fun v => v.category).sum ≤ W) (hdg : decode c.code g.pc = .ok (.invokeinterface index count, 5))
    (hc : cells + rm.cells ≤ R.cells) (hs : slots + rm.slots ≤ R.slots) :
    ∃ (v : Option Value) (T' : State) (L : List Loc), Stand p l e R s m args below meth c T' (locs ++ L) (cells + rm.cells) (slots + rm.slots) ∧ Qc v T'.heap L ∧ ∀ target, Steps p.tables e below (T'.setTop { g with pc := g.pc + 5, stack := v.toList ++ rest }) target → Steps p.tables e below (T.setTop g) target := by
  obtain ⟨cq, kq, q1, q2, q3⟩ := isOf hZ eT E
  obtain ⟨v, _, ⟨T', L', k', n'⟩, -, X', ⟨L, hQ, l1, l2, l3⟩, st⟩ := X.interfaceBack hx hown (mvT hZ w1) (mvT hZ w2) wf (mvT hZ w3) (mvT hZ w5) (mvT hZ wu) (mvT hZ wh) (mvT hZ wk) hy (backOf (W := W) hM hZ w4 w6 hf hl) q1 q2 q3 (g := g) hg hsize (Steps.refl _) (argsL := argsL) (rest := rest) hlen hstack hW hdg (fun _ _ => ⟨ha, eT, hc, hs⟩)
  dsimp only [Pt.U, Pt.locs, Pt.cells, Pt.slots] at X' l1 l2 l3 st hQ
  subst l1 l2 l3
  exact ⟨v, T', L, X', hQ, fun _ k => st.trans k⟩
end Call
/-- an object of C is none of K (K a class that can be made) -/
theorem NSroot {O K : String} {kk : Nat} (w : (Cond.noSuperclass O).before a0 Z = true) (wk : (Cond.instantiable K kk).before a0 Z = true) (hn : O ≠ K) : NS Z O K := by
  obtain ⟨c, k, h1, h2, h3, -, -⟩ := Cond.noSuperclass_spec w
  obtain ⟨t, kt, g1, -⟩ := Cond.instantiable_spec wk
  have ne := ids_ne h1 g1 hn
  refine ⟨c, t, h1, g1, fun fuel => ?_⟩
  cases fuel with
  | zero => rfl
  | succ f => simp [Vm.isSubclassAux, ne, h2, h3]
theorem NSno {C S K : String} {kk : Nat} (w : (Cond.superclass C S).before a0 Z = true) (wk : (Cond.instantiable K kk).before a0 Z = true) (n : NS Z C K) (hn : C ≠ K) : ∃ c t, Z.vm.findClass C = some c ∧ Z.vm.findClass K = some t ∧ Z.vm.assignable c t = false := by
  obtain ⟨c, t, h0, g0, n3⟩ := n
  obtain ⟨p, k, kp, h1, h2, h3, h4, h5, -, h7⟩ := Cond.superclass_spec h0 w
  obtain ⟨t', k', g1, g2, g5, g7, -⟩ := Cond.instantiable_spec wk
  cases g0.symm.trans g1
  simp only [Bool.or_eq_false_iff] at g7
  have ne := ids_ne h0 g0 hn
  refine ⟨c, t, h0, g0, ?_⟩
  show Z.vm.assignableAux (255 + 1) c t = false
  simp [Vm.assignableAux, ne, h2, g2, h5, g5, g7.1, Vm.isSubclass, n3]
end Own
end Jvm.OwnKit
namespace Jvm.Pilot.@@N@@
open Jvm Jvm.ClassFile Sem Op Lib Jvm.Free Jvm.Stand Jvm.LawKit Jvm.RoadKit Bundle Jvm.OwnKit Jvm.Pilot.@@N@@.Jvm.D

abbrev own_let (c : Int32) : Prop := (65 ≤ c.toInt ∧ c.toInt ≤ 90) ∨ (97 ≤ c.toInt ∧ c.toInt ≤ 122)
abbrev own_dig (c : Int32) : Prop := 48 ≤ c.toInt ∧ c.toInt ≤ 57
abbrev own_st (c : Int32) : Prop := own_let c ∨ c.toInt = 95
theorem own_fold (c : Int32) : (97 ≤ (c ||| 32).toInt ∧ (c ||| 32).toInt ≤ 122) ↔ own_let c := by
  have e : (c ||| 32).toBitVec.toNat = c.toBitVec.toNat ||| 32 := by show (c.toBitVec ||| (32 : Int32).toBitVec).toNat = _; rw [BitVec.toNat_or]; rfl
  have k : ∀ n : Fin 128, ((97 ≤ (n.1 ||| 32) ∧ (n.1 ||| 32) ≤ 122) ↔ ((65 ≤ n.1 ∧ n.1 ≤ 90) ∨ (97 ≤ n.1 ∧ n.1 ≤ 122))) := by decide +kernel
  have r1 : c.toInt = c.toBitVec.toInt := rfl
  have r2 : (c ||| 32).toInt = (c ||| 32).toBitVec.toInt := rfl
  have l1 := c.toBitVec.isLt
  have l2 := (c ||| 32).toBitVec.isLt
  have o1 : c.toBitVec.toNat ≤ c.toBitVec.toNat ||| 32 := Nat.left_le_or
  show (97 ≤ (c ||| 32).toBitVec.toInt ∧ (c ||| 32).toBitVec.toInt ≤ 122) ↔ ((65 ≤ c.toBitVec.toInt ∧ c.toBitVec.toInt ≤ 90) ∨ (97 ≤ c.toBitVec.toInt ∧ c.toBitVec.toInt ≤ 122))
  rw [BitVec.toInt_eq_toNat_cond, BitVec.toInt_eq_toNat_cond]
  rw [e] at l2 ⊢
  by_cases hn : c.toBitVec.toNat < 128
  · have := k ⟨_, hn⟩
    have o2 : c.toBitVec.toNat ||| 32 < 2 ^ 7 := Nat.or_lt_two_pow (by omega) (by decide)
    simp only at this
    rw [if_pos (by omega), if_pos (by omega)]
    omega
  · constructor
    · intro h; exfalso; split at h <;> omega
    · intro h; exfalso; split at h <;> omega
theorem own_t {P : Prop} [Decidable P] (h : ¬ (if P then (1 : Int32) else 0) = 0) : P := by
  by_cases p : P
  · exact p
  · rw [if_neg p] at h; exact absurd rfl h
theorem own_f {P : Prop} [Decidable P] (h : (if P then (1 : Int32) else 0) = 0) : ¬ P := fun p => by rw [if_pos p] at h; exact absurd h (by decide)
theorem own_l1 (c x r : Int32) (qx : (c ||| (32 : Int32)) = x) (q : r = (if x < (97 : Int32) then (0 : Int32) else (if (122 : Int32) < x then (0 : Int32) else (1 : Int32)))) : (r = 0 → ¬ own_let c) ∧ (¬ r = 0 → own_let c) := by
  subst qx
  rw [← own_fold c]
  by_cases a : (c ||| 32) < 97
  · rw [if_pos a] at q; rw [Int32.lt_iff_toInt_lt] at a; simp only [Int32.reduceToInt] at a; exact ⟨fun _ h => by omega, fun h => absurd q h⟩
  · rw [if_neg a] at q
    by_cases b : 122 < (c ||| 32)
    · rw [if_pos b] at q; rw [Int32.lt_iff_toInt_lt] at b; simp only [Int32.reduceToInt] at b; exact ⟨fun _ h => by omega, fun h => absurd q h⟩
    · rw [if_neg b] at q; rw [Int32.lt_iff_toInt_lt] at a b; simp only [Int32.reduceToInt] at a b; exact ⟨fun h => absurd (q.symm.trans h) (by decide), fun _ => by omega⟩
theorem own_d1 (c r : Int32) (d : Int64) (qd : (c.toInt64 - (48 : Int64)) = d) (q : r = (if d < (0 : Int64) then (0 : Int32) else (if d < (10 : Int64) then (1 : Int32) else (0 : Int32)))) : (r = 0 → ¬ own_dig c) ∧ (¬ r = 0 → own_dig c) := by
  have f2 := c_lsub c.toInt64 48
  have f3 := c_i2l c
  have f4 := rng32 c
  rw [qd] at f2
  have f5 := rng64 d
  simp only [Int64.reduceToInt] at f2
  by_cases a : d < 0
  · rw [if_pos a] at q; rw [Int64.lt_iff_toInt_lt] at a; simp only [Int64.reduceToInt] at a; exact ⟨fun _ h => by omega, fun h => absurd q h⟩
  · rw [if_neg a] at q
    by_cases b : d < 10
    · rw [if_pos b] at q; rw [Int64.lt_iff_toInt_lt] at a b; simp only [Int64.reduceToInt] at a b; exact ⟨fun h => absurd (q.symm.trans h) (by decide), fun _ => by omega⟩
    · rw [if_neg b] at q; rw [Int64.lt_iff_toInt_lt] at a b; simp only [Int64.reduceToInt] at a b; exact ⟨fun _ h => by omega, fun h => absurd q h⟩
theorem own_u1 (c r : Int32) (q : r = (if c = (95 : Int32) then (1 : Int32) else (0 : Int32))) : (r = 0 → ¬ c.toInt = 95) ∧ (¬ r = 0 → c.toInt = 95) := by
  by_cases a : c = 95
  · rw [if_pos a] at q; exact ⟨fun h => absurd (q.symm.trans h) (by decide), fun _ => by rw [a]; rfl⟩
  · rw [if_neg a] at q; exact ⟨fun _ h => a (Int32.toInt_inj.mp h), fun h => absurd q h⟩
abbrev fL0 (y0 : Int32) : Array Slot := #[.val (.int y0), .unset, .unset, .unset, .unset, .unset, .unset]
abbrev fL1 (y0 : Int32) (y1 : Int32) : Array Slot := #[.val (.int y0), .val (.int y1), .unset, .unset, .unset, .unset, .unset]
abbrev fL2 (y0 : Int32) (y1 : Int32) (y2 : Int32) : Array Slot := #[.val (.int y0), .val (.int y1), .val (.int y2), .unset, .unset, .unset, .unset]
abbrev fL3 (y0 : Int32) (y1 : Int32) (y2 : Int32) (y3 : Int64) : Array Slot := #[.val (.int y0), .val (.int y1), .val (.int y2), .val (.long y3), .second, .unset, .unset]
abbrev fL4 (y0 : Int32) (y1 : Int32) (y2 : Int32) (y3 : Int64) (y4 : Int32) : Array Slot := #[.val (.int y0), .val (.int y1), .val (.int y2), .val (.long y3), .second, .val (.int y4), .unset]
abbrev fL5 (y0 : Int32) (y1 : Int32) (y2 : Int32) (y3 : Int64) (y4 : Int32) (y5 : Int32) : Array Slot := #[.val (.int y0), .val (.int y1), .val (.int y2), .val (.long y3), .second, .val (.int y4), .val (.int y5)]
theorem d_prog_9_method_35_code_0 : decode prog_9_method_35_code 0 = .ok (.iload_n 0, 1) := by decide +kernel
theorem d_prog_9_method_35_code_1 : decode prog_9_method_35_code 1 = .ok (.bipush 48, 2) := by decide +kernel
theorem d_prog_9_method_35_code_3 : decode prog_9_method_35_code 3 = .ok (.if_icmp .lt 13, 3) := by decide +kernel
theorem d_prog_9_method_35_code_16 : decode prog_9_method_35_code 16 = .ok (.iconst 0, 1) := by decide +kernel
theorem d_prog_9_method_35_code_17 : decode prog_9_method_35_code 17 = .ok (.ireturn, 1) := by decide +kernel
theorem d_prog_9_method_35_code_6 : decode prog_9_method_35_code 6 = .ok (.iload_n 0, 1) := by decide +kernel
theorem d_prog_9_method_35_code_7 : decode prog_9_method_35_code 7 = .ok (.bipush 57, 2) := by decide +kernel
theorem d_prog_9_method_35_code_9 : decode prog_9_method_35_code 9 = .ok (.if_icmp .gt 7, 3) := by decide +kernel
theorem d_prog_9_method_35_code_12 : decode prog_9_method_35_code 12 = .ok (.iconst 1, 1) := by decide +kernel
theorem d_prog_9_method_35_code_13 : decode prog_9_method_35_code 13 = .ok (.goto 4, 3) := by decide +kernel
theorem pn_com_example_minder_minder_io_ViewReader : plainName "com/example/minder/minder/io/ViewReader" = true := by first | (simp [plainName, overriddenIn]; done) | decide +kernel
theorem ef_rm_dig (m : MethodId) (y0 : Int32) : entryFrame m #[(.int y0)] 1 = mkF m 0 #[.val (.int y0)] [] := by first | (simp [entryFrame, mkF, argsToLocals, Value.category]; done) | rfl
def Q_rm_dig (Z : State) (p0 : Int32) (h0 : Heap) (n0 : Nat) (v : Option Value) (h : Heap) (L : List Loc) : Prop := v = some (.int (if own_dig p0 then (1 : Int32) else 0)) ∧ Fr n0 L ∧ h = h0
set_option maxRecDepth 65536 in
set_option maxHeartbeats 40000000 in
theorem rm_dig (l : Launch) (Z : State) (a0 : Array Value) (hw : ∀ d ∈ tables_1, d.before a0 Z = true) (ws : List Jvm.Cond) (p0 : Int32) (h0 : Heap) (n0 : Nat) :
    MetFree l (⟨"com/example/minder/minder/io/ViewReader", "isDigit", "(I)Z"⟩ : MethodName) (head1 (Jvm.Cond.code (⟨"com/example/minder/minder/io/ViewReader", "isDigit", "(I)Z"⟩ : MethodName) prog_9_method_35_code 1 (some .boolean) :: ws) ({ frames := 0, cells := 0, slots := 0, locals := 0 } : Room)) (fun a U => a = #[(.int p0)] ∧ Z.Warmed39 U.vm ∧ U.heap = h0) (fun _ _ _ _ _ => True) (fun _ U o U' => ∃ v L, o = .returned v ∧ Q_rm_dig Z p0 h0 n0 v U'.heap L ∧ FrameEnd U o U' L 0 0) := by
  refine MetFree.of_bodySF (plainFor_of_name pn_com_example_minder_minder_io_ViewReader) hisR ?_
  intro p e s m args below meth c s₁ Bd hml0 hP hK
  obtain ⟨rfl, hZ, hh⟩ := hP
  have hx := Bd.exec
  have hby := Bd.bytes
  have hlk := Bd.notSynchronized
  have hml : c.maxLocals = 1 := hml0
  have hown : s.vm.findClass "com/example/minder/minder/io/ViewReader" = some m.cls := findClass_of_methodNamed Bd.named
  have hnm := (name_of_methodNamed Bd.named Bd.method).1
  have X0 : Stand p l e ({ frames := 0, cells := 0, slots := 0, locals := 0 } : Room) s m #[(.int p0)] below meth c s₁ [] 0 0 := Stand.of_body Bd
  have e0 : s₁.heap = h0 := by rw [← hh, Bd.state]; rfl
  have N0 := Fr.nil n0
  show OwnEnd p e below s (Q_rm_dig Z p0 h0 n0) 0 0 (s₁.setTop (entryFrame m #[(.int p0)] 1))
  refine go (fun t k => castTop (ef_rm_dig m p0) k) ?_
  show OwnEnd _ _ _ _ _ _ _ (s₁.setTop (mkF m 0 #[.val (.int p0)] []))
  refine go (fun _ k => by refine XS.iloadN X0.here hx rfl (hb hby d_prog_9_method_35_code_0) rfl ?_; exact k) ?_
  refine go (fun _ k => by refine XS.bipush X0.here hx rfl (hb hby d_prog_9_method_35_code_1) ?_; exact k) ?_
  show OwnEnd _ _ _ _ _ _ _ (s₁.setTop (mkF m 3 #[.val (.int p0)] [(.int (48 : Int32)), (.int p0)]))
  by_cases hc3_1 : p0 < (48 : Int32)
  · refine go (fun _ k => by refine XS.icmpYes X0.here hx rfl (pc0 := 3) (pc' := 16) rfl (hb hby d_prog_9_method_35_code_3) rfl (tlt hc3_1).1 (by decide) (by decide) ?_; exact k) ?_
    show OwnEnd _ _ _ _ _ _ _ (s₁.setTop (mkF m 16 #[.val (.int p0)] []))
    refine go (fun _ k => by refine XS.iconst X0.here hx rfl (hb hby d_prog_9_method_35_code_16) ?_; exact k) ?_
    show OwnEnd _ _ _ _ _ _ _ (s₁.setTop (mkF m 17 #[.val (.int p0)] [(.int (0 : Int32))]))
    refine endN X0 hx hlk (t := .boolean) (by simp) Bd.returns (hb hby d_prog_9_method_35_code_17) e0 (by decide) (by decide) ?_
    exact ⟨by rw [if_neg (by simp only [Int32.lt_iff_toInt_lt, ← Int32.toInt_inj, Int32.reduceToInt] at *; omega)]; rfl, N0, rfl⟩
  · refine go (fun _ k => by refine XS.icmpNo X0.here hx rfl (hb hby d_prog_9_method_35_code_3) rfl (flt hc3_1).1 ?_; exact k) ?_
    show OwnEnd _ _ _ _ _ _ _ (s₁.setTop (mkF m 6 #[.val (.int p0)] []))
    refine go (fun _ k => by refine XS.iloadN X0.here hx rfl (hb hby d_prog_9_method_35_code_6) rfl ?_; exact k) ?_
    refine go (fun _ k => by refine XS.bipush X0.here hx rfl (hb hby d_prog_9_method_35_code_7) ?_; exact k) ?_
    show OwnEnd _ _ _ _ _ _ _ (s₁.setTop (mkF m 9 #[.val (.int p0)] [(.int (57 : Int32)), (.int p0)]))
    by_cases hc9_2 : (57 : Int32) < p0
    · refine go (fun _ k => by refine XS.icmpYes X0.here hx rfl (pc0 := 9) (pc' := 16) rfl (hb hby d_prog_9_method_35_code_9) rfl (tlt hc9_2).2.2.1 (by decide) (by decide) ?_; exact k) ?_
      show OwnEnd _ _ _ _ _ _ _ (s₁.setTop (mkF m 16 #[.val (.int p0)] []))
      refine go (fun _ k => by refine XS.iconst X0.here hx rfl (hb hby d_prog_9_method_35_code_16) ?_; exact k) ?_
      show OwnEnd _ _ _ _ _ _ _ (s₁.setTop (mkF m 17 #[.val (.int p0)] [(.int (0 : Int32))]))
      refine endN X0 hx hlk (t := .boolean) (by simp) Bd.returns (hb hby d_prog_9_method_35_code_17) e0 (by decide) (by decide) ?_
      exact ⟨by rw [if_neg (by simp only [Int32.lt_iff_toInt_lt, ← Int32.toInt_inj, Int32.reduceToInt] at *; omega)]; rfl, N0, rfl⟩
    · refine go (fun _ k => by refine XS.icmpNo X0.here hx rfl (hb hby d_prog_9_method_35_code_9) rfl (flt hc9_2).2.2.1 ?_; exact k) ?_
      show OwnEnd _ _ _ _ _ _ _ (s₁.setTop (mkF m 12 #[.val (.int p0)] []))
      refine go (fun _ k => by refine XS.iconst X0.here hx rfl (hb hby d_prog_9_method_35_code_12) ?_; exact k) ?_
      refine go (fun _ k => by refine XS.goto X0.here hx rfl (pc0 := 13) (pc' := 17) rfl (hb hby d_prog_9_method_35_code_13) (by decide) (by decide) ?_; exact k) ?_
      show OwnEnd _ _ _ _ _ _ _ (s₁.setTop (mkF m 17 #[.val (.int p0)] [(.int (1 : Int32))]))
      refine endN X0 hx hlk (t := .boolean) (by simp) Bd.returns (hb hby d_prog_9_method_35_code_17) e0 (by decide) (by decide) ?_
      exact ⟨by rw [if_pos (by simp only [Int32.lt_iff_toInt_lt, ← Int32.toInt_inj, Int32.reduceToInt] at *; omega)]; rfl, N0, rfl⟩
theorem d_prog_9_method_33_code_0 : decode prog_9_method_33_code 0 = .ok (.iload_n 0, 1) := by decide +kernel
theorem d_prog_9_method_33_code_1 : decode prog_9_method_33_code 1 = .ok (.bipush 65, 2) := by decide +kernel
theorem d_prog_9_method_33_code_3 : decode prog_9_method_33_code 3 = .ok (.if_icmp .lt 9, 3) := by decide +kernel
theorem d_prog_9_method_33_code_12 : decode prog_9_method_33_code 12 = .ok (.iload_n 0, 1) := by decide +kernel
theorem d_prog_9_method_33_code_13 : decode prog_9_method_33_code 13 = .ok (.bipush 97, 2) := by decide +kernel
theorem d_prog_9_method_33_code_15 : decode prog_9_method_33_code 15 = .ok (.if_icmp .lt 9, 3) := by decide +kernel
theorem d_prog_9_method_33_code_24 : decode prog_9_method_33_code 24 = .ok (.iload_n 0, 1) := by decide +kernel
theorem d_prog_9_method_33_code_25 : decode prog_9_method_33_code 25 = .ok (.bipush 95, 2) := by decide +kernel
theorem d_prog_9_method_33_code_27 : decode prog_9_method_33_code 27 = .ok (.if_icmp .ne 7, 3) := by decide +kernel
theorem d_prog_9_method_33_code_30 : decode prog_9_method_33_code 30 = .ok (.iconst 1, 1) := by decide +kernel
theorem d_prog_9_method_33_code_31 : decode prog_9_method_33_code 31 = .ok (.goto 4, 3) := by decide +kernel
theorem d_prog_9_method_33_code_35 : decode prog_9_method_33_code 35 = .ok (.ireturn, 1) := by decide +kernel
theorem d_prog_9_method_33_code_34 : decode prog_9_method_33_code 34 = .ok (.iconst 0, 1) := by decide +kernel
theorem d_prog_9_method_33_code_18 : decode prog_9_method_33_code 18 = .ok (.iload_n 0, 1) := by decide +kernel
theorem d_prog_9_method_33_code_19 : decode prog_9_method_33_code 19 = .ok (.bipush 122, 2) := by decide +kernel
theorem d_prog_9_method_33_code_21 : decode prog_9_method_33_code 21 = .ok (.if_icmp .le 9, 3) := by decide +kernel
theorem d_prog_9_method_33_code_6 : decode prog_9_method_33_code 6 = .ok (.iload_n 0, 1) := by decide +kernel
theorem d_prog_9_method_33_code_7 : decode prog_9_method_33_code 7 = .ok (.bipush 90, 2) := by decide +kernel
theorem d_prog_9_method_33_code_9 : decode prog_9_method_33_code 9 = .ok (.if_icmp .le 21, 3) := by decide +kernel
theorem ef_rm_start (m : MethodId) (y0 : Int32) : entryFrame m #[(.int y0)] 1 = mkF m 0 #[.val (.int y0)] [] := by first | (simp [entryFrame, mkF, argsToLocals, Value.category]; done) | rfl
def Q_rm_start (Z : State) (p0 : Int32) (h0 : Heap) (n0 : Nat) (v : Option Value) (h : Heap) (L : List Loc) : Prop := v = some (.int (if own_st p0 then (1 : Int32) else 0)) ∧ Fr n0 L ∧ h = h0
set_option maxRecDepth 65536 in
set_option maxHeartbeats 40000000 in
theorem rm_start (l : Launch) (Z : State) (a0 : Array Value) (hw : ∀ d ∈ tables_1, d.before a0 Z = true) (ws : List Jvm.Cond) (p0 : Int32) (h0 : Heap) (n0 : Nat) :
    MetFree l (⟨"com/example/minder/minder/io/ViewReader", "isNameStart", "(I)Z"⟩ : MethodName) (head1 (Jvm.Cond.code (⟨"com/example/minder/minder/io/ViewReader", "isNameStart", "(I)Z"⟩ : MethodName) prog_9_method_33_code 1 (some .boolean) :: ws) ({ frames := 0, cells := 0, slots := 0, locals := 0 } : Room)) (fun a U => a = #[(.int p0)] ∧ Z.Warmed39 U.vm ∧ U.heap = h0) (fun _ _ _ _ _ => True) (fun _ U o U' => ∃ v L, o = .returned v ∧ Q_rm_start Z p0 h0 n0 v U'.heap L ∧ FrameEnd U o U' L 0 0) := by
  refine MetFree.of_bodySF (plainFor_of_name pn_com_example_minder_minder_io_ViewReader) hisR ?_
  intro p e s m args below meth c s₁ Bd hml0 hP hK
  obtain ⟨rfl, hZ, hh⟩ := hP
  have hx := Bd.exec
  have hby := Bd.bytes
  have hlk := Bd.notSynchronized
  have hml : c.maxLocals = 1 := hml0
  have hown : s.vm.findClass "com/example/minder/minder/io/ViewReader" = some m.cls := findClass_of_methodNamed Bd.named
  have hnm := (name_of_methodNamed Bd.named Bd.method).1
  have X0 : Stand p l e ({ frames := 0, cells := 0, slots := 0, locals := 0 } : Room) s m #[(.int p0)] below meth c s₁ [] 0 0 := Stand.of_body Bd
  have e0 : s₁.heap = h0 := by rw [← hh, Bd.state]; rfl
  have N0 := Fr.nil n0
  show OwnEnd p e below s (Q_rm_start Z p0 h0 n0) 0 0 (s₁.setTop (entryFrame m #[(.int p0)] 1))
  refine go (fun t k => castTop (ef_rm_start m p0) k) ?_
  show OwnEnd _ _ _ _ _ _ _ (s₁.setTop (mkF m 0 #[.val (.int p0)] []))
  refine go (fun _ k => by refine XS.iloadN X0.here hx rfl (hb hby d_prog_9_method_33_code_0) rfl ?_; exact k) ?_
  refine go (fun _ k => by refine XS.bipush X0.here hx rfl (hb hby d_prog_9_method_33_code_1) ?_; exact k) ?_
  show OwnEnd _ _ _ _ _ _ _ (s₁.setTop (mkF m 3 #[.val (.int p0)] [(.int (65 : Int32)), (.int p0)]))
  by_cases hc3_1 : p0 < (65 : Int32)
  · refine go (fun _ k => by refine XS.icmpYes X0.here hx rfl (pc0 := 3) (pc' := 12) rfl (hb hby d_prog_9_method_33_code_3) rfl (tlt hc3_1).1 (by decide) (by decide) ?_; exact k) ?_
    show OwnEnd _ _ _ _ _ _ _ (s₁.setTop (mkF m 12 #[.val (.int p0)] []))
    refine go (fun _ k => by refine XS.iloadN X0.here hx rfl (hb hby d_prog_9_method_33_code_12) rfl ?_; exact k) ?_
    refine go (fun _ k => by refine XS.bipush X0.here hx rfl (hb hby d_prog_9_method_33_code_13) ?_; exact k) ?_
    show OwnEnd _ _ _ _ _ _ _ (s₁.setTop (mkF m 15 #[.val (.int p0)] [(.int (97 : Int32)), (.int p0)]))
    by_cases hc15_2 : p0 < (97 : Int32)
    · refine go (fun _ k => by refine XS.icmpYes X0.here hx rfl (pc0 := 15) (pc' := 24) rfl (hb hby d_prog_9_method_33_code_15) rfl (tlt hc15_2).1 (by decide) (by decide) ?_; exact k) ?_
      show OwnEnd _ _ _ _ _ _ _ (s₁.setTop (mkF m 24 #[.val (.int p0)] []))
      refine go (fun _ k => by refine XS.iloadN X0.here hx rfl (hb hby d_prog_9_method_33_code_24) rfl ?_; exact k) ?_
      refine go (fun _ k => by refine XS.bipush X0.here hx rfl (hb hby d_prog_9_method_33_code_25) ?_; exact k) ?_
      show OwnEnd _ _ _ _ _ _ _ (s₁.setTop (mkF m 27 #[.val (.int p0)] [(.int (95 : Int32)), (.int p0)]))
      by_cases hc27_3 : p0 = (95 : Int32)
      · refine go (fun _ k => by refine XS.icmpNo X0.here hx rfl (hb hby d_prog_9_method_33_code_27) rfl (teq hc27_3).2 ?_; exact k) ?_
        show OwnEnd _ _ _ _ _ _ _ (s₁.setTop (mkF m 30 #[.val (.int p0)] []))
        refine go (fun _ k => by refine XS.iconst X0.here hx rfl (hb hby d_prog_9_method_33_code_30) ?_; exact k) ?_
        refine go (fun _ k => by refine XS.goto X0.here hx rfl (pc0 := 31) (pc' := 35) rfl (hb hby d_prog_9_method_33_code_31) (by decide) (by decide) ?_; exact k) ?_
        show OwnEnd _ _ _ _ _ _ _ (s₁.setTop (mkF m 35 #[.val (.int p0)] [(.int (1 : Int32))]))
        refine endN X0 hx hlk (t := .boolean) (by simp) Bd.returns (hb hby d_prog_9_method_33_code_35) e0 (by decide) (by decide) ?_
        exact ⟨by rw [if_pos (by simp only [Int32.lt_iff_toInt_lt, ← Int32.toInt_inj, Int32.reduceToInt] at *; omega)]; rfl, N0, rfl⟩
      · refine go (fun _ k => by refine XS.icmpYes X0.here hx rfl (pc0 := 27) (pc' := 34) rfl (hb hby d_prog_9_method_33_code_27) rfl (feq hc27_3).2 (by decide) (by decide) ?_; exact k) ?_
        show OwnEnd _ _ _ _ _ _ _ (s₁.setTop (mkF m 34 #[.val (.int p0)] []))
        refine go (fun _ k => by refine XS.iconst X0.here hx rfl (hb hby d_prog_9_method_33_code_34) ?_; exact k) ?_
        show OwnEnd _ _ _ _ _ _ _ (s₁.setTop (mkF m 35 #[.val (.int p0)] [(.int (0 : Int32))]))
        refine endN X0 hx hlk (t := .boolean) (by simp) Bd.returns (hb hby d_prog_9_method_33_code_35) e0 (by decide) (by decide) ?_
        exact ⟨by rw [if_neg (by simp only [Int32.lt_iff_toInt_lt, ← Int32.toInt_inj, Int32.reduceToInt] at *; omega)]; rfl, N0, rfl⟩
    · refine go (fun _ k => by refine XS.icmpNo X0.here hx rfl (hb hby d_prog_9_method_33_code_15) rfl (flt hc15_2).1 ?_; exact k) ?_
      show OwnEnd _ _ _ _ _ _ _ (s₁.setTop (mkF m 18 #[.val (.int p0)] []))
      refine go (fun _ k => by refine XS.iloadN X0.here hx rfl (hb hby d_prog_9_method_33_code_18) rfl ?_; exact k) ?_
      refine go (fun _ k => by refine XS.bipush X0.here hx rfl (hb hby d_prog_9_method_33_code_19) ?_; exact k) ?_
      show OwnEnd _ _ _ _ _ _ _ (s₁.setTop (mkF m 21 #[.val (.int p0)] [(.int (122 : Int32)), (.int p0)]))
      by_cases hc21_4 : (122 : Int32) < p0
      · refine go (fun _ k => by refine XS.icmpNo X0.here hx rfl (hb hby d_prog_9_method_33_code_21) rfl (tlt hc21_4).2.2.2 ?_; exact k) ?_
        show OwnEnd _ _ _ _ _ _ _ (s₁.setTop (mkF m 24 #[.val (.int p0)] []))
        refine go (fun _ k => by refine XS.iloadN X0.here hx rfl (hb hby d_prog_9_method_33_code_24) rfl ?_; exact k) ?_
        refine go (fun _ k => by refine XS.bipush X0.here hx rfl (hb hby d_prog_9_method_33_code_25) ?_; exact k) ?_
        show OwnEnd _ _ _ _ _ _ _ (s₁.setTop (mkF m 27 #[.val (.int p0)] [(.int (95 : Int32)), (.int p0)]))
        by_cases hc27_5 : p0 = (95 : Int32)
        · refine go (fun _ k => by refine XS.icmpNo X0.here hx rfl (hb hby d_prog_9_method_33_code_27) rfl (teq hc27_5).2 ?_; exact k) ?_
          show OwnEnd _ _ _ _ _ _ _ (s₁.setTop (mkF m 30 #[.val (.int p0)] []))
          refine go (fun _ k => by refine XS.iconst X0.here hx rfl (hb hby d_prog_9_method_33_code_30) ?_; exact k) ?_
          refine go (fun _ k => by refine XS.goto X0.here hx rfl (pc0 := 31) (pc' := 35) rfl (hb hby d_prog_9_method_33_code_31) (by decide) (by decide) ?_; exact k) ?_
          show OwnEnd _ _ _ _ _ _ _ (s₁.setTop (mkF m 35 #[.val (.int p0)] [(.int (1 : Int32))]))
          refine endN X0 hx hlk (t := .boolean) (by simp) Bd.returns (hb hby d_prog_9_method_33_code_35) e0 (by decide) (by decide) ?_
          exact ⟨by rw [if_pos (by simp only [Int32.lt_iff_toInt_lt, ← Int32.toInt_inj, Int32.reduceToInt] at *; omega)]; rfl, N0, rfl⟩
        · refine go (fun _ k => by refine XS.icmpYes X0.here hx rfl (pc0 := 27) (pc' := 34) rfl (hb hby d_prog_9_method_33_code_27) rfl (feq hc27_5).2 (by decide) (by decide) ?_; exact k) ?_
          show OwnEnd _ _ _ _ _ _ _ (s₁.setTop (mkF m 34 #[.val (.int p0)] []))
          refine go (fun _ k => by refine XS.iconst X0.here hx rfl (hb hby d_prog_9_method_33_code_34) ?_; exact k) ?_
          show OwnEnd _ _ _ _ _ _ _ (s₁.setTop (mkF m 35 #[.val (.int p0)] [(.int (0 : Int32))]))
          refine endN X0 hx hlk (t := .boolean) (by simp) Bd.returns (hb hby d_prog_9_method_33_code_35) e0 (by decide) (by decide) ?_
          exact ⟨by rw [if_neg (by simp only [Int32.lt_iff_toInt_lt, ← Int32.toInt_inj, Int32.reduceToInt] at *; omega)]; rfl, N0, rfl⟩
      · refine go (fun _ k => by refine XS.icmpYes X0.here hx rfl (pc0 := 21) (pc' := 30) rfl (hb hby d_prog_9_method_33_code_21) rfl (flt hc21_4).2.2.2 (by decide) (by decide) ?_; exact k) ?_
        show OwnEnd _ _ _ _ _ _ _ (s₁.setTop (mkF m 30 #[.val (.int p0)] []))
        refine go (fun _ k => by refine XS.iconst X0.here hx rfl (hb hby d_prog_9_method_33_code_30) ?_; exact k) ?_
        refine go (fun _ k => by refine XS.goto X0.here hx rfl (pc0 := 31) (pc' := 35) rfl (hb hby d_prog_9_method_33_code_31) (by decide) (by decide) ?_; exact k) ?_
        show OwnEnd _ _ _ _ _ _ _ (s₁.setTop (mkF m 35 #[.val (.int p0)] [(.int (1 : Int32))]))
        refine endN X0 hx hlk (t := .boolean) (by simp) Bd.returns (hb hby d_prog_9_method_33_code_35) e0 (by decide) (by decide) ?_
        exact ⟨by rw [if_pos (by simp only [Int32.lt_iff_toInt_lt, ← Int32.toInt_inj, Int32.reduceToInt] at *; omega)]; rfl, N0, rfl⟩
  · refine go (fun _ k => by refine XS.icmpNo X0.here hx rfl (hb hby d_prog_9_method_33_code_3) rfl (flt hc3_1).1 ?_; exact k) ?_
    show OwnEnd _ _ _ _ _ _ _ (s₁.setTop (mkF m 6 #[.val (.int p0)] []))
    refine go (fun _ k => by refine XS.iloadN X0.here hx rfl (hb hby d_prog_9_method_33_code_6) rfl ?_; exact k) ?_
    refine go (fun _ k => by refine XS.bipush X0.here hx rfl (hb hby d_prog_9_method_33_code_7) ?_; exact k) ?_
    show OwnEnd _ _ _ _ _ _ _ (s₁.setTop (mkF m 9 #[.val (.int p0)] [(.int (90 : Int32)), (.int p0)]))
    by_cases hc9_6 : (90 : Int32) < p0
    · refine go (fun _ k => by refine XS.icmpNo X0.here hx rfl (hb hby d_prog_9_method_33_code_9) rfl (tlt hc9_6).2.2.2 ?_; exact k) ?_
      show OwnEnd _ _ _ _ _ _ _ (s₁.setTop (mkF m 12 #[.val (.int p0)] []))
      refine go (fun _ k => by refine XS.iloadN X0.here hx rfl (hb hby d_prog_9_method_33_code_12) rfl ?_; exact k) ?_
      refine go (fun _ k => by refine XS.bipush X0.here hx rfl (hb hby d_prog_9_method_33_code_13) ?_; exact k) ?_
      show OwnEnd _ _ _ _ _ _ _ (s₁.setTop (mkF m 15 #[.val (.int p0)] [(.int (97 : Int32)), (.int p0)]))
      by_cases hc15_7 : p0 < (97 : Int32)
      · refine go (fun _ k => by refine XS.icmpYes X0.here hx rfl (pc0 := 15) (pc' := 24) rfl (hb hby d_prog_9_method_33_code_15) rfl (tlt hc15_7).1 (by decide) (by decide) ?_; exact k) ?_
        show OwnEnd _ _ _ _ _ _ _ (s₁.setTop (mkF m 24 #[.val (.int p0)] []))
        refine go (fun _ k => by refine XS.iloadN X0.here hx rfl (hb hby d_prog_9_method_33_code_24) rfl ?_; exact k) ?_
        refine go (fun _ k => by refine XS.bipush X0.here hx rfl (hb hby d_prog_9_method_33_code_25) ?_; exact k) ?_
        show OwnEnd _ _ _ _ _ _ _ (s₁.setTop (mkF m 27 #[.val (.int p0)] [(.int (95 : Int32)), (.int p0)]))
        by_cases hc27_8 : p0 = (95 : Int32)
        · refine go (fun _ k => by refine XS.icmpNo X0.here hx rfl (hb hby d_prog_9_method_33_code_27) rfl (teq hc27_8).2 ?_; exact k) ?_
          show OwnEnd _ _ _ _ _ _ _ (s₁.setTop (mkF m 30 #[.val (.int p0)] []))
          refine go (fun _ k => by refine XS.iconst X0.here hx rfl (hb hby d_prog_9_method_33_code_30) ?_; exact k) ?_
          refine go (fun _ k => by refine XS.goto X0.here hx rfl (pc0 := 31) (pc' := 35) rfl (hb hby d_prog_9_method_33_code_31) (by decide) (by decide) ?_; exact k) ?_
          show OwnEnd _ _ _ _ _ _ _ (s₁.setTop (mkF m 35 #[.val (.int p0)] [(.int (1 : Int32))]))
          refine endN X0 hx hlk (t := .boolean) (by simp) Bd.returns (hb hby d_prog_9_method_33_code_35) e0 (by decide) (by decide) ?_
          exact ⟨by rw [if_pos (by simp only [Int32.lt_iff_toInt_lt, ← Int32.toInt_inj, Int32.reduceToInt] at *; omega)]; rfl, N0, rfl⟩
        · refine go (fun _ k => by refine XS.icmpYes X0.here hx rfl (pc0 := 27) (pc' := 34) rfl (hb hby d_prog_9_method_33_code_27) rfl (feq hc27_8).2 (by decide) (by decide) ?_; exact k) ?_
          show OwnEnd _ _ _ _ _ _ _ (s₁.setTop (mkF m 34 #[.val (.int p0)] []))
          refine go (fun _ k => by refine XS.iconst X0.here hx rfl (hb hby d_prog_9_method_33_code_34) ?_; exact k) ?_
          show OwnEnd _ _ _ _ _ _ _ (s₁.setTop (mkF m 35 #[.val (.int p0)] [(.int (0 : Int32))]))
          refine endN X0 hx hlk (t := .boolean) (by simp) Bd.returns (hb hby d_prog_9_method_33_code_35) e0 (by decide) (by decide) ?_
          exact ⟨by rw [if_neg (by simp only [Int32.lt_iff_toInt_lt, ← Int32.toInt_inj, Int32.reduceToInt] at *; omega)]; rfl, N0, rfl⟩
      · refine go (fun _ k => by refine XS.icmpNo X0.here hx rfl (hb hby d_prog_9_method_33_code_15) rfl (flt hc15_7).1 ?_; exact k) ?_
        show OwnEnd _ _ _ _ _ _ _ (s₁.setTop (mkF m 18 #[.val (.int p0)] []))
        refine go (fun _ k => by refine XS.iloadN X0.here hx rfl (hb hby d_prog_9_method_33_code_18) rfl ?_; exact k) ?_
        refine go (fun _ k => by refine XS.bipush X0.here hx rfl (hb hby d_prog_9_method_33_code_19) ?_; exact k) ?_
        show OwnEnd _ _ _ _ _ _ _ (s₁.setTop (mkF m 21 #[.val (.int p0)] [(.int (122 : Int32)), (.int p0)]))
        by_cases hc21_9 : (122 : Int32) < p0
        · refine go (fun _ k => by refine XS.icmpNo X0.here hx rfl (hb hby d_prog_9_method_33_code_21) rfl (tlt hc21_9).2.2.2 ?_; exact k) ?_
          show OwnEnd _ _ _ _ _ _ _ (s₁.setTop (mkF m 24 #[.val (.int p0)] []))
          refine go (fun _ k => by refine XS.iloadN X0.here hx rfl (hb hby d_prog_9_method_33_code_24) rfl ?_; exact k) ?_
          refine go (fun _ k => by refine XS.bipush X0.here hx rfl (hb hby d_prog_9_method_33_code_25) ?_; exact k) ?_
          show OwnEnd _ _ _ _ _ _ _ (s₁.setTop (mkF m 27 #[.val (.int p0)] [(.int (95 : Int32)), (.int p0)]))
          by_cases hc27_10 : p0 = (95 : Int32)
          · refine go (fun _ k => by refine XS.icmpNo X0.here hx rfl (hb hby d_prog_9_method_33_code_27) rfl (teq hc27_10).2 ?_; exact k) ?_
            show OwnEnd _ _ _ _ _ _ _ (s₁.setTop (mkF m 30 #[.val (.int p0)] []))
            refine go (fun _ k => by refine XS.iconst X0.here hx rfl (hb hby d_prog_9_method_33_code_30) ?_; exact k) ?_
            refine go (fun _ k => by refine XS.goto X0.here hx rfl (pc0 := 31) (pc' := 35) rfl (hb hby d_prog_9_method_33_code_31) (by decide) (by decide) ?_; exact k) ?_
            show OwnEnd _ _ _ _ _ _ _ (s₁.setTop (mkF m 35 #[.val (.int p0)] [(.int (1 : Int32))]))
            refine endN X0 hx hlk (t := .boolean) (by simp) Bd.returns (hb hby d_prog_9_method_33_code_35) e0 (by decide) (by decide) ?_
            exact ⟨by rw [if_pos (by simp only [Int32.lt_iff_toInt_lt, ← Int32.toInt_inj, Int32.reduceToInt] at *; omega)]; rfl, N0, rfl⟩
          · refine go (fun _ k => by refine XS.icmpYes X0.here hx rfl (pc0 := 27) (pc' := 34) rfl (hb hby d_prog_9_method_33_code_27) rfl (feq hc27_10).2 (by decide) (by decide) ?_; exact k) ?_
            show OwnEnd _ _ _ _ _ _ _ (s₁.setTop (mkF m 34 #[.val (.int p0)] []))
            refine go (fun _ k => by refine XS.iconst X0.here hx rfl (hb hby d_prog_9_method_33_code_34) ?_; exact k) ?_
            show OwnEnd _ _ _ _ _ _ _ (s₁.setTop (mkF m 35 #[.val (.int p0)] [(.int (0 : Int32))]))
            refine endN X0 hx hlk (t := .boolean) (by simp) Bd.returns (hb hby d_prog_9_method_33_code_35) e0 (by decide) (by decide) ?_
            exact ⟨by rw [if_neg (by simp only [Int32.lt_iff_toInt_lt, ← Int32.toInt_inj, Int32.reduceToInt] at *; omega)]; rfl, N0, rfl⟩
        · refine go (fun _ k => by refine XS.icmpYes X0.here hx rfl (pc0 := 21) (pc' := 30) rfl (hb hby d_prog_9_method_33_code_21) rfl (flt hc21_9).2.2.2 (by decide) (by decide) ?_; exact k) ?_
          show OwnEnd _ _ _ _ _ _ _ (s₁.setTop (mkF m 30 #[.val (.int p0)] []))
          refine go (fun _ k => by refine XS.iconst X0.here hx rfl (hb hby d_prog_9_method_33_code_30) ?_; exact k) ?_
          refine go (fun _ k => by refine XS.goto X0.here hx rfl (pc0 := 31) (pc' := 35) rfl (hb hby d_prog_9_method_33_code_31) (by decide) (by decide) ?_; exact k) ?_
          show OwnEnd _ _ _ _ _ _ _ (s₁.setTop (mkF m 35 #[.val (.int p0)] [(.int (1 : Int32))]))
          refine endN X0 hx hlk (t := .boolean) (by simp) Bd.returns (hb hby d_prog_9_method_33_code_35) e0 (by decide) (by decide) ?_
          exact ⟨by rw [if_pos (by simp only [Int32.lt_iff_toInt_lt, ← Int32.toInt_inj, Int32.reduceToInt] at *; omega)]; rfl, N0, rfl⟩
    · refine go (fun _ k => by refine XS.icmpYes X0.here hx rfl (pc0 := 9) (pc' := 30) rfl (hb hby d_prog_9_method_33_code_9) rfl (flt hc9_6).2.2.2 (by decide) (by decide) ?_; exact k) ?_
      show OwnEnd _ _ _ _ _ _ _ (s₁.setTop (mkF m 30 #[.val (.int p0)] []))
      refine go (fun _ k => by refine XS.iconst X0.here hx rfl (hb hby d_prog_9_method_33_code_30) ?_; exact k) ?_
      refine go (fun _ k => by refine XS.goto X0.here hx rfl (pc0 := 31) (pc' := 35) rfl (hb hby d_prog_9_method_33_code_31) (by decide) (by decide) ?_; exact k) ?_
      show OwnEnd _ _ _ _ _ _ _ (s₁.setTop (mkF m 35 #[.val (.int p0)] [(.int (1 : Int32))]))
      refine endN X0 hx hlk (t := .boolean) (by simp) Bd.returns (hb hby d_prog_9_method_33_code_35) e0 (by decide) (by decide) ?_
      exact ⟨by rw [if_pos (by simp only [Int32.lt_iff_toInt_lt, ← Int32.toInt_inj, Int32.reduceToInt] at *; omega)]; rfl, N0, rfl⟩
theorem d_prog_9_method_34_code_0 : decode prog_9_method_34_code 0 = .ok (.iload_n 0, 1) := by decide +kernel
theorem d_prog_9_method_34_code_1 : decode prog_9_method_34_code 1 = .ok (.invokestatic 136, 3) := by decide +kernel
theorem pd__I_Z : parseMethodDescriptor "(I)Z" = some ⟨[.int], some .boolean⟩ := by decide +kernel
theorem d_prog_9_method_34_code_4 : decode prog_9_method_34_code 4 = .ok (.ifCond .ne 10, 3) := by decide +kernel
theorem d_prog_9_method_34_code_7 : decode prog_9_method_34_code 7 = .ok (.iload_n 0, 1) := by decide +kernel
theorem d_prog_9_method_34_code_8 : decode prog_9_method_34_code 8 = .ok (.invokestatic 574, 3) := by decide +kernel
theorem d_prog_9_method_34_code_11 : decode prog_9_method_34_code 11 = .ok (.ifCond .eq 7, 3) := by decide +kernel
theorem d_prog_9_method_34_code_18 : decode prog_9_method_34_code 18 = .ok (.iconst 0, 1) := by decide +kernel
theorem d_prog_9_method_34_code_19 : decode prog_9_method_34_code 19 = .ok (.ireturn, 1) := by decide +kernel
theorem d_prog_9_method_34_code_14 : decode prog_9_method_34_code 14 = .ok (.iconst 1, 1) := by decide +kernel
theorem d_prog_9_method_34_code_15 : decode prog_9_method_34_code 15 = .ok (.goto 4, 3) := by decide +kernel
theorem ef_rm_part (m : MethodId) (y0 : Int32) : entryFrame m #[(.int y0)] 1 = mkF m 0 #[.val (.int y0)] [] := by first | (simp [entryFrame, mkF, argsToLocals, Value.category]; done) | rfl
def Q_rm_part (Z : State) (p0 : Int32) (h0 : Heap) (n0 : Nat) (v : Option Value) (h : Heap) (L : List Loc) : Prop := v = some (.int (if own_st p0 ∨ own_dig p0 then (1 : Int32) else 0)) ∧ Fr n0 L ∧ h = h0
set_option maxRecDepth 65536 in
set_option maxHeartbeats 40000000 in
theorem rm_part (l : Launch) (Z : State) (a0 : Array Value) (hw : ∀ d ∈ tables_1, d.before a0 Z = true) (ws : List Jvm.Cond) (p0 : Int32) (h0 : Heap) (n0 : Nat) :
    MetFree l (⟨"com/example/minder/minder/io/ViewReader", "isNamePart", "(I)Z"⟩ : MethodName) (head1 (Jvm.Cond.code (⟨"com/example/minder/minder/io/ViewReader", "isNamePart", "(I)Z"⟩ : MethodName) prog_9_method_34_code 1 (some .boolean) :: ws) ({ frames := 1, cells := 0, slots := 0, locals := 12 } : Room)) (fun a U => a = #[(.int p0)] ∧ Z.Warmed39 U.vm ∧ U.heap = h0) (fun _ _ _ _ _ => True) (fun _ U o U' => ∃ v L, o = .returned v ∧ Q_rm_part Z p0 h0 n0 v U'.heap L ∧ FrameEnd U o U' L 0 0) := by
  refine MetFree.of_bodySF (plainFor_of_name pn_com_example_minder_minder_io_ViewReader) hisR ?_
  intro p e s m args below meth c s₁ Bd hml0 hP hK
  obtain ⟨rfl, hZ, hh⟩ := hP
  have hx := Bd.exec
  have hby := Bd.bytes
  have hlk := Bd.notSynchronized
  have hml : c.maxLocals = 1 := hml0
  have hown : s.vm.findClass "com/example/minder/minder/io/ViewReader" = some m.cls := findClass_of_methodNamed Bd.named
  have hnm := (name_of_methodNamed Bd.named Bd.method).1
  have X0 : Stand p l e ({ frames := 1, cells := 0, slots := 0, locals := 12 } : Room) s m #[(.int p0)] below meth c s₁ [] 0 0 := Stand.of_body Bd
  have e0 : s₁.heap = h0 := by rw [← hh, Bd.state]; rfl
  have N0 := Fr.nil n0
  show OwnEnd p e below s (Q_rm_part Z p0 h0 n0) 0 0 (s₁.setTop (entryFrame m #[(.int p0)] 1))
  refine go (fun t k => castTop (ef_rm_part m p0) k) ?_
  show OwnEnd _ _ _ _ _ _ _ (s₁.setTop (mkF m 0 #[.val (.int p0)] []))
  refine go (fun _ k => by refine XS.iloadN X0.here hx rfl (hb hby d_prog_9_method_34_code_0) rfl ?_; exact k) ?_
  show OwnEnd _ _ _ _ _ _ _ (s₁.setTop (mkF m 1 #[.val (.int p0)] [(.int p0)]))
  obtain ⟨_, T1, L1, X1, hQ1, st1⟩ := callStat X0 hx hZ hown (hw _ (List.mem_of_getElem? (i := 4) rfl)) (hw _ (List.mem_of_getElem? (i := 5) rfl)) (hw _ (List.mem_of_getElem? (i := 2) rfl)) (hw _ (List.mem_of_getElem? (i := 6) rfl)) (by decide) (rm_start l Z a0 hw [] p0 h0 n0 ) (W := 0) (by decide) (by decide) e0 (g := (mkF m 1 #[.val (.int p0)] [(.int p0)])) rfl (by rw [hml]; rfl) (argsL := [(.int p0)]) (rest := []) rfl (lenOf pd__I_Z rfl) rfl (by show 2 * 0 + _ ≤ _; exact Nat.le_of_eq rfl) (hb hby d_prog_9_method_34_code_1) (by decide) (by decide)
  obtain ⟨rfl, Nq1, eq1⟩ := hQ1
  have N1 := Fr.app N0 Nq1
  refine go st1 ?_
  show OwnEnd _ _ _ _ _ _ _ (T1.setTop (mkF m 4 #[.val (.int p0)] [(.int (if own_st p0 then (1 : Int32) else 0))]))
  by_cases hc4_2 : (if own_st p0 then (1 : Int32) else 0) = (0 : Int32)
  · refine go (fun _ k => by refine XS.ifNo X1.here hx rfl (hb hby d_prog_9_method_34_code_4) rfl ((if0 _ _).trans (teq hc4_2).2) ?_; exact k) ?_
    show OwnEnd _ _ _ _ _ _ _ (T1.setTop (mkF m 7 #[.val (.int p0)] []))
    refine go (fun _ k => by refine XS.iloadN X1.here hx rfl (hb hby d_prog_9_method_34_code_7) rfl ?_; exact k) ?_
    show OwnEnd _ _ _ _ _ _ _ (T1.setTop (mkF m 8 #[.val (.int p0)] [(.int p0)]))
    obtain ⟨_, T3, L3, X3, hQ3, st3⟩ := callStat X1 hx hZ hown (hw _ (List.mem_of_getElem? (i := 7) rfl)) (hw _ (List.mem_of_getElem? (i := 8) rfl)) (hw _ (List.mem_of_getElem? (i := 2) rfl)) (hw _ (List.mem_of_getElem? (i := 9) rfl)) (by decide) (rm_dig l Z a0 hw [] p0 h0 n0 ) (W := 0) (by decide) (by decide) eq1 (g := (mkF m 8 #[.val (.int p0)] [(.int p0)])) rfl (by rw [hml]; rfl) (argsL := [(.int p0)]) (rest := []) rfl (lenOf pd__I_Z rfl) rfl (by show 2 * 0 + _ ≤ _; exact Nat.le_of_eq rfl) (hb hby d_prog_9_method_34_code_8) (by decide) (by decide)
    obtain ⟨rfl, Nq3, eq3⟩ := hQ3
    have N3 := Fr.app N1 Nq3
    refine go st3 ?_
    show OwnEnd _ _ _ _ _ _ _ (T3.setTop (mkF m 11 #[.val (.int p0)] [(.int (if own_dig p0 then (1 : Int32) else 0))]))
    by_cases hc11_4 : (if own_dig p0 then (1 : Int32) else 0) = (0 : Int32)
    · refine go (fun _ k => by refine XS.ifYes X3.here hx rfl (pc0 := 11) (pc' := 18) rfl (hb hby d_prog_9_method_34_code_11) rfl ((if0 _ _).trans (teq hc11_4).1) (by decide) (by decide) ?_; exact k) ?_
      show OwnEnd _ _ _ _ _ _ _ (T3.setTop (mkF m 18 #[.val (.int p0)] []))
      refine go (fun _ k => by refine XS.iconst X3.here hx rfl (hb hby d_prog_9_method_34_code_18) ?_; exact k) ?_
      show OwnEnd _ _ _ _ _ _ _ (T3.setTop (mkF m 19 #[.val (.int p0)] [(.int (0 : Int32))]))
      refine endN X3 hx hlk (t := .boolean) (by simp) Bd.returns (hb hby d_prog_9_method_34_code_19) eq3 (by decide) (by decide) ?_
      exact ⟨by rw [if_neg (fun y => y.elim (own_f hc4_2) (own_f hc11_4))]; rfl, N3, rfl⟩
    · refine go (fun _ k => by refine XS.ifNo X3.here hx rfl (hb hby d_prog_9_method_34_code_11) rfl ((if0 _ _).trans (feq hc11_4).1) ?_; exact k) ?_
      show OwnEnd _ _ _ _ _ _ _ (T3.setTop (mkF m 14 #[.val (.int p0)] []))
      refine go (fun _ k => by refine XS.iconst X3.here hx rfl (hb hby d_prog_9_method_34_code_14) ?_; exact k) ?_
      refine go (fun _ k => by refine XS.goto X3.here hx rfl (pc0 := 15) (pc' := 19) rfl (hb hby d_prog_9_method_34_code_15) (by decide) (by decide) ?_; exact k) ?_
      show OwnEnd _ _ _ _ _ _ _ (T3.setTop (mkF m 19 #[.val (.int p0)] [(.int (1 : Int32))]))
      refine endN X3 hx hlk (t := .boolean) (by simp) Bd.returns (hb hby d_prog_9_method_34_code_19) eq3 (by decide) (by decide) ?_
      exact ⟨by rw [if_pos (Or.inr (own_t hc11_4))]; rfl, N3, rfl⟩
  · refine go (fun _ k => by refine XS.ifYes X1.here hx rfl (pc0 := 4) (pc' := 14) rfl (hb hby d_prog_9_method_34_code_4) rfl ((if0 _ _).trans (feq hc4_2).2) (by decide) (by decide) ?_; exact k) ?_
    show OwnEnd _ _ _ _ _ _ _ (T1.setTop (mkF m 14 #[.val (.int p0)] []))
    refine go (fun _ k => by refine XS.iconst X1.here hx rfl (hb hby d_prog_9_method_34_code_14) ?_; exact k) ?_
    refine go (fun _ k => by refine XS.goto X1.here hx rfl (pc0 := 15) (pc' := 19) rfl (hb hby d_prog_9_method_34_code_15) (by decide) (by decide) ?_; exact k) ?_
    show OwnEnd _ _ _ _ _ _ _ (T1.setTop (mkF m 19 #[.val (.int p0)] [(.int (1 : Int32))]))
    refine endN X1 hx hlk (t := .boolean) (by simp) Bd.returns (hb hby d_prog_9_method_34_code_19) eq1 (by decide) (by decide) ?_
    exact ⟨by rw [if_pos (Or.inl (own_t hc4_2))]; rfl, N1, rfl⟩
theorem d_method_2_code_0 : decode method_2_code 0 = .ok (.iload_n 0, 1) := by decide +kernel
theorem d_method_2_code_1 : decode method_2_code 1 = .ok (.bipush 32, 2) := by decide +kernel
theorem d_method_2_code_3 : decode method_2_code 3 = .ok (.ior, 1) := by decide +kernel
theorem d_method_2_code_4 : decode method_2_code 4 = .ok (.istore_n 1, 1) := by decide +kernel
theorem d_method_2_code_5 : decode method_2_code 5 = .ok (.iload_n 1, 1) := by decide +kernel
theorem d_method_2_code_6 : decode method_2_code 6 = .ok (.bipush 97, 2) := by decide +kernel
theorem d_method_2_code_8 : decode method_2_code 8 = .ok (.if_icmp .lt 13, 3) := by decide +kernel
theorem d_method_2_code_21 : decode method_2_code 21 = .ok (.iconst 0, 1) := by decide +kernel
theorem d_method_2_code_11 : decode method_2_code 11 = .ok (.iload_n 1, 1) := by decide +kernel
theorem d_method_2_code_12 : decode method_2_code 12 = .ok (.bipush 122, 2) := by decide +kernel
theorem d_method_2_code_14 : decode method_2_code 14 = .ok (.if_icmp .gt 7, 3) := by decide +kernel
theorem d_method_2_code_17 : decode method_2_code 17 = .ok (.iconst 1, 1) := by decide +kernel
theorem d_method_2_code_18 : decode method_2_code 18 = .ok (.goto 4, 3) := by decide +kernel
theorem d_method_2_code_22 : decode method_2_code 22 = .ok (.istore_n 2, 1) := by decide +kernel
theorem d_method_2_code_23 : decode method_2_code 23 = .ok (.iload_n 0, 1) := by decide +kernel
theorem d_method_2_code_24 : decode method_2_code 24 = .ok (.i2l, 1) := by decide +kernel
theorem d_method_2_code_25 : decode method_2_code 25 = .ok (.ldc2_w 7, 3) := by decide +kernel
theorem d_method_2_code_28 : decode method_2_code 28 = .ok (.lsub, 1) := by decide +kernel
theorem d_method_2_code_29 : decode method_2_code 29 = .ok (.lstore_n 3, 1) := by decide +kernel
theorem d_method_2_code_30 : decode method_2_code 30 = .ok (.lload_n 3, 1) := by decide +kernel
theorem d_method_2_code_31 : decode method_2_code 31 = .ok (.lconst 0, 1) := by decide +kernel
theorem d_method_2_code_32 : decode method_2_code 32 = .ok (.lcmp, 1) := by decide +kernel
theorem d_method_2_code_33 : decode method_2_code 33 = .ok (.ifCond .lt 15, 3) := by decide +kernel
theorem d_method_2_code_48 : decode method_2_code 48 = .ok (.iconst 0, 1) := by decide +kernel
theorem d_method_2_code_36 : decode method_2_code 36 = .ok (.lload_n 3, 1) := by decide +kernel
theorem d_method_2_code_37 : decode method_2_code 37 = .ok (.ldc2_w 9, 3) := by decide +kernel
theorem d_method_2_code_40 : decode method_2_code 40 = .ok (.lcmp, 1) := by decide +kernel
theorem d_method_2_code_41 : decode method_2_code 41 = .ok (.ifCond .ge 7, 3) := by decide +kernel
theorem d_method_2_code_44 : decode method_2_code 44 = .ok (.iconst 1, 1) := by decide +kernel
theorem d_method_2_code_45 : decode method_2_code 45 = .ok (.goto 4, 3) := by decide +kernel
theorem d_method_2_code_49 : decode method_2_code 49 = .ok (.istore 5, 2) := by decide +kernel
theorem d_method_2_code_51 : decode method_2_code 51 = .ok (.iload_n 0, 1) := by decide +kernel
theorem d_method_2_code_52 : decode method_2_code 52 = .ok (.bipush 95, 2) := by decide +kernel
theorem d_method_2_code_54 : decode method_2_code 54 = .ok (.if_icmp .ne 7, 3) := by decide +kernel
theorem d_method_2_code_57 : decode method_2_code 57 = .ok (.iconst 1, 1) := by decide +kernel
theorem d_method_2_code_58 : decode method_2_code 58 = .ok (.goto 4, 3) := by decide +kernel
theorem d_method_2_code_61 : decode method_2_code 61 = .ok (.iconst 0, 1) := by decide +kernel
theorem d_method_2_code_62 : decode method_2_code 62 = .ok (.istore 6, 2) := by decide +kernel
theorem d_method_2_code_64 : decode method_2_code 64 = .ok (.iload_n 2, 1) := by decide +kernel
theorem d_method_2_code_65 : decode method_2_code 65 = .ok (.ifCond .ne 13, 3) := by decide +kernel
theorem d_method_2_code_68 : decode method_2_code 68 = .ok (.iload 5, 2) := by decide +kernel
theorem d_method_2_code_70 : decode method_2_code 70 = .ok (.ifCond .ne 8, 3) := by decide +kernel
theorem d_method_2_code_73 : decode method_2_code 73 = .ok (.iload 6, 2) := by decide +kernel
theorem d_method_2_code_75 : decode method_2_code 75 = .ok (.ifCond .eq 7, 3) := by decide +kernel
theorem d_method_2_code_82 : decode method_2_code 82 = .ok (.iconst 0, 1) := by decide +kernel
theorem d_method_2_code_83 : decode method_2_code 83 = .ok (.ireturn, 1) := by decide +kernel
theorem d_method_2_code_78 : decode method_2_code 78 = .ok (.iconst 1, 1) := by decide +kernel
theorem d_method_2_code_79 : decode method_2_code 79 = .ok (.goto 4, 3) := by decide +kernel
theorem pn_com_example_minder_minder_io_ViewReaderIsNamePartPinLaw : plainName "com/example/minder/minder/io/ViewReaderIsNamePartPinLaw" = true := by first | (simp [plainName, overriddenIn]; done) | decide +kernel
theorem ef_rm_exp (m : MethodId) (y0 : Int32) : entryFrame m #[(.int y0)] 7 = mkF m 0 #[.val (.int y0), .unset, .unset, .unset, .unset, .unset, .unset] [] := by first | (simp [entryFrame, mkF, argsToLocals, Value.category]; done) | rfl
def Q_rm_exp (Z : State) (p0 : Int32) (h0 : Heap) (n0 : Nat) (v : Option Value) (h : Heap) (L : List Loc) : Prop := v = some (.int (if own_st p0 ∨ own_dig p0 then (1 : Int32) else 0)) ∧ Fr n0 L ∧ h = h0
set_option maxRecDepth 65536 in
set_option maxHeartbeats 40000000 in
theorem rm_exp (l : Launch) (Z : State) (a0 : Array Value) (hw : ∀ d ∈ tables_1, d.before a0 Z = true) (ws : List Jvm.Cond) (p0 : Int32) (h0 : Heap) (n0 : Nat) :
    MetFree l (⟨"com/example/minder/minder/io/ViewReaderIsNamePartPinLaw", "expected", "(I)Z"⟩ : MethodName) (head1 (Jvm.Cond.code (⟨"com/example/minder/minder/io/ViewReaderIsNamePartPinLaw", "expected", "(I)Z"⟩ : MethodName) method_2_code 7 (some .boolean) :: ws) ({ frames := 0, cells := 0, slots := 0, locals := 0 } : Room)) (fun a U => a = #[(.int p0)] ∧ Z.Warmed39 U.vm ∧ U.heap = h0) (fun _ _ _ _ _ => True) (fun _ U o U' => ∃ v L, o = .returned v ∧ Q_rm_exp Z p0 h0 n0 v U'.heap L ∧ FrameEnd U o U' L 0 0) := by
  refine MetFree.of_bodySF (plainFor_of_name pn_com_example_minder_minder_io_ViewReaderIsNamePartPinLaw) hisR ?_
  intro p e s m args below meth c s₁ Bd hml0 hP hK
  obtain ⟨rfl, hZ, hh⟩ := hP
  have hx := Bd.exec
  have hby := Bd.bytes
  have hlk := Bd.notSynchronized
  have hml : c.maxLocals = 7 := hml0
  have hown : s.vm.findClass "com/example/minder/minder/io/ViewReaderIsNamePartPinLaw" = some m.cls := findClass_of_methodNamed Bd.named
  have hnm := (name_of_methodNamed Bd.named Bd.method).1
  have X0 : Stand p l e ({ frames := 0, cells := 0, slots := 0, locals := 0 } : Room) s m #[(.int p0)] below meth c s₁ [] 0 0 := Stand.of_body Bd
  have e0 : s₁.heap = h0 := by rw [← hh, Bd.state]; rfl
  have N0 := Fr.nil n0
  show OwnEnd p e below s (Q_rm_exp Z p0 h0 n0) 0 0 (s₁.setTop (entryFrame m #[(.int p0)] 7))
  refine go (fun t k => castTop (ef_rm_exp m p0) k) ?_
  show OwnEnd _ _ _ _ _ _ _ (s₁.setTop (mkF m 0 (fL0 p0) []))
  refine go (fun _ k => by refine XS.iloadN X0.here hx rfl (hb hby d_method_2_code_0) rfl ?_; exact k) ?_
  refine go (fun _ k => by refine XS.bipush X0.here hx rfl (hb hby d_method_2_code_1) ?_; exact k) ?_
  refine go (fun _ k => by refine XS.ior X0.here hx rfl (hb hby d_method_2_code_3) rfl ?_; exact k) ?_
  refine go (fun _ k => by refine XS.istoreN X0.here hx rfl (hb hby d_method_2_code_4) rfl (l' := (fL1 p0 (p0 ||| (32 : Int32)))) rfl ?_; exact k) ?_
  show OwnEnd _ _ _ _ _ _ _ (s₁.setTop (mkF m 5 (fL1 p0 (p0 ||| (32 : Int32))) []))
  generalize qx1 : (p0 ||| (32 : Int32)) = x1
  show OwnEnd _ _ _ _ _ _ _ (s₁.setTop (mkF m 5 (fL1 p0 x1) []))
  refine go (fun _ k => by refine XS.iloadN X0.here hx rfl (hb hby d_method_2_code_5) rfl ?_; exact k) ?_
  refine go (fun _ k => by refine XS.bipush X0.here hx rfl (hb hby d_method_2_code_6) ?_; exact k) ?_
  show OwnEnd _ _ _ _ _ _ _ (s₁.setTop (mkF m 8 (fL1 p0 x1) [(.int (97 : Int32)), (.int x1)]))
  have J4 : ∀ (x4_s0 : Int32) (qx4_s0 : x4_s0 = (if x1 < (97 : Int32) then (0 : Int32) else (if (122 : Int32) < x1 then (0 : Int32) else (1 : Int32)))), OwnEnd p e below s (Q_rm_exp Z p0 h0 n0) 0 0 (s₁.setTop (mkF m 22 (fL1 p0 x1) [(.int x4_s0)])) := by
    intro x4_s0 qx4_s0
    show OwnEnd _ _ _ _ _ _ _ (s₁.setTop (mkF m 22 (fL1 p0 x1) [(.int x4_s0)]))
    refine go (fun _ k => by refine XS.istoreN X0.here hx rfl (hb hby d_method_2_code_22) rfl (l' := (fL2 p0 x1 x4_s0)) rfl ?_; exact k) ?_
    refine go (fun _ k => by refine XS.iloadN X0.here hx rfl (hb hby d_method_2_code_23) rfl ?_; exact k) ?_
    refine go (fun _ k => by refine XS.i2l X0.here hx rfl (hb hby d_method_2_code_24) rfl ?_; exact k) ?_
    show OwnEnd _ _ _ _ _ _ _ (s₁.setTop (mkF m 25 (fL2 p0 x1 x4_s0) [(.long (p0.toInt64))]))
    refine go (X0.ldc2Long hx hown (mvT hZ (hw _ (List.mem_of_getElem? (i := 14) rfl))) (g := (mkF m 25 (fL2 p0 x1 x4_s0) [(.long (p0.toInt64))])) rfl (hb hby d_method_2_code_25)) ?_
    refine go (fun _ k => by refine XS.lsub X0.here hx rfl (hb hby d_method_2_code_28) rfl ?_; exact k) ?_
    refine go (fun _ k => by refine XS.lstoreN X0.here hx rfl (hb hby d_method_2_code_29) rfl (l' := (fL3 p0 x1 x4_s0 ((p0.toInt64) - (48 : Int64)))) rfl ?_; exact k) ?_
    show OwnEnd _ _ _ _ _ _ _ (s₁.setTop (mkF m 30 (fL3 p0 x1 x4_s0 ((p0.toInt64) - (48 : Int64))) []))
    generalize qx5 : ((p0.toInt64) - (48 : Int64)) = x5
    refine go (fun _ k => by refine XS.lloadN X0.here hx rfl (hb hby d_method_2_code_30) rfl ?_; exact k) ?_
    show OwnEnd _ _ _ _ _ _ _ (s₁.setTop (mkF m 31 (fL3 p0 x1 x4_s0 x5) [(.long x5)]))
    refine go (fun _ k => by refine XS.lconst X0.here hx rfl (hb hby d_method_2_code_31) ?_; exact k) ?_
    refine go (fun _ k => by refine XS.lcmp X0.here hx rfl (hb hby d_method_2_code_32) rfl ?_; exact k) ?_
    show OwnEnd _ _ _ _ _ _ _ (s₁.setTop (mkF m 33 (fL3 p0 x1 x4_s0 x5) [(.int (lcmpW x5 (0 : Int64)))]))
    have J8 : ∀ (x8_s0 : Int32) (qx8_s0 : x8_s0 = (if x5 < (0 : Int64) then (0 : Int32) else (if x5 < (10 : Int64) then (1 : Int32) else (0 : Int32)))), OwnEnd p e below s (Q_rm_exp Z p0 h0 n0) 0 0 (s₁.setTop (mkF m 49 (fL3 p0 x1 x4_s0 x5) [(.int x8_s0)])) := by
      intro x8_s0 qx8_s0
      show OwnEnd _ _ _ _ _ _ _ (s₁.setTop (mkF m 49 (fL3 p0 x1 x4_s0 x5) [(.int x8_s0)]))
      refine go (fun _ k => by refine XS.istore X0.here hx rfl (hb hby d_method_2_code_49) rfl (l' := (fL4 p0 x1 x4_s0 x5 x8_s0)) rfl ?_; exact k) ?_
      refine go (fun _ k => by refine XS.iloadN X0.here hx rfl (hb hby d_method_2_code_51) rfl ?_; exact k) ?_
      refine go (fun _ k => by refine XS.bipush X0.here hx rfl (hb hby d_method_2_code_52) ?_; exact k) ?_
      show OwnEnd _ _ _ _ _ _ _ (s₁.setTop (mkF m 54 (fL4 p0 x1 x4_s0 x5 x8_s0) [(.int (95 : Int32)), (.int p0)]))
      have J10 : ∀ (x10_s0 : Int32) (qx10_s0 : x10_s0 = (if p0 = (95 : Int32) then (1 : Int32) else (0 : Int32))), OwnEnd p e below s (Q_rm_exp Z p0 h0 n0) 0 0 (s₁.setTop (mkF m 62 (fL4 p0 x1 x4_s0 x5 x8_s0) [(.int x10_s0)])) := by
        intro x10_s0 qx10_s0
        show OwnEnd _ _ _ _ _ _ _ (s₁.setTop (mkF m 62 (fL4 p0 x1 x4_s0 x5 x8_s0) [(.int x10_s0)]))
        refine go (fun _ k => by refine XS.istore X0.here hx rfl (hb hby d_method_2_code_62) rfl (l' := (fL5 p0 x1 x4_s0 x5 x8_s0 x10_s0)) rfl ?_; exact k) ?_
        refine go (fun _ k => by refine XS.iloadN X0.here hx rfl (hb hby d_method_2_code_64) rfl ?_; exact k) ?_
        show OwnEnd _ _ _ _ _ _ _ (s₁.setTop (mkF m 65 (fL5 p0 x1 x4_s0 x5 x8_s0 x10_s0) [(.int x4_s0)]))
        by_cases hc65_11 : x4_s0 = (0 : Int32)
        · refine go (fun _ k => by refine XS.ifNo X0.here hx rfl (hb hby d_method_2_code_65) rfl ((if0 _ _).trans (teq hc65_11).2) ?_; exact k) ?_
          show OwnEnd _ _ _ _ _ _ _ (s₁.setTop (mkF m 68 (fL5 p0 x1 x4_s0 x5 x8_s0 x10_s0) []))
          refine go (fun _ k => by refine XS.iload X0.here hx rfl (hb hby d_method_2_code_68) rfl ?_; exact k) ?_
          show OwnEnd _ _ _ _ _ _ _ (s₁.setTop (mkF m 70 (fL5 p0 x1 x4_s0 x5 x8_s0 x10_s0) [(.int x8_s0)]))
          by_cases hc70_12 : x8_s0 = (0 : Int32)
          · refine go (fun _ k => by refine XS.ifNo X0.here hx rfl (hb hby d_method_2_code_70) rfl ((if0 _ _).trans (teq hc70_12).2) ?_; exact k) ?_
            show OwnEnd _ _ _ _ _ _ _ (s₁.setTop (mkF m 73 (fL5 p0 x1 x4_s0 x5 x8_s0 x10_s0) []))
            refine go (fun _ k => by refine XS.iload X0.here hx rfl (hb hby d_method_2_code_73) rfl ?_; exact k) ?_
            show OwnEnd _ _ _ _ _ _ _ (s₁.setTop (mkF m 75 (fL5 p0 x1 x4_s0 x5 x8_s0 x10_s0) [(.int x10_s0)]))
            by_cases hc75_13 : x10_s0 = (0 : Int32)
            · refine go (fun _ k => by refine XS.ifYes X0.here hx rfl (pc0 := 75) (pc' := 82) rfl (hb hby d_method_2_code_75) rfl ((if0 _ _).trans (teq hc75_13).1) (by decide) (by decide) ?_; exact k) ?_
              show OwnEnd _ _ _ _ _ _ _ (s₁.setTop (mkF m 82 (fL5 p0 x1 x4_s0 x5 x8_s0 x10_s0) []))
              refine go (fun _ k => by refine XS.iconst X0.here hx rfl (hb hby d_method_2_code_82) ?_; exact k) ?_
              show OwnEnd _ _ _ _ _ _ _ (s₁.setTop (mkF m 83 (fL5 p0 x1 x4_s0 x5 x8_s0 x10_s0) [(.int (0 : Int32))]))
              refine endN X0 hx hlk (t := .boolean) (by simp) Bd.returns (hb hby d_method_2_code_83) e0 (by decide) (by decide) ?_
              exact ⟨by rw [if_neg (fun y => y.elim (fun y => y.elim ((own_l1 _ _ _ qx1 qx4_s0).1 hc65_11) ((own_u1 _ _ qx10_s0).1 hc75_13)) ((own_d1 _ _ _ qx5 qx8_s0).1 hc70_12))]; rfl, N0, rfl⟩
            · refine go (fun _ k => by refine XS.ifNo X0.here hx rfl (hb hby d_method_2_code_75) rfl ((if0 _ _).trans (feq hc75_13).1) ?_; exact k) ?_
              show OwnEnd _ _ _ _ _ _ _ (s₁.setTop (mkF m 78 (fL5 p0 x1 x4_s0 x5 x8_s0 x10_s0) []))
              refine go (fun _ k => by refine XS.iconst X0.here hx rfl (hb hby d_method_2_code_78) ?_; exact k) ?_
              refine go (fun _ k => by refine XS.goto X0.here hx rfl (pc0 := 79) (pc' := 83) rfl (hb hby d_method_2_code_79) (by decide) (by decide) ?_; exact k) ?_
              show OwnEnd _ _ _ _ _ _ _ (s₁.setTop (mkF m 83 (fL5 p0 x1 x4_s0 x5 x8_s0 x10_s0) [(.int (1 : Int32))]))
              refine endN X0 hx hlk (t := .boolean) (by simp) Bd.returns (hb hby d_method_2_code_83) e0 (by decide) (by decide) ?_
              exact ⟨by rw [if_pos (Or.inl (Or.inr ((own_u1 _ _ qx10_s0).2 hc75_13)))]; rfl, N0, rfl⟩
          · refine go (fun _ k => by refine XS.ifYes X0.here hx rfl (pc0 := 70) (pc' := 78) rfl (hb hby d_method_2_code_70) rfl ((if0 _ _).trans (feq hc70_12).2) (by decide) (by decide) ?_; exact k) ?_
            show OwnEnd _ _ _ _ _ _ _ (s₁.setTop (mkF m 78 (fL5 p0 x1 x4_s0 x5 x8_s0 x10_s0) []))
            refine go (fun _ k => by refine XS.iconst X0.here hx rfl (hb hby d_method_2_code_78) ?_; exact k) ?_
            refine go (fun _ k => by refine XS.goto X0.here hx rfl (pc0 := 79) (pc' := 83) rfl (hb hby d_method_2_code_79) (by decide) (by decide) ?_; exact k) ?_
            show OwnEnd _ _ _ _ _ _ _ (s₁.setTop (mkF m 83 (fL5 p0 x1 x4_s0 x5 x8_s0 x10_s0) [(.int (1 : Int32))]))
            refine endN X0 hx hlk (t := .boolean) (by simp) Bd.returns (hb hby d_method_2_code_83) e0 (by decide) (by decide) ?_
            exact ⟨by rw [if_pos (Or.inr ((own_d1 _ _ _ qx5 qx8_s0).2 hc70_12))]; rfl, N0, rfl⟩
        · refine go (fun _ k => by refine XS.ifYes X0.here hx rfl (pc0 := 65) (pc' := 78) rfl (hb hby d_method_2_code_65) rfl ((if0 _ _).trans (feq hc65_11).2) (by decide) (by decide) ?_; exact k) ?_
          show OwnEnd _ _ _ _ _ _ _ (s₁.setTop (mkF m 78 (fL5 p0 x1 x4_s0 x5 x8_s0 x10_s0) []))
          refine go (fun _ k => by refine XS.iconst X0.here hx rfl (hb hby d_method_2_code_78) ?_; exact k) ?_
          refine go (fun _ k => by refine XS.goto X0.here hx rfl (pc0 := 79) (pc' := 83) rfl (hb hby d_method_2_code_79) (by decide) (by decide) ?_; exact k) ?_
          show OwnEnd _ _ _ _ _ _ _ (s₁.setTop (mkF m 83 (fL5 p0 x1 x4_s0 x5 x8_s0 x10_s0) [(.int (1 : Int32))]))
          refine endN X0 hx hlk (t := .boolean) (by simp) Bd.returns (hb hby d_method_2_code_83) e0 (by decide) (by decide) ?_
          exact ⟨by rw [if_pos (Or.inl (Or.inl ((own_l1 _ _ _ qx1 qx4_s0).2 hc65_11)))]; rfl, N0, rfl⟩
      by_cases hc54_9 : p0 = (95 : Int32)
      · refine go (fun _ k => by refine XS.icmpNo X0.here hx rfl (hb hby d_method_2_code_54) rfl (teq hc54_9).2 ?_; exact k) ?_
        show OwnEnd _ _ _ _ _ _ _ (s₁.setTop (mkF m 57 (fL4 p0 x1 x4_s0 x5 x8_s0) []))
        refine go (fun _ k => by refine XS.iconst X0.here hx rfl (hb hby d_method_2_code_57) ?_; exact k) ?_
        refine go (fun _ k => by refine XS.goto X0.here hx rfl (pc0 := 58) (pc' := 62) rfl (hb hby d_method_2_code_58) (by decide) (by decide) ?_; exact k) ?_
        exact J10 (1 : Int32) (by rw [if_pos hc54_9])
      · refine go (fun _ k => by refine XS.icmpYes X0.here hx rfl (pc0 := 54) (pc' := 61) rfl (hb hby d_method_2_code_54) rfl (feq hc54_9).2 (by decide) (by decide) ?_; exact k) ?_
        show OwnEnd _ _ _ _ _ _ _ (s₁.setTop (mkF m 61 (fL4 p0 x1 x4_s0 x5 x8_s0) []))
        refine go (fun _ k => by refine XS.iconst X0.here hx rfl (hb hby d_method_2_code_61) ?_; exact k) ?_
        exact J10 (0 : Int32) (by rw [if_neg hc54_9])
    by_cases hc33_6 : x5 < (0 : Int64)
    · refine go (fun _ k => by refine XS.ifYes X0.here hx rfl (pc0 := 33) (pc' := 48) rfl (hb hby d_method_2_code_33) rfl ((if0 _ _).trans (tlt ((lw_lt _ _).mpr hc33_6)).1) (by decide) (by decide) ?_; exact k) ?_
      show OwnEnd _ _ _ _ _ _ _ (s₁.setTop (mkF m 48 (fL3 p0 x1 x4_s0 x5) []))
      refine go (fun _ k => by refine XS.iconst X0.here hx rfl (hb hby d_method_2_code_48) ?_; exact k) ?_
      exact J8 (0 : Int32) (by rw [if_pos hc33_6])
    · refine go (fun _ k => by refine XS.ifNo X0.here hx rfl (hb hby d_method_2_code_33) rfl ((if0 _ _).trans (flt (fun q => hc33_6 ((lw_lt _ _).mp q))).1) ?_; exact k) ?_
      show OwnEnd _ _ _ _ _ _ _ (s₁.setTop (mkF m 36 (fL3 p0 x1 x4_s0 x5) []))
      refine go (fun _ k => by refine XS.lloadN X0.here hx rfl (hb hby d_method_2_code_36) rfl ?_; exact k) ?_
      show OwnEnd _ _ _ _ _ _ _ (s₁.setTop (mkF m 37 (fL3 p0 x1 x4_s0 x5) [(.long x5)]))
      refine go (X0.ldc2Long hx hown (mvT hZ (hw _ (List.mem_of_getElem? (i := 15) rfl))) (g := (mkF m 37 (fL3 p0 x1 x4_s0 x5) [(.long x5)])) rfl (hb hby d_method_2_code_37)) ?_
      refine go (fun _ k => by refine XS.lcmp X0.here hx rfl (hb hby d_method_2_code_40) rfl ?_; exact k) ?_
      show OwnEnd _ _ _ _ _ _ _ (s₁.setTop (mkF m 41 (fL3 p0 x1 x4_s0 x5) [(.int (lcmpW x5 (10 : Int64)))]))
      by_cases hc41_7 : x5 < (10 : Int64)
      · refine go (fun _ k => by refine XS.ifNo X0.here hx rfl (hb hby d_method_2_code_41) rfl ((if0 _ _).trans (tlt ((lw_lt _ _).mpr hc41_7)).2.1) ?_; exact k) ?_
        show OwnEnd _ _ _ _ _ _ _ (s₁.setTop (mkF m 44 (fL3 p0 x1 x4_s0 x5) []))
        refine go (fun _ k => by refine XS.iconst X0.here hx rfl (hb hby d_method_2_code_44) ?_; exact k) ?_
        refine go (fun _ k => by refine XS.goto X0.here hx rfl (pc0 := 45) (pc' := 49) rfl (hb hby d_method_2_code_45) (by decide) (by decide) ?_; exact k) ?_
        exact J8 (1 : Int32) (by rw [if_neg hc33_6, if_pos hc41_7])
      · refine go (fun _ k => by refine XS.ifYes X0.here hx rfl (pc0 := 41) (pc' := 48) rfl (hb hby d_method_2_code_41) rfl ((if0 _ _).trans (flt (fun q => hc41_7 ((lw_lt _ _).mp q))).2.1) (by decide) (by decide) ?_; exact k) ?_
        show OwnEnd _ _ _ _ _ _ _ (s₁.setTop (mkF m 48 (fL3 p0 x1 x4_s0 x5) []))
        refine go (fun _ k => by refine XS.iconst X0.here hx rfl (hb hby d_method_2_code_48) ?_; exact k) ?_
        exact J8 (0 : Int32) (by rw [if_neg hc33_6, if_neg hc41_7])
  by_cases hc8_2 : x1 < (97 : Int32)
  · refine go (fun _ k => by refine XS.icmpYes X0.here hx rfl (pc0 := 8) (pc' := 21) rfl (hb hby d_method_2_code_8) rfl (tlt hc8_2).1 (by decide) (by decide) ?_; exact k) ?_
    show OwnEnd _ _ _ _ _ _ _ (s₁.setTop (mkF m 21 (fL1 p0 x1) []))
    refine go (fun _ k => by refine XS.iconst X0.here hx rfl (hb hby d_method_2_code_21) ?_; exact k) ?_
    exact J4 (0 : Int32) (by rw [if_pos hc8_2])
  · refine go (fun _ k => by refine XS.icmpNo X0.here hx rfl (hb hby d_method_2_code_8) rfl (flt hc8_2).1 ?_; exact k) ?_
    show OwnEnd _ _ _ _ _ _ _ (s₁.setTop (mkF m 11 (fL1 p0 x1) []))
    refine go (fun _ k => by refine XS.iloadN X0.here hx rfl (hb hby d_method_2_code_11) rfl ?_; exact k) ?_
    refine go (fun _ k => by refine XS.bipush X0.here hx rfl (hb hby d_method_2_code_12) ?_; exact k) ?_
    show OwnEnd _ _ _ _ _ _ _ (s₁.setTop (mkF m 14 (fL1 p0 x1) [(.int (122 : Int32)), (.int x1)]))
    by_cases hc14_3 : (122 : Int32) < x1
    · refine go (fun _ k => by refine XS.icmpYes X0.here hx rfl (pc0 := 14) (pc' := 21) rfl (hb hby d_method_2_code_14) rfl (tlt hc14_3).2.2.1 (by decide) (by decide) ?_; exact k) ?_
      show OwnEnd _ _ _ _ _ _ _ (s₁.setTop (mkF m 21 (fL1 p0 x1) []))
      refine go (fun _ k => by refine XS.iconst X0.here hx rfl (hb hby d_method_2_code_21) ?_; exact k) ?_
      exact J4 (0 : Int32) (by rw [if_neg hc8_2, if_pos hc14_3])
    · refine go (fun _ k => by refine XS.icmpNo X0.here hx rfl (hb hby d_method_2_code_14) rfl (flt hc14_3).2.2.1 ?_; exact k) ?_
      show OwnEnd _ _ _ _ _ _ _ (s₁.setTop (mkF m 17 (fL1 p0 x1) []))
      refine go (fun _ k => by refine XS.iconst X0.here hx rfl (hb hby d_method_2_code_17) ?_; exact k) ?_
      refine go (fun _ k => by refine XS.goto X0.here hx rfl (pc0 := 18) (pc' := 22) rfl (hb hby d_method_2_code_18) (by decide) (by decide) ?_; exact k) ?_
      exact J4 (1 : Int32) (by rw [if_neg hc8_2, if_neg hc14_3])
theorem ef_rm_law (m : MethodId) (y0 : Int32) (y1 : Int32) : entryFrame m #[(.int y0), (.int y1)] maxLocals = mkF m 0 #[.val (.int y0), .val (.int y1), .unset] [] := by first | (simp [entryFrame, mkF, argsToLocals, Value.category, maxLocals]; done) | rfl
def Q_rm_law (Z : State) (p0 : Int32) (p1 : Int32) (h0 : Heap) (n0 : Nat) (v : Option Value) (h : Heap) (L : List Loc) : Prop := v = some (.int 1) ∧ Fr n0 L
set_option maxRecDepth 65536 in
set_option maxHeartbeats 40000000 in
theorem rm_law (l : Launch) (Z : State) (a0 : Array Value) (hw : ∀ d ∈ tables_1, d.before a0 Z = true) (ws : List Jvm.Cond) (p0 : Int32) (p1 : Int32) (h0 : Heap) (n0 : Nat) :
    MetFree l x (head1 (Jvm.Cond.code x code maxLocals ret :: ws) room_1) (fun a U => a = #[(.int p0), (.int p1)] ∧ Z.Warmed39 U.vm ∧ U.heap = h0) (fun _ _ _ _ _ => True) (fun _ U o U' => ∃ v L, o = .returned v ∧ Q_rm_law Z p0 p1 h0 n0 v U'.heap L ∧ FrameEnd U o U' L 0 0) := by
  refine MetFree.of_bodySF (plainFor_of_name pn_com_example_minder_minder_io_ViewReaderIsNamePartPinLaw) hisR ?_
  intro p e s m args below meth c s₁ Bd hml0 hP hK
  obtain ⟨rfl, hZ, hh⟩ := hP
  have hx := Bd.exec
  have hby := Bd.bytes
  have hlk := Bd.notSynchronized
  have hml : c.maxLocals = 3 := hml0
  have hown : s.vm.findClass "com/example/minder/minder/io/ViewReaderIsNamePartPinLaw" = some m.cls := findClass_of_methodNamed Bd.named
  have hnm := (name_of_methodNamed Bd.named Bd.method).1
  have X0 : Stand p l e room_1 s m #[(.int p0), (.int p1)] below meth c s₁ [] 0 0 := Stand.of_body Bd
  have e0 : s₁.heap = h0 := by rw [← hh, Bd.state]; rfl
  have N0 := Fr.nil n0
  show OwnEnd p e below s (Q_rm_law Z p0 p1 h0 n0) 0 0 (s₁.setTop (entryFrame m #[(.int p0), (.int p1)] maxLocals))
  refine go (fun t k => castTop (ef_rm_law m p0 p1) k) ?_
  show OwnEnd _ _ _ _ _ _ _ (s₁.setTop (mkF m 0 #[.val (.int p0), .val (.int p1), .unset] []))
  refine go (fun _ k => by refine XS.iloadN X0.here hx rfl (hb hby at_0) rfl ?_; exact k) ?_
  refine go (fun _ k => by refine XS.iconst X0.here hx rfl (hb hby at_1) ?_; exact k) ?_
  refine go (fun _ k => by refine XS.iand X0.here hx rfl (hb hby at_2) rfl ?_; exact k) ?_
  show OwnEnd _ _ _ _ _ _ _ (s₁.setTop (mkF m 3 #[.val (.int p0), .val (.int p1), .unset] [(.int (p1 &&& (1 : Int32)))]))
  have J2 : ∀ (x2_s0 : Int32) (qx2_s0 : x2_s0 = (if (p1 &&& (1 : Int32)) = (0 : Int32) then (p0 &&& (127 : Int32)) else p0)), OwnEnd p e below s (Q_rm_law Z p0 p1 h0 n0) 0 0 (s₁.setTop (mkF m 14 #[.val (.int p0), .val (.int p1), .unset] [(.int x2_s0)])) := by
    intro x2_s0 qx2_s0
    show OwnEnd _ _ _ _ _ _ _ (s₁.setTop (mkF m 14 #[.val (.int p0), .val (.int p1), .unset] [(.int x2_s0)]))
    refine go (fun _ k => by refine XS.istoreN X0.here hx rfl (hb hby at_14) rfl (l' := #[.val (.int p0), .val (.int p1), .val (.int x2_s0)]) rfl ?_; exact k) ?_
    refine go (fun _ k => by refine XS.iloadN X0.here hx rfl (hb hby at_15) rfl ?_; exact k) ?_
    show OwnEnd _ _ _ _ _ _ _ (s₁.setTop (mkF m 16 #[.val (.int p0), .val (.int p1), .val (.int x2_s0)] [(.int x2_s0)]))
    obtain ⟨_, T3, L3, X3, hQ3, st3⟩ := callStat X0 hx hZ hown (hw _ (List.mem_of_getElem? (i := 0) rfl)) (hw _ (List.mem_of_getElem? (i := 1) rfl)) (hw _ (List.mem_of_getElem? (i := 2) rfl)) (hw _ (List.mem_of_getElem? (i := 3) rfl)) (by decide) (rm_part l Z a0 hw [] x2_s0 h0 n0 ) (W := 0) (by decide) (by decide) e0 (g := (mkF m 16 #[.val (.int p0), .val (.int p1), .val (.int x2_s0)] [(.int x2_s0)])) rfl (by rw [hml]; rfl) (argsL := [(.int x2_s0)]) (rest := []) rfl (lenOf pd__I_Z rfl) rfl (by show 2 * 0 + _ ≤ _; exact Nat.le_of_eq rfl) (hb hby at_16) (by decide) (by decide)
    obtain ⟨rfl, Nq3, eq3⟩ := hQ3
    have N3 := Fr.app N0 Nq3
    refine go st3 ?_
    refine go (fun _ k => by refine XS.iloadN X3.here hx rfl (hb hby at_19) rfl ?_; exact k) ?_
    show OwnEnd _ _ _ _ _ _ _ (T3.setTop (mkF m 20 #[.val (.int p0), .val (.int p1), .val (.int x2_s0)] [(.int x2_s0), (.int (if own_st x2_s0 ∨ own_dig x2_s0 then (1 : Int32) else 0))]))
    obtain ⟨_, T4, L4, X4, hQ4, st4⟩ := callStat X3 hx hZ hown (hw _ (List.mem_of_getElem? (i := 10) rfl)) (hw _ (List.mem_of_getElem? (i := 11) rfl)) (hw _ (List.mem_of_getElem? (i := 12) rfl)) (hw _ (List.mem_of_getElem? (i := 13) rfl)) (by decide) (rm_exp l Z a0 hw [] x2_s0 h0 n0 ) (W := 1) (by decide) (by decide) eq3 (g := (mkF m 20 #[.val (.int p0), .val (.int p1), .val (.int x2_s0)] [(.int x2_s0), (.int (if own_st x2_s0 ∨ own_dig x2_s0 then (1 : Int32) else 0))])) rfl (by rw [hml]; rfl) (argsL := [(.int x2_s0)]) (rest := [(.int (if own_st x2_s0 ∨ own_dig x2_s0 then (1 : Int32) else 0))]) rfl (lenOf pd__I_Z rfl) rfl (by show 2 * 0 + _ ≤ _; exact Nat.le_of_eq rfl) (hb hby at_20) (by decide) (by decide)
    obtain ⟨rfl, Nq4, eq4⟩ := hQ4
    have N4 := Fr.app N3 Nq4
    refine go st4 ?_
    show OwnEnd _ _ _ _ _ _ _ (T4.setTop (mkF m 23 #[.val (.int p0), .val (.int p1), .val (.int x2_s0)] [(.int (if own_st x2_s0 ∨ own_dig x2_s0 then (1 : Int32) else 0)), (.int (if own_st x2_s0 ∨ own_dig x2_s0 then (1 : Int32) else 0))]))
    refine go (fun _ k => by refine XS.icmpNo X4.here hx rfl (hb hby at_23) rfl (teq (rfl : (if own_st x2_s0 ∨ own_dig x2_s0 then (1 : Int32) else 0) = (if own_st x2_s0 ∨ own_dig x2_s0 then (1 : Int32) else 0))).2 ?_; exact k) ?_
    refine go (fun _ k => by refine XS.iconst X4.here hx rfl (hb hby at_26) ?_; exact k) ?_
    refine go (fun _ k => by refine XS.goto X4.here hx rfl (pc0 := 27) (pc' := 31) rfl (hb hby at_27) (by decide) (by decide) ?_; exact k) ?_
    show OwnEnd _ _ _ _ _ _ _ (T4.setTop (mkF m 31 #[.val (.int p0), .val (.int p1), .val (.int x2_s0)] [(.int (1 : Int32))]))
    refine endN X4 hx hlk (t := .boolean) (by simp) Bd.returns (hb hby at_31) eq4 (by decide) (by decide) ?_
    exact ⟨rfl, N4⟩
  by_cases hc3_1 : (p1 &&& (1 : Int32)) = (0 : Int32)
  · refine go (fun _ k => by refine XS.ifYes X0.here hx rfl (pc0 := 3) (pc' := 10) rfl (hb hby at_3) rfl ((if0 _ _).trans (teq hc3_1).1) (by decide) (by decide) ?_; exact k) ?_
    show OwnEnd _ _ _ _ _ _ _ (s₁.setTop (mkF m 10 #[.val (.int p0), .val (.int p1), .unset] []))
    refine go (fun _ k => by refine XS.iloadN X0.here hx rfl (hb hby at_10) rfl ?_; exact k) ?_
    refine go (fun _ k => by refine XS.bipush X0.here hx rfl (hb hby at_11) ?_; exact k) ?_
    refine go (fun _ k => by refine XS.iand X0.here hx rfl (hb hby at_13) rfl ?_; exact k) ?_
    exact J2 (p0 &&& (127 : Int32)) (by rw [if_pos hc3_1])
  · refine go (fun _ k => by refine XS.ifNo X0.here hx rfl (hb hby at_3) rfl ((if0 _ _).trans (feq hc3_1).1) ?_; exact k) ?_
    show OwnEnd _ _ _ _ _ _ _ (s₁.setTop (mkF m 6 #[.val (.int p0), .val (.int p1), .unset] []))
    refine go (fun _ k => by refine XS.iloadN X0.here hx rfl (hb hby at_6) rfl ?_; exact k) ?_
    refine go (fun _ k => by refine XS.goto X0.here hx rfl (pc0 := 7) (pc' := 14) rfl (hb hby at_7) (by decide) (by decide) ?_; exact k) ?_
    exact J2 p0 (by rw [if_neg hc3_1])
set_option maxRecDepth 65536 in
set_option maxHeartbeats 40000000 in
theorem comes_1 {Post : Tables → Env → Array Value → State → Outcome → State → Prop} (hpost : ∀ tb e args s v u, (limb_1_1.after args s (.returned v) u = true ∧ limb_1_2.after args s (.returned v) u = true ∧ True) → FrameEnd s (.returned v) u (Jvm.fieldLocs frame_1_writes args s ++ Jvm.arrayLocs frame_1_arrays args s ++ Jvm.staticLocs frame_1_statics s) 0 0 → Post tb e args s (.returned v) u) :
    ArmFor flags0 classFile x code maxLocals ret World_1 tables_1 room_1 Calls_1 rest_1 Pre_1 Post := by
  intro l hfl _ _ p e ha hc hk s m args below hf hA hF happ hP
  obtain ⟨hcalls, hrest, hpre⟩ := hP
  obtain ⟨-, -, -, hnamed, -, -, -, hat⟩ := (Spec.applies_iff hf).mp happ
  obtain ⟨hg, hn⟩ := and_e (Cond.before_iff.mp (show (Jvm.Cond.and given_1 narrow_1).before args s = true from hpre))
  obtain ⟨gv1, gv2⟩ := and_e hg
  obtain ⟨gv3, gv4⟩ := and_e gv2
  obtain ⟨w0, w1, rfl⟩ : ∃ w0 w1 : Value, args = #[w0, w1] := by
    have hs : args.size = 2 := by simpa [Cond.value, given_1] using gv1
    obtain ⟨L⟩ := args
    match L, hs with
    | [w0, w1], _ => exact ⟨w0, w1, rfl⟩
  have hw := fun d (hd : d ∈ tables_1) => atoms_spec (ws := Jvm.Cond.code x code maxLocals ret :: tables_1) hat d (List.mem_cons_of_mem _ hd)
  have hfit : Fit s := fun {y c} hc i hi => by
    obtain ⟨ha, rfl⟩ := Array.getElem?_eq_some_iff.mp hc
    have q := List.all_eq_true.mp ((Array.all_eq_true_iff_forall_mem.mp hF) _ (Array.getElem_mem ha)) i (List.mem_range.mpr hi)
    simpa [Array.getElem?_eq_getElem hi] using q
  obtain ⟨i0, ei0⟩ := is_v gv3
  obtain rfl : w0 = (.int i0) := Option.some.inj ei0
  obtain ⟨i1, ei1⟩ := is_v gv4
  obtain rfl : w1 = (.int i1) := Option.some.inj ei1
  obtain ⟨n, o, h1, h2, h3, _, L, rfl, ⟨rfl, N⟩, hq⟩ := rm_law l s _ hw tables_1 i0 i1  s.heap s.heap.size  p e ha hc hk s m _ below hf ((Spec.applies_iff_loose hf).mp happ).1 ⟨rfl, State.Warmed39.refl s, rfl⟩ trivial
  refine ⟨n, _, h1, h2, h3, hpost _ _ _ _ _ _ ⟨Cond.after_iff.mpr rfl, Cond.after_iff.mpr (eq_i res_at (Term.int_eval (1)) rfl), trivial⟩ ⟨hq.1, hq.2.1, (hq.2.2.sift fun y hy => Or.inr (N y hy)).mono (by decide) (by decide)⟩⟩
theorem main_1_1 : Claimed_1_1 := comes_1 fun _ _ _ _ _ _ h hF => ⟨h.1, hF⟩
theorem main_1_2 : Claimed_1_2 := comes_1 fun _ _ _ _ _ _ h hF => ⟨h.2.1, hF⟩
end Jvm.Pilot.@@N@@
namespace Jvm.Pilot.@@N@@
open Jvm Jvm.ClassFile Sem Op Lib Jvm.Free Jvm.Stand Jvm.Pilot.@@N@@.Jvm.D
/-! MADE BY PROGRAM (witnessworld.py) out of the Statement's table words and the real class files: 9 classes; the members and pool entries that the words name. The judged class is class 1, her method 2. -/
namespace start1
open Jvm.ClassFile
def u (s : String) : CpInfo := .utf8 (stringToUtf16 s)
/-- a pool by its gaps: so many unusable entries, then the entry; so many at the end -/
def gap : Nat → List CpInfo → List CpInfo
  | 0, r => r
  | n + 1, r => .unusable :: gap n r
def poolList (es : List (Nat × CpInfo)) (last : Nat) : List CpInfo := es.foldr (fun e r => gap e.1 (e.2 :: r)) (gap last [])
def pool (es : List (Nat × CpInfo)) (last : Nat) : Array CpInfo := ⟨poolList es last⟩
def fileOf (pool : Array CpInfo) (this : Nat) (attrs : Array Attribute := #[]) (ms : Array MethodInfo := #[]) (fl : Nat := 33) (sup : Nat := 0) (ifs : Array Nat := #[]) (fds : Array FieldInfo := #[]) : ClassFile where
  minorVersion := 0
  majorVersion := 65
  constantPool := pool
  accessFlags := fl
  thisClass := this
  superClass := sup
  interfaces := ifs
  fields := fds
  methods := ms
  attributes := attrs
def plain (name : String) (sup : Option ClassId) : Class where
  name := name
  kind := .ordinary
  loader := none
  accessFlags := 33
  super := sup
  interfaces := #[]
  cf := none
  fields := #[]
  methods := #[]
  instanceTypes := #[]
  staticTypes := #[]
  resolved := #[]
  callSites := []
  init := .initialized
  statics := none
  mirror := none

def pool0 : Array CpInfo := pool [(5, u "<init>"), (0, u "()V"), (1, .class_ 10), (1, u "java/lang/Object")] 113

def k0m0 : Method := { name := "<init>", desc := "()V", sig := { parameters := [], returnType := none }, accessFlags := 1, code := none }
/-- java/lang/Object -/
def k0 : Class := { plain "java/lang/Object" none with
  accessFlags := 33
  interfaces := #[]
  cf := some (fileOf pool0 8 #[] #[{ accessFlags := 1, nameIndex := 5, descriptorIndex := 6, attributes := #[] }] 33 0 #[] #[])
  fields := #[]
  methods := #[k0m0]
  instanceTypes := #[]
  staticTypes := #[]
  resolved := Array.replicate 124 none
  statics := none }

def pool1 : Array CpInfo := pool [(2, .class_ 4), (1, u "java/lang/Object"), (0, u "<init>"), (0, u "()V"), (0, .long 48), (1, .long 10), (1, .methodref 12 13), (0, .class_ 14), (0, .nameAndType 15 16), (0, u "com/example/minder/minder/io/ViewReader"), (0, u "isNamePart"), (0, u "(I)Z"), (0, .methodref 18 19), (0, .class_ 20), (0, .nameAndType 21 16), (0, u "com/example/minder/minder/io/ViewReaderIsNamePartPinLaw"), (0, u "expected"), (3, u "law"), (0, u "(II)Z")] 2

def k1m0 : Method := { name := "<init>", desc := "()V", sig := { parameters := [], returnType := none }, accessFlags := 2, code := none }
def k1c1 : Code := { maxStack := 4, maxLocals := 7, code := method_2_code, exceptionTable := #[], attributes := #[] }
def k1m1 : Method := { name := "expected", desc := "(I)Z", sig := { parameters := [.int], returnType := some .boolean }, accessFlags := 10, code := some k1c1 }
def k1c2 : Code := { maxStack := 2, maxLocals := 3, code := code, exceptionTable := #[], attributes := #[] }
def k1m2 : Method := { name := "law", desc := "(II)Z", sig := { parameters := [.int, .int], returnType := some .boolean }, accessFlags := 9, code := some k1c2 }
/-- com/example/minder/minder/io/ViewReaderIsNamePartPinLaw -/
def k1 : Class := { plain "com/example/minder/minder/io/ViewReaderIsNamePartPinLaw" (some 0) with
  accessFlags := 49
  interfaces := #[]
  cf := some (fileOf pool1 18 #[] #[{ accessFlags := 2, nameIndex := 5, descriptorIndex := 6, attributes := #[] }, { accessFlags := 10, nameIndex := 21, descriptorIndex := 16, attributes := #[] }, { accessFlags := 9, nameIndex := 25, descriptorIndex := 26, attributes := #[] }] 49 2 #[] #[])
  fields := #[]
  methods := #[k1m0, k1m1, k1m2]
  instanceTypes := #[]
  staticTypes := #[]
  resolved := Array.replicate 29 none
  statics := none }

def pool2 : Array CpInfo := pool [(2, .class_ 4), (1, u "java/lang/Object"), (3, .class_ 10), (1, u "com/example/minder/minder/io/ViewReader"), (0, u "line"), (0, u "I"), (2, u "column"), (2, u "source"), (0, u "Ljava/lang/String;"), (2, u "text"), (6, u "current"), (0, u "Lcom/example/minder/minder/io/ViewReader$Token;"), (18, .class_ 51), (1, u "com/example/minder/minder/io/ViewReader$Token"), (3, .class_ 57), (1, u "com/example/minder/minder/io/ViewReader$Kind"), (78, .methodref 8 137), (0, .nameAndType 138 139), (0, u "isNameStart"), (0, u "(I)Z"), (5, u "isNamePart"), (11, u "KEYWORDS"), (5, .class_ 165), (1, u "com/example/minder/minder/io/ViewReader$1"), (350, u "at"), (21, u "depth"), (35, .methodref 8 575), (0, .nameAndType 576 139), (0, u "isDigit"), (37, u "SYMBOLS")] 60

def k2c0 : Code := { maxStack := 2, maxLocals := 1, code := prog_9_method_33_code, exceptionTable := #[], attributes := #[] }
def k2m0 : Method := { name := "isNameStart", desc := "(I)Z", sig := { parameters := [.int], returnType := some .boolean }, accessFlags := 10, code := some k2c0 }
def k2c1 : Code := { maxStack := 1, maxLocals := 1, code := prog_9_method_34_code, exceptionTable := #[], attributes := #[] }
def k2m1 : Method := { name := "isNamePart", desc := "(I)Z", sig := { parameters := [.int], returnType := some .boolean }, accessFlags := 9, code := some k2c1 }
def k2c2 : Code := { maxStack := 2, maxLocals := 1, code := prog_9_method_35_code, exceptionTable := #[], attributes := #[] }
def k2m2 : Method := { name := "isDigit", desc := "(I)Z", sig := { parameters := [.int], returnType := some .boolean }, accessFlags := 10, code := some k2c2 }
/-- com/example/minder/minder/io/ViewReader -/
def k2 : Class := { plain "com/example/minder/minder/io/ViewReader" (some 0) with
  accessFlags := 33
  interfaces := #[]
  cf := some (fileOf pool2 8 #[.nestMembers #[163, 49, 55]] #[{ accessFlags := 10, nameIndex := 138, descriptorIndex := 139, attributes := #[] }, { accessFlags := 9, nameIndex := 145, descriptorIndex := 139, attributes := #[] }, { accessFlags := 10, nameIndex := 576, descriptorIndex := 139, attributes := #[] }] 33 2 #[] #[{ accessFlags := 26, nameIndex := 614, descriptorIndex := 19, attributes := #[] }, { accessFlags := 26, nameIndex := 157, descriptorIndex := 19, attributes := #[] }, { accessFlags := 18, nameIndex := 18, descriptorIndex := 19, attributes := #[] }, { accessFlags := 18, nameIndex := 22, descriptorIndex := 19, attributes := #[] }, { accessFlags := 2, nameIndex := 516, descriptorIndex := 12, attributes := #[] }, { accessFlags := 2, nameIndex := 11, descriptorIndex := 12, attributes := #[] }, { accessFlags := 2, nameIndex := 15, descriptorIndex := 12, attributes := #[] }, { accessFlags := 2, nameIndex := 538, descriptorIndex := 12, attributes := #[] }, { accessFlags := 2, nameIndex := 29, descriptorIndex := 30, attributes := #[] }])
  fields := #[{ name := "SYMBOLS", type := (.object "java/lang/String"), accessFlags := 26, slot := 0, constantValue := 0 }, { name := "KEYWORDS", type := (.object "java/lang/String"), accessFlags := 26, slot := 1, constantValue := 0 }, { name := "source", type := (.object "java/lang/String"), accessFlags := 18, slot := 0, constantValue := 0 }, { name := "text", type := (.object "java/lang/String"), accessFlags := 18, slot := 1, constantValue := 0 }, { name := "at", type := .int, accessFlags := 2, slot := 2, constantValue := 0 }, { name := "line", type := .int, accessFlags := 2, slot := 3, constantValue := 0 }, { name := "column", type := .int, accessFlags := 2, slot := 4, constantValue := 0 }, { name := "depth", type := .int, accessFlags := 2, slot := 5, constantValue := 0 }, { name := "current", type := (.object "com/example/minder/minder/io/ViewReader$Token"), accessFlags := 2, slot := 6, constantValue := 0 }]
  methods := #[k2m0, k2m1, k2m2]
  instanceTypes := #[(.object "java/lang/String"), (.object "java/lang/String"), .int, .int, .int, .int, (.object "com/example/minder/minder/io/ViewReader$Token")]
  staticTypes := #[(.object "java/lang/String"), (.object "java/lang/String")]
  resolved := Array.replicate 675 none
  statics := none }

def pool3 : Array CpInfo := pool [(1, u "java/lang/Cloneable"), (0, .class_ 1), (0, u "java/lang/Object"), (0, .class_ 3)] 3

/-- java/lang/Cloneable -/
def k3 : Class := { plain "java/lang/Cloneable" (some 0) with
  accessFlags := 1537
  interfaces := #[]
  cf := some (fileOf pool3 2 #[] #[] 1537 4 #[] #[])
  fields := #[]
  methods := #[]
  instanceTypes := #[]
  staticTypes := #[]
  resolved := Array.replicate 8 none
  statics := none }

def pool4 : Array CpInfo := pool [(1, u "java/io/Serializable"), (0, .class_ 1), (0, u "java/lang/Object"), (0, .class_ 3)] 3

/-- java/io/Serializable -/
def k4 : Class := { plain "java/io/Serializable" (some 0) with
  accessFlags := 1537
  interfaces := #[]
  cf := some (fileOf pool4 2 #[] #[] 1537 4 #[] #[])
  fields := #[]
  methods := #[]
  instanceTypes := #[]
  staticTypes := #[]
  resolved := Array.replicate 8 none
  statics := none }

/-- the primitive byte -/
def k5 : Class := { plain "byte" none with kind := .primitive 'B', accessFlags := 0x411 }
/-- [B -/
def k6 : Class := { plain "[B" (some 0) with kind := .array 5 .byte, interfaces := #[3, 4], accessFlags := 1041 }

/-- the primitive int -/
def k7 : Class := { plain "int" none with kind := .primitive 'I', accessFlags := 0x411 }
/-- [I -/
def k8 : Class := { plain "[I" (some 0) with kind := .array 7 .int, interfaces := #[3, 4], accessFlags := 1041 }

def heap : Heap := #[]
def classes : Array Class := #[k0, k1, k2, k3, k4, k5, k6, k7, k8]
def interned : List (Array UInt16 × Addr) := []
def slotsUsed : Nat := 0
def theMethod : MethodId := ⟨1, 2⟩
def args0 : Array Value := #[.int 5, .int 3]
def aboutOver (below : List Frame) : State where
  vm := { classes := classes, interned := interned.toArray }
  heap := heap
  slotsUsed := slotsUsed
  threads := #[{ frames := .invoking theMethod args0 :: below }]
def below0 : List Frame := [.native { method := ⟨0, 0⟩, args := #[] }]
def about1 : State := aboutOver below0
def p0 : Program := .bare "" "" ""
def e0 : Env := launch0.env 0 0 0
theorem w_frames : about1.frames = Frame.invoking theMethod args0 :: below0 := rfl
set_option maxRecDepth 65536 in
theorem w_args : argsFit about1.vm theMethod args0 = true := by decide +kernel
set_option maxRecDepth 65536 in
theorem w_heap : heapFits about1 = true := by decide +kernel
set_option maxRecDepth 65536 in
theorem w_runnable : about1.curStatus? = some .runnable := by decide +kernel
set_option maxRecDepth 65536 in
theorem w_alone : about1.alone = true := by decide +kernel
set_option maxRecDepth 65536 in
theorem w_named : about1.methodNamed? x = some theMethod := by decide +kernel
set_option maxRecDepth 65536 in
theorem w_hears : about1.hears theMethod below0 = true := by decide +kernel
set_option maxRecDepth 65536 in
theorem w_ripe : about1.ripe theMethod args0 below0 = true := by decide +kernel
theorem w_running : about1.status = .running := rfl
set_option maxRecDepth 65536 in
theorem w_room : about1.hasRoom e0.platform room_1 = true :=
  launch0.hasRoom_least _ room_1 (by decide +kernel) (by decide +kernel) (by decide +kernel) (by decide +kernel) (by decide +kernel) (by decide +kernel)
theorem allAtoms_all (ts : List Jvm.Cond) (a : Array Jvm.Value) (st : Jvm.State) : (allAtoms ts).before a st = ts.all (fun c => c.before a st) := by
  induction ts with
  | nil => rfl
  | cons c t ih =>
    show (Jvm.Cond.and c (allAtoms t)).before a st = _
    rw [Jvm.Cond.before_and, ih, List.all_cons]
def words1 : List Jvm.Cond := Jvm.Cond.code x code maxLocals ret :: tables_1
/-- a 'code' word, met by the world's own term for the bytes: nothing is compared byte by byte -/
theorem code_word {y : MethodName} {bytes : ByteArray} {mx : Nat} {rt : Option FieldType} {a : Array Value} {s : State} {m : MethodId} {meth : Method} {c : Code} (h1 : s.methodNamed? y = some m) (h2 : s.vm.method? m = some meth) (h3 : meth.code = some c) (h4 : c.code = bytes)
    (h5 : (c.maxLocals == mx && c.exceptionTable.isEmpty && decide (c.maxStack ≤ mostOperands) && decide (meth.sig.returnType = rt) && !meth.locks && decide (parseMethodDescriptor y.desc = some meth.sig)) = true) : (Jvm.Cond.code y bytes mx rt).before a s = true := by
  simp only [Bool.and_eq_true, beq_iff_eq, Bool.not_eq_true', decide_eq_true_eq] at h5
  obtain ⟨⟨⟨⟨⟨g1, g2⟩, g3⟩, g4⟩, g5⟩, g6⟩ := h5
  simp [Cond.before, Cond.holds, Cond.value, h1, h2, h3, h4, g1, g2, g3, g4, g5, g6]
def isCode : Jvm.Cond → Bool
  | .code _ _ _ _ => true
  | _ => false
theorem all_split {L : List Jvm.Cond} {P : Jvm.Cond → Bool} (h1 : L.all (fun c => isCode c || P c) = true) (h2 : ∀ c ∈ L.filter isCode, P c = true) : L.all P = true := by
  refine List.all_eq_true.mpr fun c hc => ?_
  have h := List.all_eq_true.mp h1 c hc
  rcases Bool.eq_false_or_eq_true (isCode c) with hi | hi
  · exact h2 c (List.mem_filter.mpr ⟨hc, hi⟩)
  · simpa [hi] using h
set_option maxRecDepth 65536 in
theorem w_c0 : (Jvm.Cond.code x code maxLocals ret).before args0 about1 = true := code_word (m := ⟨1, 2⟩) (meth := k1m2) (c := k1c2) (by decide +kernel) rfl rfl rfl (by decide +kernel)
set_option maxRecDepth 65536 in
theorem w_c1 : (Jvm.Cond.code ({ cls := "com/example/minder/minder/io/ViewReader", name := "isNamePart", desc := "(I)Z" } : Jvm.MethodName) prog_9_method_34_code (1 : Nat) (Option.some Jvm.ClassFile.FieldType.boolean)).before args0 about1 = true := code_word (m := ⟨2, 1⟩) (meth := k2m1) (c := k2c1) (by decide +kernel) rfl rfl rfl (by decide +kernel)
set_option maxRecDepth 65536 in
theorem w_c2 : (Jvm.Cond.code ({ cls := "com/example/minder/minder/io/ViewReader", name := "isNameStart", desc := "(I)Z" } : Jvm.MethodName) prog_9_method_33_code (1 : Nat) (Option.some Jvm.ClassFile.FieldType.boolean)).before args0 about1 = true := code_word (m := ⟨2, 0⟩) (meth := k2m0) (c := k2c0) (by decide +kernel) rfl rfl rfl (by decide +kernel)
set_option maxRecDepth 65536 in
theorem w_c3 : (Jvm.Cond.code ({ cls := "com/example/minder/minder/io/ViewReader", name := "isDigit", desc := "(I)Z" } : Jvm.MethodName) prog_9_method_35_code (1 : Nat) (Option.some Jvm.ClassFile.FieldType.boolean)).before args0 about1 = true := code_word (m := ⟨2, 2⟩) (meth := k2m2) (c := k2c2) (by decide +kernel) rfl rfl rfl (by decide +kernel)
set_option maxRecDepth 65536 in
theorem w_c4 : (Jvm.Cond.code ({ cls := "com/example/minder/minder/io/ViewReaderIsNamePartPinLaw", name := "expected", desc := "(I)Z" } : Jvm.MethodName) method_2_code (7 : Nat) (Option.some Jvm.ClassFile.FieldType.boolean)).before args0 about1 = true := code_word (m := ⟨1, 1⟩) (meth := k1m1) (c := k1c1) (by decide +kernel) rfl rfl rfl (by decide +kernel)
def codes1 : List Jvm.Cond := [Jvm.Cond.code x code maxLocals ret, Jvm.Cond.code ({ cls := "com/example/minder/minder/io/ViewReader", name := "isNamePart", desc := "(I)Z" } : Jvm.MethodName) prog_9_method_34_code (1 : Nat) (Option.some Jvm.ClassFile.FieldType.boolean), Jvm.Cond.code ({ cls := "com/example/minder/minder/io/ViewReader", name := "isNameStart", desc := "(I)Z" } : Jvm.MethodName) prog_9_method_33_code (1 : Nat) (Option.some Jvm.ClassFile.FieldType.boolean), Jvm.Cond.code ({ cls := "com/example/minder/minder/io/ViewReader", name := "isDigit", desc := "(I)Z" } : Jvm.MethodName) prog_9_method_35_code (1 : Nat) (Option.some Jvm.ClassFile.FieldType.boolean), Jvm.Cond.code ({ cls := "com/example/minder/minder/io/ViewReaderIsNamePartPinLaw", name := "expected", desc := "(I)Z" } : Jvm.MethodName) method_2_code (7 : Nat) (Option.some Jvm.ClassFile.FieldType.boolean)]
set_option maxRecDepth 65536 in
theorem codes_eq : words1.filter isCode = codes1 := rfl
theorem w_codes : ∀ c ∈ words1.filter isCode, c.before args0 about1 = true := by
  rw [codes_eq]
  intro c hc
  simp only [codes1, List.mem_cons, List.not_mem_nil, or_false] at hc
  rcases hc with rfl | rfl | rfl | rfl | rfl
  · exact w_c0
  · exact w_c1
  · exact w_c2
  · exact w_c3
  · exact w_c4
set_option maxRecDepth 65536 in
theorem w_t1 : words1.all (fun c => isCode c || c.before args0 about1) = true := by decide +kernel
theorem w_tables : (allAtoms (Jvm.Cond.code x code maxLocals ret :: tables_1)).before args0 about1 = true := by
  rw [allAtoms_all]
  show words1.all (fun c => c.before args0 about1) = true
  refine all_split ?_ w_codes
  rw [w_t1]
set_option maxRecDepth 65536 in
theorem w_case : (Jvm.Cond.and given_1 narrow_1).before args0 about1 = true := by decide +kernel
theorem w_applies : (headSpec (Jvm.Cond.code x code maxLocals ret :: tables_1) room_1).applies x e0.platform about1 = true :=
  (Spec.applies_iff w_frames).mpr ⟨w_running, w_runnable, w_alone, w_named, w_hears, w_ripe, w_room, w_tables⟩
theorem atStart : AtStart classFile x code maxLocals ret World_1 tables_1 room_1 Calls_1 rest_1 Pre_1 launch0 p0 e0 about1 theMethod args0 below0 :=
  ⟨lists_1, trivial, launch0.admits_env _ _ _, launch0.least_env, fairChoices_fair.cas, fairChoices_fair.clock, w_frames, w_args, w_heap, w_applies, trivial, trivial, w_case⟩
end start1
theorem witness_1 : WitnessClaimed_1 := ⟨start1.p0, start1.e0, start1.about1, start1.theMethod, start1.args0, start1.below0, start1.atStart⟩
end Jvm.Pilot.@@N@@
