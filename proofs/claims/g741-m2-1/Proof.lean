import JvmDerived
import JvmDerived.Pilot.@@N@@Statement
import JvmDerived.Pilot.@@N@@Code
set_option linter.unusedVariables false
set_option linter.unusedSimpArgs false
namespace Jvm.OwnKit
open Sem ClassFile Op Lib Jvm.Stand Jvm.Free Jvm.LawKit Jvm.RoadKit
/-- from the state A the run comes to an end as the contract asks it -/
def OwnEnd (p : Program) (e : Env) (below : List Frame) (s : State) (Q : Option Value → Heap → List Loc → Prop) (kc ks : Nat) (A : State) : Prop :=
  ∃ (s₂ : State) (o : Outcome), Steps p.tables e below A s₂ ∧ s₂.status = .running ∧ Ended s₂ below o ∧ ∃ v L, o = .returned v ∧ Q v s₂.heap L ∧ FrameEnd s o s₂ L kc ks
section Own
variable {p : Program} {l : Launch} {e : Env} {R : Room} {s : State} {m : MethodId} {args : Array Value} {below : List Frame} {meth : Method} {c : Code} {T : State} {locs : List Loc} {cells slots : Nat} {Z : State} {a0 : Array Value} {h : Heap}
variable {Q : Option Value → Heap → List Loc → Prop} {kc ks : Nat}
theorem go {A B : State} (k : ∀ t, Steps p.tables e below B t → Steps p.tables e below A t) (F : OwnEnd p e below s Q kc ks B) : OwnEnd p e below s Q kc ks A := by
  obtain ⟨s₂, o, h1, r⟩ := F; exact ⟨s₂, o, k _ h1, r⟩
theorem up {cells' slots' : Nat} (X : Stand p l e R s m args below meth c T locs cells slots) (h1 : cells ≤ cells') (h2 : slots ≤ slots') : Stand p l e R s m args below meth c T locs cells' slots' :=
  ⟨X.admits, X.cas, X.clock, X.frames, X.room, X.hears, X.method, X.code, X.here, X.tail, X.warmed, X.limits, X.bytes, X.same.mono h1 h2⟩
theorem done (X : Stand p l e R s m args below meth c T locs cells slots) (hlk : meth.locks = false) {v : Option Value} (hv : meth.sig.returnType = none → v = none) {A : State}
    (st : ∀ fs, (∀ (f : JFrame) (acts : List Action), f.method = m → f.locked = none → f.entered = [] → (doReturn e (T.setTop f) acts v).1 = T.setFrames fs) → Steps p.tables e below A (T.setFrames fs))
    (eT : T.heap = h) (hk : cells ≤ kc) (hs : slots ≤ ks) (hQ : Q v h locs) : OwnEnd p e below s Q kc ks A := by
  obtain ⟨fs, hr, hrun, hended, hW, hsame⟩ := X.leave (v := v) hv hlk
  exact ⟨_, _, st fs hr, hrun, hended, _, _, rfl, (by show Q v T.heap locs; rw [eT]; exact hQ), ⟨_, rfl⟩, hW, hsame.mono hk hs⟩
theorem endI (X : Stand p l e R s m args below meth c T locs cells slots) (hx : p.tables.exec = Jvm.exec) (hlk : meth.locks = false) (hret : meth.sig.returnType = some .int) {pc : Nat} {Ls : Array Slot} {z : Int32} {rest : List Value} (hd : decode c.code pc = .ok (.ireturn, 1))
    (eT : T.heap = h) (hk : cells ≤ kc) (hs : slots ≤ ks) (hQ : Q (some (.int z)) h locs) : OwnEnd p e below s Q kc ks (T.setTop (mkF m pc Ls (.int z :: rest))) :=
  done X hlk (fun q => by rw [hret] at q; cases q) (fun fs hr => retOut X hx (w := .int z) hret rfl (Or.inl ⟨rfl, Or.inl rfl, z, rfl⟩) hd hr) eT hk hs hQ
theorem endN (X : Stand p l e R s m args below meth c T locs cells slots) (hx : p.tables.exec = Jvm.exec) (hlk : meth.locks = false) {t : FieldType} (ht : t = .boolean ∨ t = .byte ∨ t = .char ∨ t = .short) (hret : meth.sig.returnType = some t) {pc : Nat} {Ls : Array Slot} {z : Int32} {rest : List Value} (hd : decode c.code pc = .ok (.ireturn, 1))
    (eT : T.heap = h) (hk : cells ≤ kc) (hs : slots ≤ ks) (hQ : Q (some (.int (nar t z))) h locs) : OwnEnd p e below s Q kc ks (T.setTop (mkF m pc Ls (.int z :: rest))) :=
  done X hlk (fun q => by rw [hret] at q; cases q) (fun fs hr => retN X hx hret ht hd hr) eT hk hs hQ
theorem endJ (X : Stand p l e R s m args below meth c T locs cells slots) (hx : p.tables.exec = Jvm.exec) (hlk : meth.locks = false) (hret : meth.sig.returnType = some .long) {pc : Nat} {Ls : Array Slot} {z : Int64} {rest : List Value} (hd : decode c.code pc = .ok (.lreturn, 1))
    (eT : T.heap = h) (hk : cells ≤ kc) (hs : slots ≤ ks) (hQ : Q (some (.long z)) h locs) : OwnEnd p e below s Q kc ks (T.setTop (mkF m pc Ls (.long z :: rest))) :=
  done X hlk (fun q => by rw [hret] at q; cases q) (fun fs hr => retOut X hx (w := .long z) hret rfl (Or.inr (Or.inl ⟨rfl, rfl, z, rfl⟩)) hd hr) eT hk hs hQ
theorem endA (X : Stand p l e R s m args below meth c T locs cells slots) (hx : p.tables.exec = Jvm.exec) (hlk : meth.locks = false) {t : FieldType} (hret : meth.sig.returnType = some t) (ht : t.isReference = true) {pc : Nat} {Ls : Array Slot} {w : Value} (hw : w.isRef = true) {rest : List Value} (hd : decode c.code pc = .ok (.areturn, 1))
    (eT : T.heap = h) (hk : cells ≤ kc) (hs : slots ≤ ks) (hQ : Q (some w) h locs) : OwnEnd p e below s Q kc ks (T.setTop (mkF m pc Ls (w :: rest))) :=
  done X hlk (fun q => by rw [hret] at q; cases q) (fun fs hr => retOut X hx (w := w) hret (by cases t <;> first | rfl | cases ht) (Or.inr (Or.inr (Or.inr (Or.inr ⟨rfl, ht, hw⟩)))) hd hr) eT hk hs hQ
theorem endV (X : Stand p l e R s m args below meth c T locs cells slots) (hx : p.tables.exec = Jvm.exec) (hlk : meth.locks = false) (hret : meth.sig.returnType = none) {pc : Nat} {Ls : Array Slot} (hd : decode c.code pc = .ok (.return_, 1))
    (eT : T.heap = h) (hk : cells ≤ kc) (hs : slots ≤ ks) (hQ : Q none h locs) : OwnEnd p e below s Q kc ks (T.setTop (mkF m pc Ls [])) :=
  done X hlk (fun _ => rfl) (fun fs hr => X.returnOut hx hret hd hr) eT hk hs hQ
theorem nar01 {P : Prop} [Decidable P] : nar .boolean (if P then (1 : Int32) else 0) = if P then (1 : Int32) else 0 := by split <;> rfl
section Call
variable {own : String} {index : Nat} {y z : MethodName} {bytes : ByteArray} {maxL W : Nat} {ret : Option FieldType} {rm : Room} {as' : Array Value} {Qc : Option Value → Heap → List Loc → Prop} {g : JFrame} {argsL rest : List Value}
theorem callStat (X : Stand p l e R s m args below meth c T locs cells slots) (hx : p.tables.exec = Jvm.exec) (hZ : Z.Warmed39 s.vm) (hown : s.vm.findClass own = some m.cls)
    (w1 : (Cond.methodLink own index y).before a0 Z = true) (w2 : (Cond.static y).before a0 Z = true) (w3 : (Cond.initialized y.cls).before a0 Z = true) (w4 : (Cond.code y bytes maxL ret).before a0 Z = true)
    (hy : y.cls ≠ "java/lang/invoke/MethodHandle" ∧ y.cls ≠ "java/lang/invoke/VarHandle")
    (hM : MetFree l y (head1 [Cond.code y bytes maxL ret] rm) (fun a U => a = as' ∧ Z.Warmed39 U.vm ∧ U.heap = h) (fun _ _ _ _ _ => True) (fun _ U o U' => ∃ v L, o = .returned v ∧ Qc v U'.heap L ∧ FrameEnd U o U' L rm.cells rm.slots))
    (hf : rm.frames + 1 ≤ R.frames) (hl : W + (maxL + 11) + rm.locals ≤ R.locals) (eT : T.heap = h) (hg : g.method = m) (hsize : g.locals.size = c.maxLocals) (ha : argsL.toArray = as')
    (hlen : ∀ sig, parseMethodDescriptor y.desc = some sig → argsL.length = sig.parameters.length) (hstack : g.stack = argsL.reverse ++ rest) (hW : 2 * g.monitorRoom + (rest.map fun v => v.category).sum ≤ W) (hdg : decode c.code g.pc = .ok (.invokestatic index, 3))
    (hc : cells + rm.cells ≤ R.cells) (hs : slots + rm.slots ≤ R.slots) :
    ∃ (v : Option Value) (T' : State) (L : List Loc), Stand p l e R s m args below meth c T' (locs ++ L) (cells + rm.cells) (slots + rm.slots) ∧ Qc v T'.heap L ∧ ∀ target, Steps p.tables e below (T'.setTop { g with pc := g.pc + 3, stack := v.toList ++ rest }) target → Steps p.tables e below (T.setTop g) target := by
  obtain ⟨v, _, ⟨T', L', k', n'⟩, -, X', ⟨L, hQ, l1, l2, l3⟩, st⟩ := Jvm.LawKit.callS X hx hown (mvT hZ w1) (mvT hZ w2) (mvT hZ w3) (mvT hZ w4) hy (backOf (W := W) hM hZ w4 w3 hf hl) (g := g) hg hsize (argsL := argsL) (rest := rest) hlen hstack hW hdg (fun _ _ => ⟨ha, eT, hc, hs⟩)
  dsimp only [Pt.U, Pt.locs, Pt.cells, Pt.slots] at X' l1 l2 l3 st hQ
  subst l1 l2 l3
  exact ⟨v, T', L, X', hQ, st⟩
theorem callInit (X : Stand p l e R s m args below meth c T locs cells slots) (hx : p.tables.exec = Jvm.exec) (hZ : Z.Warmed39 s.vm) (hown : s.vm.findClass own = some m.cls) (hy1 : y.name = "<init>")
    (w1 : (Cond.methodLink own index y).before a0 Z = true) (w2 : (Cond.instanceMethod y).before a0 Z = true) (w3 : (Cond.initialized y.cls).before a0 Z = true) (w4 : (Cond.code y bytes maxL none).before a0 Z = true)
    (hy : y.cls ≠ "java/lang/invoke/MethodHandle" ∧ y.cls ≠ "java/lang/invoke/VarHandle")
    (hM : MetFree l y (head1 [Cond.code y bytes maxL none] rm) (fun a U => a = as' ∧ Z.Warmed39 U.vm ∧ U.heap = h) (fun _ _ _ _ _ => True) (fun _ U o U' => ∃ v L, o = .returned v ∧ Qc v U'.heap L ∧ FrameEnd U o U' L rm.cells rm.slots))
    (hf : rm.frames + 1 ≤ R.frames) (hl : W + (maxL + 11) + rm.locals ≤ R.locals) (eT : T.heap = h) (hg : g.method = m) (hsize : g.locals.size = c.maxLocals) {a : Addr} (ha : (Value.ref a :: argsL).toArray = as')
    (hlen : ∀ sig, parseMethodDescriptor y.desc = some sig → argsL.length = sig.parameters.length) (hstack : g.stack = argsL.reverse ++ .ref a :: rest) (hW : 2 * g.monitorRoom + (rest.map fun v => v.category).sum ≤ W) (hdg : decode c.code g.pc = .ok (.invokespecial index, 3))
    (hc : cells + rm.cells ≤ R.cells) (hs : slots + rm.slots ≤ R.slots) :
    ∃ (v : Option Value) (T' : State) (L : List Loc), Stand p l e R s m args below meth c T' (locs ++ L) (cells + rm.cells) (slots + rm.slots) ∧ Qc v T'.heap L ∧ ∀ target, Steps p.tables e below (T'.setTop { g with pc := g.pc + 3, stack := v.toList ++ rest }) target → Steps p.tables e below (T.setTop g) target := by
  obtain ⟨v, _, ⟨T', L', k', n'⟩, -, X', ⟨L, hQ, l1, l2, l3⟩, st⟩ := X.specialBack hx hy1 hown (mvT hZ w1) (mvT hZ w2) (mvT hZ w4) hy (backOf (W := W) hM hZ w4 w3 hf hl) (g := g) hg hsize (Steps.refl _) (a := a) (argsL := argsL) (rest := rest) hlen hstack hW hdg (fun _ _ => ⟨ha, eT, hc, hs⟩)
  dsimp only [Pt.U, Pt.locs, Pt.cells, Pt.slots] at X' l1 l2 l3 st hQ
  subst l1 l2 l3
  exact ⟨v, T', L, X', hQ, fun _ k => st.trans k⟩
theorem callVirt (X : Stand p l e R s m args below meth c T locs cells slots) (hx : p.tables.exec = Jvm.exec) (hZ : Z.Warmed39 s.vm) (hown : s.vm.findClass own = some m.cls) {C : String}
    (w1 : (Cond.methodLink own index y).before a0 Z = true) (w2 : (Cond.declares y).before a0 Z = true) (hnf : NotFace s y) (w3 : (Cond.selects C y z).before a0 Z = true) (w5 : (Cond.instanceMethod z).before a0 Z = true) (w6 : (Cond.initialized z.cls).before a0 Z = true) (w4 : (Cond.code z bytes maxL ret).before a0 Z = true)
    (hy : y.cls ≠ "java/lang/invoke/MethodHandle" ∧ y.cls ≠ "java/lang/invoke/VarHandle")
    (hM : MetFree l z (head1 [Cond.code z bytes maxL ret] rm) (fun a U => a = as' ∧ Z.Warmed39 U.vm ∧ U.heap = h) (fun _ _ _ _ _ => True) (fun _ U o U' => ∃ v L, o = .returned v ∧ Qc v U'.heap L ∧ FrameEnd U o U' L rm.cells rm.slots))
    (hf : rm.frames + 1 ≤ R.frames) (hl : W + (maxL + 11) + rm.locals ≤ R.locals) (eT : T.heap = h) {a : Addr} (E : Exa Z h a C) (hg : g.method = m) (hsize : g.locals.size = c.maxLocals) (ha : (Value.ref a :: argsL).toArray = as')
    (hlen : ∀ sig, parseMethodDescriptor y.desc = some sig → argsL.length = sig.parameters.length) (hstack : g.stack = argsL.reverse ++ .ref a :: rest) (hW : 2 * g.monitorRoom + (rest.map fun v => v.category).sum ≤ W) (hdg : decode c.code g.pc = .ok (.invokevirtual index, 3))
    (hc : cells + rm.cells ≤ R.cells) (hs : slots + rm.slots ≤ R.slots) :
    ∃ (v : Option Value) (T' : State) (L : List Loc), Stand p l e R s m args below meth c T' (locs ++ L) (cells + rm.cells) (slots + rm.slots) ∧ Qc v T'.heap L ∧ ∀ target, Steps p.tables e below (T'.setTop { g with pc := g.pc + 3, stack := v.toList ++ rest }) target → Steps p.tables e below (T.setTop g) target := by
  obtain ⟨cq, kq, q1, q2, q3⟩ := isOf hZ eT E
  obtain ⟨v, _, ⟨T', L', k', n'⟩, -, X', ⟨L, hQ, l1, l2, l3⟩, st⟩ := X.virtualBack hx hown (mvT hZ w1) (mvT hZ w2) hnf (mvT hZ w3) (mvT hZ w5) hy (backOf (W := W) hM hZ w4 w6 hf hl) q1 q3 (g := g) hg hsize (Steps.refl _) (argsL := argsL) (rest := rest) hlen hstack hW hdg (fun _ _ => ⟨ha, eT, hc, hs⟩)
  dsimp only [Pt.U, Pt.locs, Pt.cells, Pt.slots] at X' l1 l2 l3 st hQ
  subst l1 l2 l3
  exact ⟨v, T', L, X', hQ, fun _ k => st.trans k⟩
theorem callUp (X : Stand p l e R s m args below meth c T locs cells slots) (hx : p.tables.exec = Jvm.exec) (hZ : Z.Warmed39 s.vm) (hown : s.vm.findClass own = some m.cls) {C owner : String}
    (w1 : (Cond.methodLink own index y).before a0 Z = true) (w0 : (Cond.sameMethod y.cls owner y.name y.desc).before a0 Z = true) (w2 : (Cond.declares ⟨owner, y.name, y.desc⟩).before a0 Z = true) (ho : owner ≠ "java/lang/invoke/MethodHandle" ∧ owner ≠ "java/lang/invoke/VarHandle")
    (w3 : (Cond.selects C y z).before a0 Z = true) (w5 : (Cond.instanceMethod z).before a0 Z = true) (w6 : (Cond.initialized z.cls).before a0 Z = true) (w4 : (Cond.code z bytes maxL ret).before a0 Z = true)
    (hM : MetFree l z (head1 [Cond.code z bytes maxL ret] rm) (fun a U => a = as' ∧ Z.Warmed39 U.vm ∧ U.heap = h) (fun _ _ _ _ _ => True) (fun _ U o U' => ∃ v L, o = .returned v ∧ Qc v U'.heap L ∧ FrameEnd U o U' L rm.cells rm.slots))
    (hf : rm.frames + 1 ≤ R.frames) (hl : W + (maxL + 11) + rm.locals ≤ R.locals) (eT : T.heap = h) {a : Addr} (E : Exa Z h a C) (hg : g.method = m) (hsize : g.locals.size = c.maxLocals) (ha : (Value.ref a :: argsL).toArray = as')
    (hlen : ∀ sig, parseMethodDescriptor y.desc = some sig → argsL.length = sig.parameters.length) (hstack : g.stack = argsL.reverse ++ .ref a :: rest) (hW : 2 * g.monitorRoom + (rest.map fun v => v.category).sum ≤ W) (hdg : decode c.code g.pc = .ok (.invokevirtual index, 3))
    (hc : cells + rm.cells ≤ R.cells) (hs : slots + rm.slots ≤ R.slots) :
    ∃ (v : Option Value) (T' : State) (L : List Loc), Stand p l e R s m args below meth c T' (locs ++ L) (cells + rm.cells) (slots + rm.slots) ∧ Qc v T'.heap L ∧ ∀ target, Steps p.tables e below (T'.setTop { g with pc := g.pc + 3, stack := v.toList ++ rest }) target → Steps p.tables e below (T.setTop g) target := by
  obtain ⟨cq, kq, q1, q2, q3⟩ := isOf hZ eT E
  obtain ⟨v, _, ⟨T', L', k', n'⟩, -, X', ⟨L, hQ, l1, l2, l3⟩, st⟩ := X.virtualBackUp hx hown (mvT hZ w1) (mvT hZ w0) (mvT hZ w2) ho (mvT hZ w3) (mvT hZ w5) (backOf (W := W) hM hZ w4 w6 hf hl) q1 q3 (g := g) hg hsize (Steps.refl _) (argsL := argsL) (rest := rest) hlen hstack hW hdg (fun _ _ => ⟨ha, eT, hc, hs⟩)
  dsimp only [Pt.U, Pt.locs, Pt.cells, Pt.slots] at X' l1 l2 l3 st hQ
  subst l1 l2 l3
  exact ⟨v, T', L, X', hQ, fun _ k => st.trans k⟩
theorem callPriv (X : Stand p l e R s m args below meth c T locs cells slots) (hx : p.tables.exec = Jvm.exec) (hZ : Z.Warmed39 s.vm) (hown : s.vm.findClass own = some m.cls) {C : String} {kk : Nat}
    (w1 : (Cond.methodLink own index y).before a0 Z = true) (w2 : (Cond.instanceMethod y).before a0 Z = true) (wp : (Cond.privateMethod y).before a0 Z = true) (wi : (Cond.instantiable y.cls kk).before a0 Z = true) (w6 : (Cond.initialized y.cls).before a0 Z = true) (w4 : (Cond.code y bytes maxL ret).before a0 Z = true)
    (hy : y.cls ≠ "java/lang/invoke/MethodHandle" ∧ y.cls ≠ "java/lang/invoke/VarHandle")
    (hM : MetFree l y (head1 [Cond.code y bytes maxL ret] rm) (fun a U => a = as' ∧ Z.Warmed39 U.vm ∧ U.heap = h) (fun _ _ _ _ _ => True) (fun _ U o U' => ∃ v L, o = .returned v ∧ Qc v U'.heap L ∧ FrameEnd U o U' L rm.cells rm.slots))
    (hf : rm.frames + 1 ≤ R.frames) (hl : W + (maxL + 11) + rm.locals ≤ R.locals) (eT : T.heap = h) {a : Addr} (E : Exa Z h a C) (hg : g.method = m) (hsize : g.locals.size = c.maxLocals) (ha : (Value.ref a :: argsL).toArray = as')
    (hlen : ∀ sig, parseMethodDescriptor y.desc = some sig → argsL.length = sig.parameters.length) (hstack : g.stack = argsL.reverse ++ .ref a :: rest) (hW : 2 * g.monitorRoom + (rest.map fun v => v.category).sum ≤ W) (hdg : decode c.code g.pc = .ok (.invokevirtual index, 3))
    (hc : cells + rm.cells ≤ R.cells) (hs : slots + rm.slots ≤ R.slots) :
    ∃ (v : Option Value) (T' : State) (L : List Loc), Stand p l e R s m args below meth c T' (locs ++ L) (cells + rm.cells) (slots + rm.slots) ∧ Qc v T'.heap L ∧ ∀ target, Steps p.tables e below (T'.setTop { g with pc := g.pc + 3, stack := v.toList ++ rest }) target → Steps p.tables e below (T.setTop g) target := by
  obtain ⟨c2, k2, i1, i2, -, i4, -⟩ := Cond.instantiable_spec (mvT hZ wi (args := args))
  simp only [Bool.or_eq_false_iff] at i4
  have hpriv := Cond.privateMethod_at (mvP hZ wp (args := args))
  have hsel := selects_self_of_private (args := args) i1 i2 i4.1 hpriv (mvT hZ w2) hy
  obtain ⟨cl, q1, q2⟩ := E.cell
  obtain ⟨v, _, ⟨T', L', k', n'⟩, -, X', ⟨L, hQ, l1, l2, l3⟩, st⟩ := X.privateBack hx hown (mvT hZ w1) (mvT hZ w2) hsel hpriv (mvT hZ w4) hy (backOf (W := W) hM hZ w4 w6 hf hl) (g := g) hg hsize (Steps.refl _) (a := a) (cell := cl) (by rw [eT]; exact q1) q2 (argsL := argsL) (rest := rest) hlen hstack hW hdg (fun _ _ => ⟨ha, eT, hc, hs⟩)
  dsimp only [Pt.U, Pt.locs, Pt.cells, Pt.slots] at X' l1 l2 l3 st hQ
  subst l1 l2 l3
  exact ⟨v, T', L, X', hQ, fun _ k => st.trans k⟩
theorem callFace (X : Stand p l e R s m args below meth c T locs cells slots) (hx : p.tables.exec = Jvm.exec) (hZ : Z.Warmed39 s.vm) (hown : s.vm.findClass own = some m.cls) {C : String} {count : Nat}
    (w1 : (Cond.methodLink own index y).before a0 Z = true) (w2 : (Cond.declares y).before a0 Z = true) (wf : (Cond.interfaceMethod y.cls y.cls y.name y.desc).before args s = true) (w3 : (Cond.selects C y z).before a0 Z = true) (w5 : (Cond.instanceMethod z).before a0 Z = true) (wu : (Cond.publicMethod z).before a0 Z = true) (wh : (Cond.unhidden C y.name y.desc).before a0 Z = true) (wk : (Cond.castable C y.cls).before a0 Z = true) (w6 : (Cond.initialized z.cls).before a0 Z = true) (w4 : (Cond.code z bytes maxL ret).before a0 Z = true)
    (hy : y.cls ≠ "java/lang/invoke/MethodHandle" ∧ y.cls ≠ "java/lang/invoke/VarHandle")
    (hM : MetFree l z (head1 [Cond.code z bytes maxL ret] rm) (fun a U => a = as' ∧ Z.Warmed39 U.vm ∧ U.heap = h) (fun _ _ _ _ _ => True) (fun _ U o U' => ∃ v L, o = .returned v ∧ Qc v U'.heap L ∧ FrameEnd U o U' L rm.cells rm.slots))
    (hf : rm.frames + 1 ≤ R.frames) (hl : W + (maxL + 11) + rm.locals ≤ R.locals) (eT : T.heap = h) {a : Addr} (E : Exa Z h a C) (hg : g.method = m) (hsize : g.locals.size = c.maxLocals) (ha : (Value.ref a :: argsL).toArray = as')
    (hlen : ∀ sig, parseMethodDescriptor y.desc = some sig → argsL.length = sig.parameters.length) (hstack : g.stack = argsL.reverse ++ .ref a :: rest) (hW : 2 * g.monitorRoom + (rest.map fun v => v.category).sum ≤ W) (hdg : decode c.code g.pc = .ok (.invokeinterface index count, 5))
    (hc : cells + rm.cells ≤ R.cells) (hs : slots + rm.slots ≤ R.slots) :
    ∃ (v : Option Value) (T' : State) (L : List Loc), Stand p l e R s m args below meth c T' (locs ++ L) (cells + rm.cells) (slots + rm.slots) ∧ Qc v T'.heap L ∧ ∀ target, Steps p.tables e below (T'.setTop { g with pc := g.pc + 5, stack := v.toList ++ rest }) target → Steps p.tables e below (T.setTop g) target := by
  obtain ⟨cq, kq, q1, q2, q3⟩ := isOf hZ eT E
  obtain ⟨v, _, ⟨T', L', k', n'⟩, -, X', ⟨L, hQ, l1, l2, l3⟩, st⟩ := X.interfaceBack hx hown (mvT hZ w1) (mvT hZ w2) wf (mvT hZ w3) (mvT hZ w5) (mvT hZ wu) (mvT hZ wh) (mvT hZ wk) hy (backOf (W := W) hM hZ w4 w6 hf hl) q1 q2 q3 (g := g) hg hsize (Steps.refl _) (argsL := argsL) (rest := rest) hlen hstack hW hdg (fun _ _ => ⟨ha, eT, hc, hs⟩)
  dsimp only [Pt.U, Pt.locs, Pt.cells, Pt.slots] at X' l1 l2 l3 st hQ
  subst l1 l2 l3
  exact ⟨v, T', L, X', hQ, fun _ k => st.trans k⟩
end Call
/-- an object of C is none of K (K a class that can be made) -/
theorem NSroot {O K : String} {kk : Nat} (w : (Cond.noSuperclass O).before a0 Z = true) (wk : (Cond.instantiable K kk).before a0 Z = true) (hn : O ≠ K) : NS Z O K := by
  obtain ⟨c, k, h1, h2, h3, -, -⟩ := Cond.noSuperclass_spec w
  obtain ⟨t, kt, g1, -⟩ := Cond.instantiable_spec wk
  have ne := ids_ne h1 g1 hn
  refine ⟨c, t, h1, g1, fun fuel => ?_⟩
  cases fuel with
  | zero => rfl
  | succ f => simp [Vm.isSubclassAux, ne, h2, h3]
theorem NSno {C S K : String} {kk : Nat} (w : (Cond.superclass C S).before a0 Z = true) (wk : (Cond.instantiable K kk).before a0 Z = true) (n : NS Z C K) (hn : C ≠ K) : ∃ c t, Z.vm.findClass C = some c ∧ Z.vm.findClass K = some t ∧ Z.vm.assignable c t = false := by
  obtain ⟨c, t, h0, g0, n3⟩ := n
  obtain ⟨p, k, kp, h1, h2, h3, h4, h5, -, h7⟩ := Cond.superclass_spec h0 w
  obtain ⟨t', k', g1, g2, g5, g7, -⟩ := Cond.instantiable_spec wk
  cases g0.symm.trans g1
  simp only [Bool.or_eq_false_iff] at g7
  have ne := ids_ne h0 g0 hn
  refine ⟨c, t, h0, g0, ?_⟩
  show Z.vm.assignableAux (255 + 1) c t = false
  simp [Vm.assignableAux, ne, h2, g2, h5, g5, g7.1, Vm.isSubclass, n3]
end Own
end Jvm.OwnKit
namespace Jvm.Pilot.@@N@@
open Jvm Jvm.ClassFile Sem Op Lib Jvm.Free Jvm.Stand Jvm.LawKit Jvm.RoadKit Bundle Jvm.OwnKit Jvm.Pilot.@@N@@.Jvm.D

theorem own_k6 (a k : Int32) (q : (a &&& 2147483647) % 6 = k) : k = 0 ∨ k = 1 ∨ k = 2 ∨ k = 3 ∨ k = 4 ∨ k = 5 := by
  have h1 : (a &&& 2147483647).toInt = a.toInt % (2 ^ 31 : Nat) := c_mask a 2147483647 31 (by decide) (by decide)
  obtain ⟨h2, h3⟩ := c_irem (a &&& 2147483647) 6 6 (by decide)
  have h4 := h2 (by omega)
  rw [q] at h4
  simp only [← Int32.toInt_inj, Int32.reduceToInt]
  omega

theorem own_fld {args : Array Value} {s : State} {t : Term} {C f d : String} {w : Addr} {k : Int32} (tw : t.eval args s none [] s = some (.ref w)) (h : (Jvm.Cond.eq (Jvm.Term.field t C f d) (Jvm.Term.int k)).value args s none s [] = some true) : Fld s s.heap w C f d (.int k) := by
  obtain ⟨x, y, e1, e2, k1, k2⟩ := cmp_v (Or.inl h)
  have e3 : y = .int k := (Option.some.inj e2).symm
  subst e3
  obtain ⟨z, rfl⟩ := k2
  have e4 : z = k := gotT (Cond.eq_ints e1 rfl) h
  subst e4
  exact Fld.start (by rw [← Jvm.RoadKit.fld_at tw]; exact e1)
abbrev fL0 (y0 : Int32) (y1 : Int32) : Array Slot := #[.val (.int y0), .val (.int y1), .unset, .unset, .unset, .unset]
abbrev fL1 (y0 : Int32) (y1 : Int32) (y2 : Int32) : Array Slot := #[.val (.int y0), .val (.int y1), .val (.int y2), .unset, .unset, .unset]
abbrev fL2 (y0 : Int32) (y1 : Int32) (y2 : Int32) (y3 : Addr) : Array Slot := #[.val (.int y0), .val (.int y1), .val (.int y2), .val (.ref y3), .unset, .unset]
abbrev fL3 (y0 : Int32) (y1 : Int32) (y2 : Int32) (y3 : Addr) (y4 : Int32) : Array Slot := #[.val (.int y0), .val (.int y1), .val (.int y2), .val (.ref y3), .val (.int y4), .unset]
abbrev fL4 (y0 : Int32) (y1 : Int32) (y2 : Int32) (y3 : Addr) (y4 : Int32) (y5 : Int32) : Array Slot := #[.val (.int y0), .val (.int y1), .val (.int y2), .val (.ref y3), .val (.int y4), .val (.int y5)]
theorem d_jdk_37_method_2_code_0 : decode jdk_37_method_2_code 0 = .ok (.aload_n 0, 1) := by decide +kernel
theorem d_jdk_37_method_2_code_1 : decode jdk_37_method_2_code 1 = .ok (.getfield 7, 3) := by decide +kernel
theorem d_jdk_37_method_2_code_4 : decode jdk_37_method_2_code 4 = .ok (.ireturn, 1) := by decide +kernel
theorem pn_java_lang_Enum : plainName "java/lang/Enum" = true := by first | (simp [plainName, overriddenIn]; done) | decide +kernel
theorem ef_rm_ord (m : MethodId) (y0 : Addr) : entryFrame m #[(.ref y0)] 1 = mkF m 0 #[.val (.ref y0)] [] := by first | (simp [entryFrame, mkF, argsToLocals, Value.category]; done) | rfl
def Q_rm_ord (Z : State) (a0' : Addr) (k : Int32) (h0 : Heap) (n0 : Nat) (v : Option Value) (h : Heap) (L : List Loc) : Prop := v = some (.int k) ∧ Fr n0 L ∧ h = h0
set_option maxRecDepth 65536 in
set_option maxHeartbeats 40000000 in
theorem rm_ord (l : Launch) (Z : State) (a0 : Array Value) (hw : ∀ d ∈ tables_1, d.before a0 Z = true) (ws : List Jvm.Cond) (a0' : Addr) (k : Int32) (h0 : Heap) (n0 : Nat) (FO : Fld Z h0 a0' "java/lang/Enum" "ordinal" "I" (.int k)) :
    MetFree l (⟨"java/lang/Enum", "ordinal", "()I"⟩ : MethodName) (head1 (Jvm.Cond.code (⟨"java/lang/Enum", "ordinal", "()I"⟩ : MethodName) jdk_37_method_2_code 1 (some .int) :: ws) ({ frames := 0, cells := 0, slots := 0, locals := 0 } : Room)) (fun a U => a = #[(.ref a0')] ∧ Z.Warmed39 U.vm ∧ U.heap = h0) (fun _ _ _ _ _ => True) (fun _ U o U' => ∃ v L, o = .returned v ∧ Q_rm_ord Z a0' k h0 n0 v U'.heap L ∧ FrameEnd U o U' L 0 0) := by
  refine MetFree.of_bodySF (plainFor_of_name pn_java_lang_Enum) hisR ?_
  intro p e s m args below meth c s₁ Bd hml0 hP hK
  obtain ⟨rfl, hZ, hh⟩ := hP
  have hx := Bd.exec
  have hby := Bd.bytes
  have hlk := Bd.notSynchronized
  have hml : c.maxLocals = 1 := hml0
  have hown : s.vm.findClass "java/lang/Enum" = some m.cls := findClass_of_methodNamed Bd.named
  have hnm := (name_of_methodNamed Bd.named Bd.method).1
  have X0 : Stand p l e ({ frames := 0, cells := 0, slots := 0, locals := 0 } : Room) s m #[(.ref a0')] below meth c s₁ [] 0 0 := Stand.of_body Bd
  have e0 : s₁.heap = h0 := by rw [← hh, Bd.state]; rfl
  have N0 := Fr.nil n0
  show OwnEnd p e below s (Q_rm_ord Z a0' k h0 n0) 0 0 (s₁.setTop (entryFrame m #[(.ref a0')] 1))
  refine go (fun t k => castTop (ef_rm_ord m a0') k) ?_
  show OwnEnd _ _ _ _ _ _ _ (s₁.setTop (mkF m 0 #[.val (.ref a0')] []))
  refine go (fun _ k => by refine XS.aloadN X0.here hx rfl (hb hby d_jdk_37_method_2_code_0) rfl rfl ?_; exact k) ?_
  show OwnEnd _ _ _ _ _ _ _ (s₁.setTop (mkF m 1 #[.val (.ref a0')] [(.ref a0')]))
  obtain ⟨T1, X1, e1, st1⟩ := getF X0 hx hZ hown (host := "") (Or.inl (hw _ (List.mem_of_getElem? (i := 23) rfl))) Via.refl e0 FO (g := (mkF m 1 #[.val (.ref a0')] [(.ref a0')])) rfl rfl (hb hby d_jdk_37_method_2_code_1)
  refine go st1 ?_
  show OwnEnd _ _ _ _ _ _ _ (T1.setTop (mkF m 4 #[.val (.ref a0')] [(.int k)]))
  refine endI X1 hx hlk Bd.returns (hb hby d_jdk_37_method_2_code_4) e1 (by decide) (by decide) ?_
  exact ⟨rfl, N0, rfl⟩
theorem d_method_3_code_0 : decode method_3_code 0 = .ok (.iload_n 0, 1) := by decide +kernel
theorem d_method_3_code_1 : decode method_3_code 1 = .ok (.ifCond .ne 7, 3) := by decide +kernel
theorem d_method_3_code_4 : decode method_3_code 4 = .ok (.getstatic 7, 3) := by decide +kernel
theorem d_method_3_code_7 : decode method_3_code 7 = .ok (.areturn, 1) := by decide +kernel
theorem pn_com_example_minder_minder_model_ComparisonHoldsPinLaw : plainName "com/example/minder/minder/model/ComparisonHoldsPinLaw" = true := by first | (simp [plainName, overriddenIn]; done) | decide +kernel
theorem ef_rm_pick0 (m : MethodId)  : entryFrame m #[(.int (0 : Int32))] 1 = mkF m 0 #[.val (.int (0 : Int32))] [] := by first | (simp [entryFrame, mkF, argsToLocals, Value.category]; done) | rfl
def Q_rm_pick0 (Z : State) (w : Addr) (h0 : Heap) (n0 : Nat) (v : Option Value) (h : Heap) (L : List Loc) : Prop := v = some (.ref w) ∧ Fr n0 L ∧ h = h0
set_option maxRecDepth 65536 in
set_option maxHeartbeats 40000000 in
theorem rm_pick0 (l : Launch) (Z : State) (a0 : Array Value) (hw : ∀ d ∈ tables_1, d.before a0 Z = true) (ws : List Jvm.Cond) (w : Addr) (h0 : Heap) (n0 : Nat) (SS : Sta Z h0 "com/example/minder/minder/model/Comparison" "LESS" "Lcom/example/minder/minder/model/Comparison;" (.ref w)) :
    MetFree l (⟨"com/example/minder/minder/model/ComparisonHoldsPinLaw", "pick", "(I)Lcom/example/minder/minder/model/Comparison;"⟩ : MethodName) (head1 (Jvm.Cond.code (⟨"com/example/minder/minder/model/ComparisonHoldsPinLaw", "pick", "(I)Lcom/example/minder/minder/model/Comparison;"⟩ : MethodName) method_3_code 1 (some (.object "com/example/minder/minder/model/Comparison")) :: ws) ({ frames := 0, cells := 0, slots := 0, locals := 0 } : Room)) (fun a U => a = #[(.int (0 : Int32))] ∧ Z.Warmed39 U.vm ∧ U.heap = h0) (fun _ _ _ _ _ => True) (fun _ U o U' => ∃ v L, o = .returned v ∧ Q_rm_pick0 Z w h0 n0 v U'.heap L ∧ FrameEnd U o U' L 0 0) := by
  refine MetFree.of_bodySF (plainFor_of_name pn_com_example_minder_minder_model_ComparisonHoldsPinLaw) hisR ?_
  intro p e s m args below meth c s₁ Bd hml0 hP hK
  obtain ⟨rfl, hZ, hh⟩ := hP
  have hx := Bd.exec
  have hby := Bd.bytes
  have hlk := Bd.notSynchronized
  have hml : c.maxLocals = 1 := hml0
  have hown : s.vm.findClass "com/example/minder/minder/model/ComparisonHoldsPinLaw" = some m.cls := findClass_of_methodNamed Bd.named
  have hnm := (name_of_methodNamed Bd.named Bd.method).1
  have X0 : Stand p l e ({ frames := 0, cells := 0, slots := 0, locals := 0 } : Room) s m #[(.int (0 : Int32))] below meth c s₁ [] 0 0 := Stand.of_body Bd
  have e0 : s₁.heap = h0 := by rw [← hh, Bd.state]; rfl
  have N0 := Fr.nil n0
  show OwnEnd p e below s (Q_rm_pick0 Z w h0 n0) 0 0 (s₁.setTop (entryFrame m #[(.int (0 : Int32))] 1))
  refine go (fun t k => castTop (ef_rm_pick0 m ) k) ?_
  show OwnEnd _ _ _ _ _ _ _ (s₁.setTop (mkF m 0 #[.val (.int (0 : Int32))] []))
  refine go (fun _ k => by refine XS.iloadN X0.here hx rfl (hb hby d_method_3_code_0) rfl ?_; exact k) ?_
  show OwnEnd _ _ _ _ _ _ _ (s₁.setTop (mkF m 1 #[.val (.int (0 : Int32))] [(.int (0 : Int32))]))
  refine go (fun _ k => by refine XS.ifNo X0.here hx rfl (hb hby d_method_3_code_1) rfl ((if0 _ _).trans (teq (by decide)).2) ?_; exact k) ?_
  show OwnEnd _ _ _ _ _ _ _ (s₁.setTop (mkF m 4 #[.val (.int (0 : Int32))] []))
  obtain ⟨T1, X1, e1, st1⟩ := getS2 X0 hx hZ hown (host := "") (Or.inl (hw _ (List.mem_of_getElem? (i := 5) rfl))) Via.refl e0 SS (g := (mkF m 4 #[.val (.int (0 : Int32))] [])) rfl (hb hby d_method_3_code_4)
  refine go st1 ?_
  show OwnEnd _ _ _ _ _ _ _ (T1.setTop (mkF m 7 #[.val (.int (0 : Int32))] [(.ref w)]))
  refine endA X1 hx hlk Bd.returns rfl rfl (hb hby d_method_3_code_7) e1 (by decide) (by decide) ?_
  exact ⟨rfl, N0, rfl⟩
theorem d_method_2_code_0 : decode method_2_code 0 = .ok (.iload_n 0, 1) := by decide +kernel
theorem d_method_2_code_1 : decode method_2_code 1 = .ok (.ifCond .ne 5, 3) := by decide +kernel
theorem d_method_2_code_4 : decode method_2_code 4 = .ok (.iconst 1, 1) := by decide +kernel
theorem d_method_2_code_5 : decode method_2_code 5 = .ok (.ireturn, 1) := by decide +kernel
theorem ef_rm_adm0 (m : MethodId)  : entryFrame m #[(.int (0 : Int32))] 1 = mkF m 0 #[.val (.int (0 : Int32))] [] := by first | (simp [entryFrame, mkF, argsToLocals, Value.category]; done) | rfl
def Q_rm_adm0 (Z : State)  (h0 : Heap) (n0 : Nat) (v : Option Value) (h : Heap) (L : List Loc) : Prop := v = some (.int 1) ∧ Fr n0 L ∧ h = h0
set_option maxRecDepth 65536 in
set_option maxHeartbeats 40000000 in
theorem rm_adm0 (l : Launch) (Z : State) (a0 : Array Value) (hw : ∀ d ∈ tables_1, d.before a0 Z = true) (ws : List Jvm.Cond)  (h0 : Heap) (n0 : Nat) :
    MetFree l (⟨"com/example/minder/minder/model/ComparisonHoldsPinLaw", "admitted", "(I)I"⟩ : MethodName) (head1 (Jvm.Cond.code (⟨"com/example/minder/minder/model/ComparisonHoldsPinLaw", "admitted", "(I)I"⟩ : MethodName) method_2_code 1 (some .int) :: ws) ({ frames := 0, cells := 0, slots := 0, locals := 0 } : Room)) (fun a U => a = #[(.int (0 : Int32))] ∧ Z.Warmed39 U.vm ∧ U.heap = h0) (fun _ _ _ _ _ => True) (fun _ U o U' => ∃ v L, o = .returned v ∧ Q_rm_adm0 Z  h0 n0 v U'.heap L ∧ FrameEnd U o U' L 0 0) := by
  refine MetFree.of_bodySF (plainFor_of_name pn_com_example_minder_minder_model_ComparisonHoldsPinLaw) hisR ?_
  intro p e s m args below meth c s₁ Bd hml0 hP hK
  obtain ⟨rfl, hZ, hh⟩ := hP
  have hx := Bd.exec
  have hby := Bd.bytes
  have hlk := Bd.notSynchronized
  have hml : c.maxLocals = 1 := hml0
  have hown : s.vm.findClass "com/example/minder/minder/model/ComparisonHoldsPinLaw" = some m.cls := findClass_of_methodNamed Bd.named
  have hnm := (name_of_methodNamed Bd.named Bd.method).1
  have X0 : Stand p l e ({ frames := 0, cells := 0, slots := 0, locals := 0 } : Room) s m #[(.int (0 : Int32))] below meth c s₁ [] 0 0 := Stand.of_body Bd
  have e0 : s₁.heap = h0 := by rw [← hh, Bd.state]; rfl
  have N0 := Fr.nil n0
  show OwnEnd p e below s (Q_rm_adm0 Z  h0 n0) 0 0 (s₁.setTop (entryFrame m #[(.int (0 : Int32))] 1))
  refine go (fun t k => castTop (ef_rm_adm0 m ) k) ?_
  show OwnEnd _ _ _ _ _ _ _ (s₁.setTop (mkF m 0 #[.val (.int (0 : Int32))] []))
  refine go (fun _ k => by refine XS.iloadN X0.here hx rfl (hb hby d_method_2_code_0) rfl ?_; exact k) ?_
  show OwnEnd _ _ _ _ _ _ _ (s₁.setTop (mkF m 1 #[.val (.int (0 : Int32))] [(.int (0 : Int32))]))
  refine go (fun _ k => by refine XS.ifNo X0.here hx rfl (hb hby d_method_2_code_1) rfl ((if0 _ _).trans (teq (by decide)).2) ?_; exact k) ?_
  refine go (fun _ k => by refine XS.iconst X0.here hx rfl (hb hby d_method_2_code_4) ?_; exact k) ?_
  show OwnEnd _ _ _ _ _ _ _ (s₁.setTop (mkF m 5 #[.val (.int (0 : Int32))] [(.int (1 : Int32))]))
  refine endI X0 hx hlk Bd.returns (hb hby d_method_2_code_5) e0 (by decide) (by decide) ?_
  exact ⟨rfl, N0, rfl⟩
theorem d_prog_22_method_5_code_0 : decode prog_22_method_5_code 0 = .ok (.aload_n 0, 1) := by decide +kernel
theorem d_prog_22_method_5_code_1 : decode prog_22_method_5_code 1 = .ok (.invokevirtual 55, 3) := by decide +kernel
theorem pd___I : parseMethodDescriptor "()I" = some ⟨[], some .int⟩ := by decide +kernel
theorem d_prog_22_method_5_code_4 : decode prog_22_method_5_code 4 = .ok (.tableswitch 40 0 5 #[50, 62, 74, 86, 98, 110], 40) := by decide +kernel
theorem d_prog_22_method_5_code_54 : decode prog_22_method_5_code 54 = .ok (.iload_n 1, 1) := by decide +kernel
theorem d_prog_22_method_5_code_55 : decode prog_22_method_5_code 55 = .ok (.ifCond .ge 7, 3) := by decide +kernel
theorem d_prog_22_method_5_code_58 : decode prog_22_method_5_code 58 = .ok (.iconst 1, 1) := by decide +kernel
theorem d_prog_22_method_5_code_59 : decode prog_22_method_5_code 59 = .ok (.goto 64, 3) := by decide +kernel
theorem d_prog_22_method_5_code_123 : decode prog_22_method_5_code 123 = .ok (.ireturn, 1) := by decide +kernel
theorem d_prog_22_method_5_code_62 : decode prog_22_method_5_code 62 = .ok (.iconst 0, 1) := by decide +kernel
theorem d_prog_22_method_5_code_63 : decode prog_22_method_5_code 63 = .ok (.goto 60, 3) := by decide +kernel
theorem pn_com_example_minder_minder_model_Comparison : plainName "com/example/minder/minder/model/Comparison" = true := by first | (simp [plainName, overriddenIn]; done) | decide +kernel
theorem ef_rm_holds0 (m : MethodId) (y0 : Addr) (y1 : Int32) : entryFrame m #[(.ref y0), (.int y1)] 2 = mkF m 0 #[.val (.ref y0), .val (.int y1)] [] := by first | (simp [entryFrame, mkF, argsToLocals, Value.category]; done) | rfl
def Q_rm_holds0 (Z : State) (a0' : Addr) (cv : Int32) (h0 : Heap) (n0 : Nat) (v : Option Value) (h : Heap) (L : List Loc) : Prop := v = some (.int (if cv < 0 then (1 : Int32) else 0)) ∧ Fr n0 L ∧ h = h0
set_option maxRecDepth 65536 in
set_option maxHeartbeats 40000000 in
theorem rm_holds0 (l : Launch) (Z : State) (a0 : Array Value) (hw : ∀ d ∈ tables_1, d.before a0 Z = true) (ws : List Jvm.Cond) (a0' : Addr) (cv : Int32) (h0 : Heap) (n0 : Nat) (FO : Fld Z h0 a0' "java/lang/Enum" "ordinal" "I" (.int 0)) (EO : Exa Z h0 a0' "com/example/minder/minder/model/Comparison") :
    MetFree l (⟨"com/example/minder/minder/model/Comparison", "holds", "(I)Z"⟩ : MethodName) (head1 (Jvm.Cond.code (⟨"com/example/minder/minder/model/Comparison", "holds", "(I)Z"⟩ : MethodName) prog_22_method_5_code 2 (some .boolean) :: ws) ({ frames := 1, cells := 0, slots := 0, locals := 12 } : Room)) (fun a U => a = #[(.ref a0'), (.int cv)] ∧ Z.Warmed39 U.vm ∧ U.heap = h0) (fun _ _ _ _ _ => True) (fun _ U o U' => ∃ v L, o = .returned v ∧ Q_rm_holds0 Z a0' cv h0 n0 v U'.heap L ∧ FrameEnd U o U' L 0 0) := by
  refine MetFree.of_bodySF (plainFor_of_name pn_com_example_minder_minder_model_Comparison) hisR ?_
  intro p e s m args below meth c s₁ Bd hml0 hP hK
  obtain ⟨rfl, hZ, hh⟩ := hP
  have hx := Bd.exec
  have hby := Bd.bytes
  have hlk := Bd.notSynchronized
  have hml : c.maxLocals = 2 := hml0
  have hown : s.vm.findClass "com/example/minder/minder/model/Comparison" = some m.cls := findClass_of_methodNamed Bd.named
  have hnm := (name_of_methodNamed Bd.named Bd.method).1
  have X0 : Stand p l e ({ frames := 1, cells := 0, slots := 0, locals := 12 } : Room) s m #[(.ref a0'), (.int cv)] below meth c s₁ [] 0 0 := Stand.of_body Bd
  have e0 : s₁.heap = h0 := by rw [← hh, Bd.state]; rfl
  have N0 := Fr.nil n0
  show OwnEnd p e below s (Q_rm_holds0 Z a0' cv h0 n0) 0 0 (s₁.setTop (entryFrame m #[(.ref a0'), (.int cv)] 2))
  refine go (fun t k => castTop (ef_rm_holds0 m a0' cv) k) ?_
  show OwnEnd _ _ _ _ _ _ _ (s₁.setTop (mkF m 0 #[.val (.ref a0'), .val (.int cv)] []))
  refine go (fun _ k => by refine XS.aloadN X0.here hx rfl (hb hby d_prog_22_method_5_code_0) rfl rfl ?_; exact k) ?_
  show OwnEnd _ _ _ _ _ _ _ (s₁.setTop (mkF m 1 #[.val (.ref a0'), .val (.int cv)] [(.ref a0')]))
  obtain ⟨_, T1, L1, X1, hQ1, st1⟩ := callUp X0 hx hZ hown (hw _ (List.mem_of_getElem? (i := 16) rfl)) (hw _ (List.mem_of_getElem? (i := 17) rfl)) (hw _ (List.mem_of_getElem? (i := 18) rfl)) (by decide) (hw _ (List.mem_of_getElem? (i := 20) rfl)) (hw _ (List.mem_of_getElem? (i := 19) rfl)) (hw _ (List.mem_of_getElem? (i := 21) rfl)) (hw _ (List.mem_of_getElem? (i := 22) rfl)) (rm_ord l Z a0 hw [] a0' (0 : Int32) h0 n0 FO) (W := 0) (by decide) (by decide) e0 EO (g := (mkF m 1 #[.val (.ref a0'), .val (.int cv)] [(.ref a0')])) rfl (by rw [hml]; rfl) (argsL := []) (rest := []) rfl (lenOf pd___I rfl) rfl (by show 2 * 0 + _ ≤ _; exact Nat.le_of_eq rfl) (hb hby d_prog_22_method_5_code_1) (by decide) (by decide)
  obtain ⟨rfl, Nq1, eq1⟩ := hQ1
  have N1 := Fr.app N0 Nq1
  refine go st1 ?_
  show OwnEnd _ _ _ _ _ _ _ (T1.setTop (mkF m 4 #[.val (.ref a0'), .val (.int cv)] [(.int (0 : Int32))]))
  refine go (fun _ k => by refine XS.tswIn X1.here hx rfl (pc0 := 4) (pc' := 54) rfl (hb hby d_prog_22_method_5_code_4) rfl (by decide) (o := 50) (by decide) (by decide) (by decide) ?_; exact k) ?_
  refine go (fun _ k => by refine XS.iloadN X1.here hx rfl (hb hby d_prog_22_method_5_code_54) rfl ?_; exact k) ?_
  show OwnEnd _ _ _ _ _ _ _ (T1.setTop (mkF m 55 #[.val (.ref a0'), .val (.int cv)] [(.int cv)]))
  by_cases hc55_2 : cv < (0 : Int32)
  · refine go (fun _ k => by refine XS.ifNo X1.here hx rfl (hb hby d_prog_22_method_5_code_55) rfl ((if0 _ _).trans (tlt hc55_2).2.1) ?_; exact k) ?_
    show OwnEnd _ _ _ _ _ _ _ (T1.setTop (mkF m 58 #[.val (.ref a0'), .val (.int cv)] []))
    refine go (fun _ k => by refine XS.iconst X1.here hx rfl (hb hby d_prog_22_method_5_code_58) ?_; exact k) ?_
    refine go (fun _ k => by refine XS.goto X1.here hx rfl (pc0 := 59) (pc' := 123) rfl (hb hby d_prog_22_method_5_code_59) (by decide) (by decide) ?_; exact k) ?_
    show OwnEnd _ _ _ _ _ _ _ (T1.setTop (mkF m 123 #[.val (.ref a0'), .val (.int cv)] [(.int (1 : Int32))]))
    refine endN X1 hx hlk (t := .boolean) (by simp) Bd.returns (hb hby d_prog_22_method_5_code_123) eq1 (by decide) (by decide) ?_
    exact ⟨by rw [if_pos (by first | assumption | (simp only [Int32.lt_iff_toInt_lt, ← Int32.toInt_inj, Int32.reduceToInt] at *; omega))]; rfl, N1, rfl⟩
  · refine go (fun _ k => by refine XS.ifYes X1.here hx rfl (pc0 := 55) (pc' := 62) rfl (hb hby d_prog_22_method_5_code_55) rfl ((if0 _ _).trans (flt hc55_2).2.1) (by decide) (by decide) ?_; exact k) ?_
    show OwnEnd _ _ _ _ _ _ _ (T1.setTop (mkF m 62 #[.val (.ref a0'), .val (.int cv)] []))
    refine go (fun _ k => by refine XS.iconst X1.here hx rfl (hb hby d_prog_22_method_5_code_62) ?_; exact k) ?_
    refine go (fun _ k => by refine XS.goto X1.here hx rfl (pc0 := 63) (pc' := 123) rfl (hb hby d_prog_22_method_5_code_63) (by decide) (by decide) ?_; exact k) ?_
    show OwnEnd _ _ _ _ _ _ _ (T1.setTop (mkF m 123 #[.val (.ref a0'), .val (.int cv)] [(.int (0 : Int32))]))
    refine endN X1 hx hlk (t := .boolean) (by simp) Bd.returns (hb hby d_prog_22_method_5_code_123) eq1 (by decide) (by decide) ?_
    exact ⟨by rw [if_neg (by first | assumption | (simp only [Int32.lt_iff_toInt_lt, ← Int32.toInt_inj, Int32.reduceToInt] at *; omega))]; rfl, N1, rfl⟩
theorem d_method_3_code_8 : decode method_3_code 8 = .ok (.iload_n 0, 1) := by decide +kernel
theorem d_method_3_code_9 : decode method_3_code 9 = .ok (.iconst 1, 1) := by decide +kernel
theorem d_method_3_code_10 : decode method_3_code 10 = .ok (.if_icmp .ne 7, 3) := by decide +kernel
theorem d_method_3_code_13 : decode method_3_code 13 = .ok (.getstatic 13, 3) := by decide +kernel
theorem d_method_3_code_16 : decode method_3_code 16 = .ok (.areturn, 1) := by decide +kernel
theorem ef_rm_pick1 (m : MethodId)  : entryFrame m #[(.int (1 : Int32))] 1 = mkF m 0 #[.val (.int (1 : Int32))] [] := by first | (simp [entryFrame, mkF, argsToLocals, Value.category]; done) | rfl
def Q_rm_pick1 (Z : State) (w : Addr) (h0 : Heap) (n0 : Nat) (v : Option Value) (h : Heap) (L : List Loc) : Prop := v = some (.ref w) ∧ Fr n0 L ∧ h = h0
set_option maxRecDepth 65536 in
set_option maxHeartbeats 40000000 in
theorem rm_pick1 (l : Launch) (Z : State) (a0 : Array Value) (hw : ∀ d ∈ tables_1, d.before a0 Z = true) (ws : List Jvm.Cond) (w : Addr) (h0 : Heap) (n0 : Nat) (SS : Sta Z h0 "com/example/minder/minder/model/Comparison" "LESS_OR_EQUAL" "Lcom/example/minder/minder/model/Comparison;" (.ref w)) :
    MetFree l (⟨"com/example/minder/minder/model/ComparisonHoldsPinLaw", "pick", "(I)Lcom/example/minder/minder/model/Comparison;"⟩ : MethodName) (head1 (Jvm.Cond.code (⟨"com/example/minder/minder/model/ComparisonHoldsPinLaw", "pick", "(I)Lcom/example/minder/minder/model/Comparison;"⟩ : MethodName) method_3_code 1 (some (.object "com/example/minder/minder/model/Comparison")) :: ws) ({ frames := 0, cells := 0, slots := 0, locals := 0 } : Room)) (fun a U => a = #[(.int (1 : Int32))] ∧ Z.Warmed39 U.vm ∧ U.heap = h0) (fun _ _ _ _ _ => True) (fun _ U o U' => ∃ v L, o = .returned v ∧ Q_rm_pick1 Z w h0 n0 v U'.heap L ∧ FrameEnd U o U' L 0 0) := by
  refine MetFree.of_bodySF (plainFor_of_name pn_com_example_minder_minder_model_ComparisonHoldsPinLaw) hisR ?_
  intro p e s m args below meth c s₁ Bd hml0 hP hK
  obtain ⟨rfl, hZ, hh⟩ := hP
  have hx := Bd.exec
  have hby := Bd.bytes
  have hlk := Bd.notSynchronized
  have hml : c.maxLocals = 1 := hml0
  have hown : s.vm.findClass "com/example/minder/minder/model/ComparisonHoldsPinLaw" = some m.cls := findClass_of_methodNamed Bd.named
  have hnm := (name_of_methodNamed Bd.named Bd.method).1
  have X0 : Stand p l e ({ frames := 0, cells := 0, slots := 0, locals := 0 } : Room) s m #[(.int (1 : Int32))] below meth c s₁ [] 0 0 := Stand.of_body Bd
  have e0 : s₁.heap = h0 := by rw [← hh, Bd.state]; rfl
  have N0 := Fr.nil n0
  show OwnEnd p e below s (Q_rm_pick1 Z w h0 n0) 0 0 (s₁.setTop (entryFrame m #[(.int (1 : Int32))] 1))
  refine go (fun t k => castTop (ef_rm_pick1 m ) k) ?_
  show OwnEnd _ _ _ _ _ _ _ (s₁.setTop (mkF m 0 #[.val (.int (1 : Int32))] []))
  refine go (fun _ k => by refine XS.iloadN X0.here hx rfl (hb hby d_method_3_code_0) rfl ?_; exact k) ?_
  show OwnEnd _ _ _ _ _ _ _ (s₁.setTop (mkF m 1 #[.val (.int (1 : Int32))] [(.int (1 : Int32))]))
  refine go (fun _ k => by refine XS.ifYes X0.here hx rfl (pc0 := 1) (pc' := 8) rfl (hb hby d_method_3_code_1) rfl ((if0 _ _).trans (feq (by decide)).2) (by decide) (by decide) ?_; exact k) ?_
  refine go (fun _ k => by refine XS.iloadN X0.here hx rfl (hb hby d_method_3_code_8) rfl ?_; exact k) ?_
  refine go (fun _ k => by refine XS.iconst X0.here hx rfl (hb hby d_method_3_code_9) ?_; exact k) ?_
  show OwnEnd _ _ _ _ _ _ _ (s₁.setTop (mkF m 10 #[.val (.int (1 : Int32))] [(.int (1 : Int32)), (.int (1 : Int32))]))
  refine go (fun _ k => by refine XS.icmpNo X0.here hx rfl (hb hby d_method_3_code_10) rfl (teq (by decide)).2 ?_; exact k) ?_
  show OwnEnd _ _ _ _ _ _ _ (s₁.setTop (mkF m 13 #[.val (.int (1 : Int32))] []))
  obtain ⟨T1, X1, e1, st1⟩ := getS2 X0 hx hZ hown (host := "") (Or.inl (hw _ (List.mem_of_getElem? (i := 29) rfl))) Via.refl e0 SS (g := (mkF m 13 #[.val (.int (1 : Int32))] [])) rfl (hb hby d_method_3_code_13)
  refine go st1 ?_
  show OwnEnd _ _ _ _ _ _ _ (T1.setTop (mkF m 16 #[.val (.int (1 : Int32))] [(.ref w)]))
  refine endA X1 hx hlk Bd.returns rfl rfl (hb hby d_method_3_code_16) e1 (by decide) (by decide) ?_
  exact ⟨rfl, N0, rfl⟩
theorem d_method_2_code_6 : decode method_2_code 6 = .ok (.iload_n 0, 1) := by decide +kernel
theorem d_method_2_code_7 : decode method_2_code 7 = .ok (.iconst 1, 1) := by decide +kernel
theorem d_method_2_code_8 : decode method_2_code 8 = .ok (.if_icmp .ne 5, 3) := by decide +kernel
theorem d_method_2_code_11 : decode method_2_code 11 = .ok (.iconst 3, 1) := by decide +kernel
theorem d_method_2_code_12 : decode method_2_code 12 = .ok (.ireturn, 1) := by decide +kernel
theorem ef_rm_adm1 (m : MethodId)  : entryFrame m #[(.int (1 : Int32))] 1 = mkF m 0 #[.val (.int (1 : Int32))] [] := by first | (simp [entryFrame, mkF, argsToLocals, Value.category]; done) | rfl
def Q_rm_adm1 (Z : State)  (h0 : Heap) (n0 : Nat) (v : Option Value) (h : Heap) (L : List Loc) : Prop := v = some (.int 3) ∧ Fr n0 L ∧ h = h0
set_option maxRecDepth 65536 in
set_option maxHeartbeats 40000000 in
theorem rm_adm1 (l : Launch) (Z : State) (a0 : Array Value) (hw : ∀ d ∈ tables_1, d.before a0 Z = true) (ws : List Jvm.Cond)  (h0 : Heap) (n0 : Nat) :
    MetFree l (⟨"com/example/minder/minder/model/ComparisonHoldsPinLaw", "admitted", "(I)I"⟩ : MethodName) (head1 (Jvm.Cond.code (⟨"com/example/minder/minder/model/ComparisonHoldsPinLaw", "admitted", "(I)I"⟩ : MethodName) method_2_code 1 (some .int) :: ws) ({ frames := 0, cells := 0, slots := 0, locals := 0 } : Room)) (fun a U => a = #[(.int (1 : Int32))] ∧ Z.Warmed39 U.vm ∧ U.heap = h0) (fun _ _ _ _ _ => True) (fun _ U o U' => ∃ v L, o = .returned v ∧ Q_rm_adm1 Z  h0 n0 v U'.heap L ∧ FrameEnd U o U' L 0 0) := by
  refine MetFree.of_bodySF (plainFor_of_name pn_com_example_minder_minder_model_ComparisonHoldsPinLaw) hisR ?_
  intro p e s m args below meth c s₁ Bd hml0 hP hK
  obtain ⟨rfl, hZ, hh⟩ := hP
  have hx := Bd.exec
  have hby := Bd.bytes
  have hlk := Bd.notSynchronized
  have hml : c.maxLocals = 1 := hml0
  have hown : s.vm.findClass "com/example/minder/minder/model/ComparisonHoldsPinLaw" = some m.cls := findClass_of_methodNamed Bd.named
  have hnm := (name_of_methodNamed Bd.named Bd.method).1
  have X0 : Stand p l e ({ frames := 0, cells := 0, slots := 0, locals := 0 } : Room) s m #[(.int (1 : Int32))] below meth c s₁ [] 0 0 := Stand.of_body Bd
  have e0 : s₁.heap = h0 := by rw [← hh, Bd.state]; rfl
  have N0 := Fr.nil n0
  show OwnEnd p e below s (Q_rm_adm1 Z  h0 n0) 0 0 (s₁.setTop (entryFrame m #[(.int (1 : Int32))] 1))
  refine go (fun t k => castTop (ef_rm_adm1 m ) k) ?_
  show OwnEnd _ _ _ _ _ _ _ (s₁.setTop (mkF m 0 #[.val (.int (1 : Int32))] []))
  refine go (fun _ k => by refine XS.iloadN X0.here hx rfl (hb hby d_method_2_code_0) rfl ?_; exact k) ?_
  show OwnEnd _ _ _ _ _ _ _ (s₁.setTop (mkF m 1 #[.val (.int (1 : Int32))] [(.int (1 : Int32))]))
  refine go (fun _ k => by refine XS.ifYes X0.here hx rfl (pc0 := 1) (pc' := 6) rfl (hb hby d_method_2_code_1) rfl ((if0 _ _).trans (feq (by decide)).2) (by decide) (by decide) ?_; exact k) ?_
  refine go (fun _ k => by refine XS.iloadN X0.here hx rfl (hb hby d_method_2_code_6) rfl ?_; exact k) ?_
  refine go (fun _ k => by refine XS.iconst X0.here hx rfl (hb hby d_method_2_code_7) ?_; exact k) ?_
  show OwnEnd _ _ _ _ _ _ _ (s₁.setTop (mkF m 8 #[.val (.int (1 : Int32))] [(.int (1 : Int32)), (.int (1 : Int32))]))
  refine go (fun _ k => by refine XS.icmpNo X0.here hx rfl (hb hby d_method_2_code_8) rfl (teq (by decide)).2 ?_; exact k) ?_
  refine go (fun _ k => by refine XS.iconst X0.here hx rfl (hb hby d_method_2_code_11) ?_; exact k) ?_
  show OwnEnd _ _ _ _ _ _ _ (s₁.setTop (mkF m 12 #[.val (.int (1 : Int32))] [(.int (3 : Int32))]))
  refine endI X0 hx hlk Bd.returns (hb hby d_method_2_code_12) e0 (by decide) (by decide) ?_
  exact ⟨rfl, N0, rfl⟩
theorem d_prog_22_method_5_code_66 : decode prog_22_method_5_code 66 = .ok (.iload_n 1, 1) := by decide +kernel
theorem d_prog_22_method_5_code_67 : decode prog_22_method_5_code 67 = .ok (.ifCond .gt 7, 3) := by decide +kernel
theorem d_prog_22_method_5_code_74 : decode prog_22_method_5_code 74 = .ok (.iconst 0, 1) := by decide +kernel
theorem d_prog_22_method_5_code_75 : decode prog_22_method_5_code 75 = .ok (.goto 48, 3) := by decide +kernel
theorem d_prog_22_method_5_code_70 : decode prog_22_method_5_code 70 = .ok (.iconst 1, 1) := by decide +kernel
theorem d_prog_22_method_5_code_71 : decode prog_22_method_5_code 71 = .ok (.goto 52, 3) := by decide +kernel
theorem ef_rm_holds1 (m : MethodId) (y0 : Addr) (y1 : Int32) : entryFrame m #[(.ref y0), (.int y1)] 2 = mkF m 0 #[.val (.ref y0), .val (.int y1)] [] := by first | (simp [entryFrame, mkF, argsToLocals, Value.category]; done) | rfl
def Q_rm_holds1 (Z : State) (a0' : Addr) (cv : Int32) (h0 : Heap) (n0 : Nat) (v : Option Value) (h : Heap) (L : List Loc) : Prop := v = some (.int (if ¬ 0 < cv then (1 : Int32) else 0)) ∧ Fr n0 L ∧ h = h0
set_option maxRecDepth 65536 in
set_option maxHeartbeats 40000000 in
theorem rm_holds1 (l : Launch) (Z : State) (a0 : Array Value) (hw : ∀ d ∈ tables_1, d.before a0 Z = true) (ws : List Jvm.Cond) (a0' : Addr) (cv : Int32) (h0 : Heap) (n0 : Nat) (FO : Fld Z h0 a0' "java/lang/Enum" "ordinal" "I" (.int 1)) (EO : Exa Z h0 a0' "com/example/minder/minder/model/Comparison") :
    MetFree l (⟨"com/example/minder/minder/model/Comparison", "holds", "(I)Z"⟩ : MethodName) (head1 (Jvm.Cond.code (⟨"com/example/minder/minder/model/Comparison", "holds", "(I)Z"⟩ : MethodName) prog_22_method_5_code 2 (some .boolean) :: ws) ({ frames := 1, cells := 0, slots := 0, locals := 12 } : Room)) (fun a U => a = #[(.ref a0'), (.int cv)] ∧ Z.Warmed39 U.vm ∧ U.heap = h0) (fun _ _ _ _ _ => True) (fun _ U o U' => ∃ v L, o = .returned v ∧ Q_rm_holds1 Z a0' cv h0 n0 v U'.heap L ∧ FrameEnd U o U' L 0 0) := by
  refine MetFree.of_bodySF (plainFor_of_name pn_com_example_minder_minder_model_Comparison) hisR ?_
  intro p e s m args below meth c s₁ Bd hml0 hP hK
  obtain ⟨rfl, hZ, hh⟩ := hP
  have hx := Bd.exec
  have hby := Bd.bytes
  have hlk := Bd.notSynchronized
  have hml : c.maxLocals = 2 := hml0
  have hown : s.vm.findClass "com/example/minder/minder/model/Comparison" = some m.cls := findClass_of_methodNamed Bd.named
  have hnm := (name_of_methodNamed Bd.named Bd.method).1
  have X0 : Stand p l e ({ frames := 1, cells := 0, slots := 0, locals := 12 } : Room) s m #[(.ref a0'), (.int cv)] below meth c s₁ [] 0 0 := Stand.of_body Bd
  have e0 : s₁.heap = h0 := by rw [← hh, Bd.state]; rfl
  have N0 := Fr.nil n0
  show OwnEnd p e below s (Q_rm_holds1 Z a0' cv h0 n0) 0 0 (s₁.setTop (entryFrame m #[(.ref a0'), (.int cv)] 2))
  refine go (fun t k => castTop (ef_rm_holds1 m a0' cv) k) ?_
  show OwnEnd _ _ _ _ _ _ _ (s₁.setTop (mkF m 0 #[.val (.ref a0'), .val (.int cv)] []))
  refine go (fun _ k => by refine XS.aloadN X0.here hx rfl (hb hby d_prog_22_method_5_code_0) rfl rfl ?_; exact k) ?_
  show OwnEnd _ _ _ _ _ _ _ (s₁.setTop (mkF m 1 #[.val (.ref a0'), .val (.int cv)] [(.ref a0')]))
  obtain ⟨_, T1, L1, X1, hQ1, st1⟩ := callUp X0 hx hZ hown (hw _ (List.mem_of_getElem? (i := 16) rfl)) (hw _ (List.mem_of_getElem? (i := 17) rfl)) (hw _ (List.mem_of_getElem? (i := 18) rfl)) (by decide) (hw _ (List.mem_of_getElem? (i := 20) rfl)) (hw _ (List.mem_of_getElem? (i := 19) rfl)) (hw _ (List.mem_of_getElem? (i := 21) rfl)) (hw _ (List.mem_of_getElem? (i := 22) rfl)) (rm_ord l Z a0 hw [] a0' (1 : Int32) h0 n0 FO) (W := 0) (by decide) (by decide) e0 EO (g := (mkF m 1 #[.val (.ref a0'), .val (.int cv)] [(.ref a0')])) rfl (by rw [hml]; rfl) (argsL := []) (rest := []) rfl (lenOf pd___I rfl) rfl (by show 2 * 0 + _ ≤ _; exact Nat.le_of_eq rfl) (hb hby d_prog_22_method_5_code_1) (by decide) (by decide)
  obtain ⟨rfl, Nq1, eq1⟩ := hQ1
  have N1 := Fr.app N0 Nq1
  refine go st1 ?_
  show OwnEnd _ _ _ _ _ _ _ (T1.setTop (mkF m 4 #[.val (.ref a0'), .val (.int cv)] [(.int (1 : Int32))]))
  refine go (fun _ k => by refine XS.tswIn X1.here hx rfl (pc0 := 4) (pc' := 66) rfl (hb hby d_prog_22_method_5_code_4) rfl (by decide) (o := 62) (by decide) (by decide) (by decide) ?_; exact k) ?_
  refine go (fun _ k => by refine XS.iloadN X1.here hx rfl (hb hby d_prog_22_method_5_code_66) rfl ?_; exact k) ?_
  show OwnEnd _ _ _ _ _ _ _ (T1.setTop (mkF m 67 #[.val (.ref a0'), .val (.int cv)] [(.int cv)]))
  by_cases hc67_2 : (0 : Int32) < cv
  · refine go (fun _ k => by refine XS.ifYes X1.here hx rfl (pc0 := 67) (pc' := 74) rfl (hb hby d_prog_22_method_5_code_67) rfl ((if0 _ _).trans (tlt hc67_2).2.2.1) (by decide) (by decide) ?_; exact k) ?_
    show OwnEnd _ _ _ _ _ _ _ (T1.setTop (mkF m 74 #[.val (.ref a0'), .val (.int cv)] []))
    refine go (fun _ k => by refine XS.iconst X1.here hx rfl (hb hby d_prog_22_method_5_code_74) ?_; exact k) ?_
    refine go (fun _ k => by refine XS.goto X1.here hx rfl (pc0 := 75) (pc' := 123) rfl (hb hby d_prog_22_method_5_code_75) (by decide) (by decide) ?_; exact k) ?_
    show OwnEnd _ _ _ _ _ _ _ (T1.setTop (mkF m 123 #[.val (.ref a0'), .val (.int cv)] [(.int (0 : Int32))]))
    refine endN X1 hx hlk (t := .boolean) (by simp) Bd.returns (hb hby d_prog_22_method_5_code_123) eq1 (by decide) (by decide) ?_
    exact ⟨by rw [if_neg (by first | assumption | (simp only [Int32.lt_iff_toInt_lt, ← Int32.toInt_inj, Int32.reduceToInt] at *; omega))]; rfl, N1, rfl⟩
  · refine go (fun _ k => by refine XS.ifNo X1.here hx rfl (hb hby d_prog_22_method_5_code_67) rfl ((if0 _ _).trans (flt hc67_2).2.2.1) ?_; exact k) ?_
    show OwnEnd _ _ _ _ _ _ _ (T1.setTop (mkF m 70 #[.val (.ref a0'), .val (.int cv)] []))
    refine go (fun _ k => by refine XS.iconst X1.here hx rfl (hb hby d_prog_22_method_5_code_70) ?_; exact k) ?_
    refine go (fun _ k => by refine XS.goto X1.here hx rfl (pc0 := 71) (pc' := 123) rfl (hb hby d_prog_22_method_5_code_71) (by decide) (by decide) ?_; exact k) ?_
    show OwnEnd _ _ _ _ _ _ _ (T1.setTop (mkF m 123 #[.val (.ref a0'), .val (.int cv)] [(.int (1 : Int32))]))
    refine endN X1 hx hlk (t := .boolean) (by simp) Bd.returns (hb hby d_prog_22_method_5_code_123) eq1 (by decide) (by decide) ?_
    exact ⟨by rw [if_pos (by first | assumption | (simp only [Int32.lt_iff_toInt_lt, ← Int32.toInt_inj, Int32.reduceToInt] at *; omega))]; rfl, N1, rfl⟩
theorem d_method_3_code_17 : decode method_3_code 17 = .ok (.iload_n 0, 1) := by decide +kernel
theorem d_method_3_code_18 : decode method_3_code 18 = .ok (.iconst 2, 1) := by decide +kernel
theorem d_method_3_code_19 : decode method_3_code 19 = .ok (.if_icmp .ne 7, 3) := by decide +kernel
theorem d_method_3_code_22 : decode method_3_code 22 = .ok (.getstatic 16, 3) := by decide +kernel
theorem d_method_3_code_25 : decode method_3_code 25 = .ok (.areturn, 1) := by decide +kernel
theorem ef_rm_pick2 (m : MethodId)  : entryFrame m #[(.int (2 : Int32))] 1 = mkF m 0 #[.val (.int (2 : Int32))] [] := by first | (simp [entryFrame, mkF, argsToLocals, Value.category]; done) | rfl
def Q_rm_pick2 (Z : State) (w : Addr) (h0 : Heap) (n0 : Nat) (v : Option Value) (h : Heap) (L : List Loc) : Prop := v = some (.ref w) ∧ Fr n0 L ∧ h = h0
set_option maxRecDepth 65536 in
set_option maxHeartbeats 40000000 in
theorem rm_pick2 (l : Launch) (Z : State) (a0 : Array Value) (hw : ∀ d ∈ tables_1, d.before a0 Z = true) (ws : List Jvm.Cond) (w : Addr) (h0 : Heap) (n0 : Nat) (SS : Sta Z h0 "com/example/minder/minder/model/Comparison" "GREATER" "Lcom/example/minder/minder/model/Comparison;" (.ref w)) :
    MetFree l (⟨"com/example/minder/minder/model/ComparisonHoldsPinLaw", "pick", "(I)Lcom/example/minder/minder/model/Comparison;"⟩ : MethodName) (head1 (Jvm.Cond.code (⟨"com/example/minder/minder/model/ComparisonHoldsPinLaw", "pick", "(I)Lcom/example/minder/minder/model/Comparison;"⟩ : MethodName) method_3_code 1 (some (.object "com/example/minder/minder/model/Comparison")) :: ws) ({ frames := 0, cells := 0, slots := 0, locals := 0 } : Room)) (fun a U => a = #[(.int (2 : Int32))] ∧ Z.Warmed39 U.vm ∧ U.heap = h0) (fun _ _ _ _ _ => True) (fun _ U o U' => ∃ v L, o = .returned v ∧ Q_rm_pick2 Z w h0 n0 v U'.heap L ∧ FrameEnd U o U' L 0 0) := by
  refine MetFree.of_bodySF (plainFor_of_name pn_com_example_minder_minder_model_ComparisonHoldsPinLaw) hisR ?_
  intro p e s m args below meth c s₁ Bd hml0 hP hK
  obtain ⟨rfl, hZ, hh⟩ := hP
  have hx := Bd.exec
  have hby := Bd.bytes
  have hlk := Bd.notSynchronized
  have hml : c.maxLocals = 1 := hml0
  have hown : s.vm.findClass "com/example/minder/minder/model/ComparisonHoldsPinLaw" = some m.cls := findClass_of_methodNamed Bd.named
  have hnm := (name_of_methodNamed Bd.named Bd.method).1
  have X0 : Stand p l e ({ frames := 0, cells := 0, slots := 0, locals := 0 } : Room) s m #[(.int (2 : Int32))] below meth c s₁ [] 0 0 := Stand.of_body Bd
  have e0 : s₁.heap = h0 := by rw [← hh, Bd.state]; rfl
  have N0 := Fr.nil n0
  show OwnEnd p e below s (Q_rm_pick2 Z w h0 n0) 0 0 (s₁.setTop (entryFrame m #[(.int (2 : Int32))] 1))
  refine go (fun t k => castTop (ef_rm_pick2 m ) k) ?_
  show OwnEnd _ _ _ _ _ _ _ (s₁.setTop (mkF m 0 #[.val (.int (2 : Int32))] []))
  refine go (fun _ k => by refine XS.iloadN X0.here hx rfl (hb hby d_method_3_code_0) rfl ?_; exact k) ?_
  show OwnEnd _ _ _ _ _ _ _ (s₁.setTop (mkF m 1 #[.val (.int (2 : Int32))] [(.int (2 : Int32))]))
  refine go (fun _ k => by refine XS.ifYes X0.here hx rfl (pc0 := 1) (pc' := 8) rfl (hb hby d_method_3_code_1) rfl ((if0 _ _).trans (feq (by decide)).2) (by decide) (by decide) ?_; exact k) ?_
  refine go (fun _ k => by refine XS.iloadN X0.here hx rfl (hb hby d_method_3_code_8) rfl ?_; exact k) ?_
  refine go (fun _ k => by refine XS.iconst X0.here hx rfl (hb hby d_method_3_code_9) ?_; exact k) ?_
  show OwnEnd _ _ _ _ _ _ _ (s₁.setTop (mkF m 10 #[.val (.int (2 : Int32))] [(.int (1 : Int32)), (.int (2 : Int32))]))
  refine go (fun _ k => by refine XS.icmpYes X0.here hx rfl (pc0 := 10) (pc' := 17) rfl (hb hby d_method_3_code_10) rfl (feq (by decide)).2 (by decide) (by decide) ?_; exact k) ?_
  refine go (fun _ k => by refine XS.iloadN X0.here hx rfl (hb hby d_method_3_code_17) rfl ?_; exact k) ?_
  refine go (fun _ k => by refine XS.iconst X0.here hx rfl (hb hby d_method_3_code_18) ?_; exact k) ?_
  show OwnEnd _ _ _ _ _ _ _ (s₁.setTop (mkF m 19 #[.val (.int (2 : Int32))] [(.int (2 : Int32)), (.int (2 : Int32))]))
  refine go (fun _ k => by refine XS.icmpNo X0.here hx rfl (hb hby d_method_3_code_19) rfl (teq (by decide)).2 ?_; exact k) ?_
  show OwnEnd _ _ _ _ _ _ _ (s₁.setTop (mkF m 22 #[.val (.int (2 : Int32))] []))
  obtain ⟨T1, X1, e1, st1⟩ := getS2 X0 hx hZ hown (host := "") (Or.inl (hw _ (List.mem_of_getElem? (i := 25) rfl))) Via.refl e0 SS (g := (mkF m 22 #[.val (.int (2 : Int32))] [])) rfl (hb hby d_method_3_code_22)
  refine go st1 ?_
  show OwnEnd _ _ _ _ _ _ _ (T1.setTop (mkF m 25 #[.val (.int (2 : Int32))] [(.ref w)]))
  refine endA X1 hx hlk Bd.returns rfl rfl (hb hby d_method_3_code_25) e1 (by decide) (by decide) ?_
  exact ⟨rfl, N0, rfl⟩
theorem d_method_2_code_13 : decode method_2_code 13 = .ok (.iload_n 0, 1) := by decide +kernel
theorem d_method_2_code_14 : decode method_2_code 14 = .ok (.iconst 2, 1) := by decide +kernel
theorem d_method_2_code_15 : decode method_2_code 15 = .ok (.if_icmp .ne 5, 3) := by decide +kernel
theorem d_method_2_code_18 : decode method_2_code 18 = .ok (.iconst 4, 1) := by decide +kernel
theorem d_method_2_code_19 : decode method_2_code 19 = .ok (.ireturn, 1) := by decide +kernel
theorem ef_rm_adm2 (m : MethodId)  : entryFrame m #[(.int (2 : Int32))] 1 = mkF m 0 #[.val (.int (2 : Int32))] [] := by first | (simp [entryFrame, mkF, argsToLocals, Value.category]; done) | rfl
def Q_rm_adm2 (Z : State)  (h0 : Heap) (n0 : Nat) (v : Option Value) (h : Heap) (L : List Loc) : Prop := v = some (.int 4) ∧ Fr n0 L ∧ h = h0
set_option maxRecDepth 65536 in
set_option maxHeartbeats 40000000 in
theorem rm_adm2 (l : Launch) (Z : State) (a0 : Array Value) (hw : ∀ d ∈ tables_1, d.before a0 Z = true) (ws : List Jvm.Cond)  (h0 : Heap) (n0 : Nat) :
    MetFree l (⟨"com/example/minder/minder/model/ComparisonHoldsPinLaw", "admitted", "(I)I"⟩ : MethodName) (head1 (Jvm.Cond.code (⟨"com/example/minder/minder/model/ComparisonHoldsPinLaw", "admitted", "(I)I"⟩ : MethodName) method_2_code 1 (some .int) :: ws) ({ frames := 0, cells := 0, slots := 0, locals := 0 } : Room)) (fun a U => a = #[(.int (2 : Int32))] ∧ Z.Warmed39 U.vm ∧ U.heap = h0) (fun _ _ _ _ _ => True) (fun _ U o U' => ∃ v L, o = .returned v ∧ Q_rm_adm2 Z  h0 n0 v U'.heap L ∧ FrameEnd U o U' L 0 0) := by
  refine MetFree.of_bodySF (plainFor_of_name pn_com_example_minder_minder_model_ComparisonHoldsPinLaw) hisR ?_
  intro p e s m args below meth c s₁ Bd hml0 hP hK
  obtain ⟨rfl, hZ, hh⟩ := hP
  have hx := Bd.exec
  have hby := Bd.bytes
  have hlk := Bd.notSynchronized
  have hml : c.maxLocals = 1 := hml0
  have hown : s.vm.findClass "com/example/minder/minder/model/ComparisonHoldsPinLaw" = some m.cls := findClass_of_methodNamed Bd.named
  have hnm := (name_of_methodNamed Bd.named Bd.method).1
  have X0 : Stand p l e ({ frames := 0, cells := 0, slots := 0, locals := 0 } : Room) s m #[(.int (2 : Int32))] below meth c s₁ [] 0 0 := Stand.of_body Bd
  have e0 : s₁.heap = h0 := by rw [← hh, Bd.state]; rfl
  have N0 := Fr.nil n0
  show OwnEnd p e below s (Q_rm_adm2 Z  h0 n0) 0 0 (s₁.setTop (entryFrame m #[(.int (2 : Int32))] 1))
  refine go (fun t k => castTop (ef_rm_adm2 m ) k) ?_
  show OwnEnd _ _ _ _ _ _ _ (s₁.setTop (mkF m 0 #[.val (.int (2 : Int32))] []))
  refine go (fun _ k => by refine XS.iloadN X0.here hx rfl (hb hby d_method_2_code_0) rfl ?_; exact k) ?_
  show OwnEnd _ _ _ _ _ _ _ (s₁.setTop (mkF m 1 #[.val (.int (2 : Int32))] [(.int (2 : Int32))]))
  refine go (fun _ k => by refine XS.ifYes X0.here hx rfl (pc0 := 1) (pc' := 6) rfl (hb hby d_method_2_code_1) rfl ((if0 _ _).trans (feq (by decide)).2) (by decide) (by decide) ?_; exact k) ?_
  refine go (fun _ k => by refine XS.iloadN X0.here hx rfl (hb hby d_method_2_code_6) rfl ?_; exact k) ?_
  refine go (fun _ k => by refine XS.iconst X0.here hx rfl (hb hby d_method_2_code_7) ?_; exact k) ?_
  show OwnEnd _ _ _ _ _ _ _ (s₁.setTop (mkF m 8 #[.val (.int (2 : Int32))] [(.int (1 : Int32)), (.int (2 : Int32))]))
  refine go (fun _ k => by refine XS.icmpYes X0.here hx rfl (pc0 := 8) (pc' := 13) rfl (hb hby d_method_2_code_8) rfl (feq (by decide)).2 (by decide) (by decide) ?_; exact k) ?_
  refine go (fun _ k => by refine XS.iloadN X0.here hx rfl (hb hby d_method_2_code_13) rfl ?_; exact k) ?_
  refine go (fun _ k => by refine XS.iconst X0.here hx rfl (hb hby d_method_2_code_14) ?_; exact k) ?_
  show OwnEnd _ _ _ _ _ _ _ (s₁.setTop (mkF m 15 #[.val (.int (2 : Int32))] [(.int (2 : Int32)), (.int (2 : Int32))]))
  refine go (fun _ k => by refine XS.icmpNo X0.here hx rfl (hb hby d_method_2_code_15) rfl (teq (by decide)).2 ?_; exact k) ?_
  refine go (fun _ k => by refine XS.iconst X0.here hx rfl (hb hby d_method_2_code_18) ?_; exact k) ?_
  show OwnEnd _ _ _ _ _ _ _ (s₁.setTop (mkF m 19 #[.val (.int (2 : Int32))] [(.int (4 : Int32))]))
  refine endI X0 hx hlk Bd.returns (hb hby d_method_2_code_19) e0 (by decide) (by decide) ?_
  exact ⟨rfl, N0, rfl⟩
theorem d_prog_22_method_5_code_78 : decode prog_22_method_5_code 78 = .ok (.iload_n 1, 1) := by decide +kernel
theorem d_prog_22_method_5_code_79 : decode prog_22_method_5_code 79 = .ok (.ifCond .le 7, 3) := by decide +kernel
theorem d_prog_22_method_5_code_82 : decode prog_22_method_5_code 82 = .ok (.iconst 1, 1) := by decide +kernel
theorem d_prog_22_method_5_code_83 : decode prog_22_method_5_code 83 = .ok (.goto 40, 3) := by decide +kernel
theorem d_prog_22_method_5_code_86 : decode prog_22_method_5_code 86 = .ok (.iconst 0, 1) := by decide +kernel
theorem d_prog_22_method_5_code_87 : decode prog_22_method_5_code 87 = .ok (.goto 36, 3) := by decide +kernel
theorem ef_rm_holds2 (m : MethodId) (y0 : Addr) (y1 : Int32) : entryFrame m #[(.ref y0), (.int y1)] 2 = mkF m 0 #[.val (.ref y0), .val (.int y1)] [] := by first | (simp [entryFrame, mkF, argsToLocals, Value.category]; done) | rfl
def Q_rm_holds2 (Z : State) (a0' : Addr) (cv : Int32) (h0 : Heap) (n0 : Nat) (v : Option Value) (h : Heap) (L : List Loc) : Prop := v = some (.int (if 0 < cv then (1 : Int32) else 0)) ∧ Fr n0 L ∧ h = h0
set_option maxRecDepth 65536 in
set_option maxHeartbeats 40000000 in
theorem rm_holds2 (l : Launch) (Z : State) (a0 : Array Value) (hw : ∀ d ∈ tables_1, d.before a0 Z = true) (ws : List Jvm.Cond) (a0' : Addr) (cv : Int32) (h0 : Heap) (n0 : Nat) (FO : Fld Z h0 a0' "java/lang/Enum" "ordinal" "I" (.int 2)) (EO : Exa Z h0 a0' "com/example/minder/minder/model/Comparison") :
    MetFree l (⟨"com/example/minder/minder/model/Comparison", "holds", "(I)Z"⟩ : MethodName) (head1 (Jvm.Cond.code (⟨"com/example/minder/minder/model/Comparison", "holds", "(I)Z"⟩ : MethodName) prog_22_method_5_code 2 (some .boolean) :: ws) ({ frames := 1, cells := 0, slots := 0, locals := 12 } : Room)) (fun a U => a = #[(.ref a0'), (.int cv)] ∧ Z.Warmed39 U.vm ∧ U.heap = h0) (fun _ _ _ _ _ => True) (fun _ U o U' => ∃ v L, o = .returned v ∧ Q_rm_holds2 Z a0' cv h0 n0 v U'.heap L ∧ FrameEnd U o U' L 0 0) := by
  refine MetFree.of_bodySF (plainFor_of_name pn_com_example_minder_minder_model_Comparison) hisR ?_
  intro p e s m args below meth c s₁ Bd hml0 hP hK
  obtain ⟨rfl, hZ, hh⟩ := hP
  have hx := Bd.exec
  have hby := Bd.bytes
  have hlk := Bd.notSynchronized
  have hml : c.maxLocals = 2 := hml0
  have hown : s.vm.findClass "com/example/minder/minder/model/Comparison" = some m.cls := findClass_of_methodNamed Bd.named
  have hnm := (name_of_methodNamed Bd.named Bd.method).1
  have X0 : Stand p l e ({ frames := 1, cells := 0, slots := 0, locals := 12 } : Room) s m #[(.ref a0'), (.int cv)] below meth c s₁ [] 0 0 := Stand.of_body Bd
  have e0 : s₁.heap = h0 := by rw [← hh, Bd.state]; rfl
  have N0 := Fr.nil n0
  show OwnEnd p e below s (Q_rm_holds2 Z a0' cv h0 n0) 0 0 (s₁.setTop (entryFrame m #[(.ref a0'), (.int cv)] 2))
  refine go (fun t k => castTop (ef_rm_holds2 m a0' cv) k) ?_
  show OwnEnd _ _ _ _ _ _ _ (s₁.setTop (mkF m 0 #[.val (.ref a0'), .val (.int cv)] []))
  refine go (fun _ k => by refine XS.aloadN X0.here hx rfl (hb hby d_prog_22_method_5_code_0) rfl rfl ?_; exact k) ?_
  show OwnEnd _ _ _ _ _ _ _ (s₁.setTop (mkF m 1 #[.val (.ref a0'), .val (.int cv)] [(.ref a0')]))
  obtain ⟨_, T1, L1, X1, hQ1, st1⟩ := callUp X0 hx hZ hown (hw _ (List.mem_of_getElem? (i := 16) rfl)) (hw _ (List.mem_of_getElem? (i := 17) rfl)) (hw _ (List.mem_of_getElem? (i := 18) rfl)) (by decide) (hw _ (List.mem_of_getElem? (i := 20) rfl)) (hw _ (List.mem_of_getElem? (i := 19) rfl)) (hw _ (List.mem_of_getElem? (i := 21) rfl)) (hw _ (List.mem_of_getElem? (i := 22) rfl)) (rm_ord l Z a0 hw [] a0' (2 : Int32) h0 n0 FO) (W := 0) (by decide) (by decide) e0 EO (g := (mkF m 1 #[.val (.ref a0'), .val (.int cv)] [(.ref a0')])) rfl (by rw [hml]; rfl) (argsL := []) (rest := []) rfl (lenOf pd___I rfl) rfl (by show 2 * 0 + _ ≤ _; exact Nat.le_of_eq rfl) (hb hby d_prog_22_method_5_code_1) (by decide) (by decide)
  obtain ⟨rfl, Nq1, eq1⟩ := hQ1
  have N1 := Fr.app N0 Nq1
  refine go st1 ?_
  show OwnEnd _ _ _ _ _ _ _ (T1.setTop (mkF m 4 #[.val (.ref a0'), .val (.int cv)] [(.int (2 : Int32))]))
  refine go (fun _ k => by refine XS.tswIn X1.here hx rfl (pc0 := 4) (pc' := 78) rfl (hb hby d_prog_22_method_5_code_4) rfl (by decide) (o := 74) (by decide) (by decide) (by decide) ?_; exact k) ?_
  refine go (fun _ k => by refine XS.iloadN X1.here hx rfl (hb hby d_prog_22_method_5_code_78) rfl ?_; exact k) ?_
  show OwnEnd _ _ _ _ _ _ _ (T1.setTop (mkF m 79 #[.val (.ref a0'), .val (.int cv)] [(.int cv)]))
  by_cases hc79_2 : (0 : Int32) < cv
  · refine go (fun _ k => by refine XS.ifNo X1.here hx rfl (hb hby d_prog_22_method_5_code_79) rfl ((if0 _ _).trans (tlt hc79_2).2.2.2) ?_; exact k) ?_
    show OwnEnd _ _ _ _ _ _ _ (T1.setTop (mkF m 82 #[.val (.ref a0'), .val (.int cv)] []))
    refine go (fun _ k => by refine XS.iconst X1.here hx rfl (hb hby d_prog_22_method_5_code_82) ?_; exact k) ?_
    refine go (fun _ k => by refine XS.goto X1.here hx rfl (pc0 := 83) (pc' := 123) rfl (hb hby d_prog_22_method_5_code_83) (by decide) (by decide) ?_; exact k) ?_
    show OwnEnd _ _ _ _ _ _ _ (T1.setTop (mkF m 123 #[.val (.ref a0'), .val (.int cv)] [(.int (1 : Int32))]))
    refine endN X1 hx hlk (t := .boolean) (by simp) Bd.returns (hb hby d_prog_22_method_5_code_123) eq1 (by decide) (by decide) ?_
    exact ⟨by rw [if_pos (by first | assumption | (simp only [Int32.lt_iff_toInt_lt, ← Int32.toInt_inj, Int32.reduceToInt] at *; omega))]; rfl, N1, rfl⟩
  · refine go (fun _ k => by refine XS.ifYes X1.here hx rfl (pc0 := 79) (pc' := 86) rfl (hb hby d_prog_22_method_5_code_79) rfl ((if0 _ _).trans (flt hc79_2).2.2.2) (by decide) (by decide) ?_; exact k) ?_
    show OwnEnd _ _ _ _ _ _ _ (T1.setTop (mkF m 86 #[.val (.ref a0'), .val (.int cv)] []))
    refine go (fun _ k => by refine XS.iconst X1.here hx rfl (hb hby d_prog_22_method_5_code_86) ?_; exact k) ?_
    refine go (fun _ k => by refine XS.goto X1.here hx rfl (pc0 := 87) (pc' := 123) rfl (hb hby d_prog_22_method_5_code_87) (by decide) (by decide) ?_; exact k) ?_
    show OwnEnd _ _ _ _ _ _ _ (T1.setTop (mkF m 123 #[.val (.ref a0'), .val (.int cv)] [(.int (0 : Int32))]))
    refine endN X1 hx hlk (t := .boolean) (by simp) Bd.returns (hb hby d_prog_22_method_5_code_123) eq1 (by decide) (by decide) ?_
    exact ⟨by rw [if_neg (by first | assumption | (simp only [Int32.lt_iff_toInt_lt, ← Int32.toInt_inj, Int32.reduceToInt] at *; omega))]; rfl, N1, rfl⟩
theorem d_method_3_code_26 : decode method_3_code 26 = .ok (.iload_n 0, 1) := by decide +kernel
theorem d_method_3_code_27 : decode method_3_code 27 = .ok (.iconst 3, 1) := by decide +kernel
theorem d_method_3_code_28 : decode method_3_code 28 = .ok (.if_icmp .ne 7, 3) := by decide +kernel
theorem d_method_3_code_31 : decode method_3_code 31 = .ok (.getstatic 19, 3) := by decide +kernel
theorem d_method_3_code_34 : decode method_3_code 34 = .ok (.areturn, 1) := by decide +kernel
theorem ef_rm_pick3 (m : MethodId)  : entryFrame m #[(.int (3 : Int32))] 1 = mkF m 0 #[.val (.int (3 : Int32))] [] := by first | (simp [entryFrame, mkF, argsToLocals, Value.category]; done) | rfl
def Q_rm_pick3 (Z : State) (w : Addr) (h0 : Heap) (n0 : Nat) (v : Option Value) (h : Heap) (L : List Loc) : Prop := v = some (.ref w) ∧ Fr n0 L ∧ h = h0
set_option maxRecDepth 65536 in
set_option maxHeartbeats 40000000 in
theorem rm_pick3 (l : Launch) (Z : State) (a0 : Array Value) (hw : ∀ d ∈ tables_1, d.before a0 Z = true) (ws : List Jvm.Cond) (w : Addr) (h0 : Heap) (n0 : Nat) (SS : Sta Z h0 "com/example/minder/minder/model/Comparison" "GREATER_OR_EQUAL" "Lcom/example/minder/minder/model/Comparison;" (.ref w)) :
    MetFree l (⟨"com/example/minder/minder/model/ComparisonHoldsPinLaw", "pick", "(I)Lcom/example/minder/minder/model/Comparison;"⟩ : MethodName) (head1 (Jvm.Cond.code (⟨"com/example/minder/minder/model/ComparisonHoldsPinLaw", "pick", "(I)Lcom/example/minder/minder/model/Comparison;"⟩ : MethodName) method_3_code 1 (some (.object "com/example/minder/minder/model/Comparison")) :: ws) ({ frames := 0, cells := 0, slots := 0, locals := 0 } : Room)) (fun a U => a = #[(.int (3 : Int32))] ∧ Z.Warmed39 U.vm ∧ U.heap = h0) (fun _ _ _ _ _ => True) (fun _ U o U' => ∃ v L, o = .returned v ∧ Q_rm_pick3 Z w h0 n0 v U'.heap L ∧ FrameEnd U o U' L 0 0) := by
  refine MetFree.of_bodySF (plainFor_of_name pn_com_example_minder_minder_model_ComparisonHoldsPinLaw) hisR ?_
  intro p e s m args below meth c s₁ Bd hml0 hP hK
  obtain ⟨rfl, hZ, hh⟩ := hP
  have hx := Bd.exec
  have hby := Bd.bytes
  have hlk := Bd.notSynchronized
  have hml : c.maxLocals = 1 := hml0
  have hown : s.vm.findClass "com/example/minder/minder/model/ComparisonHoldsPinLaw" = some m.cls := findClass_of_methodNamed Bd.named
  have hnm := (name_of_methodNamed Bd.named Bd.method).1
  have X0 : Stand p l e ({ frames := 0, cells := 0, slots := 0, locals := 0 } : Room) s m #[(.int (3 : Int32))] below meth c s₁ [] 0 0 := Stand.of_body Bd
  have e0 : s₁.heap = h0 := by rw [← hh, Bd.state]; rfl
  have N0 := Fr.nil n0
  show OwnEnd p e below s (Q_rm_pick3 Z w h0 n0) 0 0 (s₁.setTop (entryFrame m #[(.int (3 : Int32))] 1))
  refine go (fun t k => castTop (ef_rm_pick3 m ) k) ?_
  show OwnEnd _ _ _ _ _ _ _ (s₁.setTop (mkF m 0 #[.val (.int (3 : Int32))] []))
  refine go (fun _ k => by refine XS.iloadN X0.here hx rfl (hb hby d_method_3_code_0) rfl ?_; exact k) ?_
  show OwnEnd _ _ _ _ _ _ _ (s₁.setTop (mkF m 1 #[.val (.int (3 : Int32))] [(.int (3 : Int32))]))
  refine go (fun _ k => by refine XS.ifYes X0.here hx rfl (pc0 := 1) (pc' := 8) rfl (hb hby d_method_3_code_1) rfl ((if0 _ _).trans (feq (by decide)).2) (by decide) (by decide) ?_; exact k) ?_
  refine go (fun _ k => by refine XS.iloadN X0.here hx rfl (hb hby d_method_3_code_8) rfl ?_; exact k) ?_
  refine go (fun _ k => by refine XS.iconst X0.here hx rfl (hb hby d_method_3_code_9) ?_; exact k) ?_
  show OwnEnd _ _ _ _ _ _ _ (s₁.setTop (mkF m 10 #[.val (.int (3 : Int32))] [(.int (1 : Int32)), (.int (3 : Int32))]))
  refine go (fun _ k => by refine XS.icmpYes X0.here hx rfl (pc0 := 10) (pc' := 17) rfl (hb hby d_method_3_code_10) rfl (feq (by decide)).2 (by decide) (by decide) ?_; exact k) ?_
  refine go (fun _ k => by refine XS.iloadN X0.here hx rfl (hb hby d_method_3_code_17) rfl ?_; exact k) ?_
  refine go (fun _ k => by refine XS.iconst X0.here hx rfl (hb hby d_method_3_code_18) ?_; exact k) ?_
  show OwnEnd _ _ _ _ _ _ _ (s₁.setTop (mkF m 19 #[.val (.int (3 : Int32))] [(.int (2 : Int32)), (.int (3 : Int32))]))
  refine go (fun _ k => by refine XS.icmpYes X0.here hx rfl (pc0 := 19) (pc' := 26) rfl (hb hby d_method_3_code_19) rfl (feq (by decide)).2 (by decide) (by decide) ?_; exact k) ?_
  refine go (fun _ k => by refine XS.iloadN X0.here hx rfl (hb hby d_method_3_code_26) rfl ?_; exact k) ?_
  refine go (fun _ k => by refine XS.iconst X0.here hx rfl (hb hby d_method_3_code_27) ?_; exact k) ?_
  show OwnEnd _ _ _ _ _ _ _ (s₁.setTop (mkF m 28 #[.val (.int (3 : Int32))] [(.int (3 : Int32)), (.int (3 : Int32))]))
  refine go (fun _ k => by refine XS.icmpNo X0.here hx rfl (hb hby d_method_3_code_28) rfl (teq (by decide)).2 ?_; exact k) ?_
  show OwnEnd _ _ _ _ _ _ _ (s₁.setTop (mkF m 31 #[.val (.int (3 : Int32))] []))
  obtain ⟨T1, X1, e1, st1⟩ := getS2 X0 hx hZ hown (host := "") (Or.inl (hw _ (List.mem_of_getElem? (i := 33) rfl))) Via.refl e0 SS (g := (mkF m 31 #[.val (.int (3 : Int32))] [])) rfl (hb hby d_method_3_code_31)
  refine go st1 ?_
  show OwnEnd _ _ _ _ _ _ _ (T1.setTop (mkF m 34 #[.val (.int (3 : Int32))] [(.ref w)]))
  refine endA X1 hx hlk Bd.returns rfl rfl (hb hby d_method_3_code_34) e1 (by decide) (by decide) ?_
  exact ⟨rfl, N0, rfl⟩
theorem d_method_2_code_20 : decode method_2_code 20 = .ok (.iload_n 0, 1) := by decide +kernel
theorem d_method_2_code_21 : decode method_2_code 21 = .ok (.iconst 3, 1) := by decide +kernel
theorem d_method_2_code_22 : decode method_2_code 22 = .ok (.if_icmp .ne 6, 3) := by decide +kernel
theorem d_method_2_code_25 : decode method_2_code 25 = .ok (.bipush 6, 2) := by decide +kernel
theorem d_method_2_code_27 : decode method_2_code 27 = .ok (.ireturn, 1) := by decide +kernel
theorem ef_rm_adm3 (m : MethodId)  : entryFrame m #[(.int (3 : Int32))] 1 = mkF m 0 #[.val (.int (3 : Int32))] [] := by first | (simp [entryFrame, mkF, argsToLocals, Value.category]; done) | rfl
def Q_rm_adm3 (Z : State)  (h0 : Heap) (n0 : Nat) (v : Option Value) (h : Heap) (L : List Loc) : Prop := v = some (.int 6) ∧ Fr n0 L ∧ h = h0
set_option maxRecDepth 65536 in
set_option maxHeartbeats 40000000 in
theorem rm_adm3 (l : Launch) (Z : State) (a0 : Array Value) (hw : ∀ d ∈ tables_1, d.before a0 Z = true) (ws : List Jvm.Cond)  (h0 : Heap) (n0 : Nat) :
    MetFree l (⟨"com/example/minder/minder/model/ComparisonHoldsPinLaw", "admitted", "(I)I"⟩ : MethodName) (head1 (Jvm.Cond.code (⟨"com/example/minder/minder/model/ComparisonHoldsPinLaw", "admitted", "(I)I"⟩ : MethodName) method_2_code 1 (some .int) :: ws) ({ frames := 0, cells := 0, slots := 0, locals := 0 } : Room)) (fun a U => a = #[(.int (3 : Int32))] ∧ Z.Warmed39 U.vm ∧ U.heap = h0) (fun _ _ _ _ _ => True) (fun _ U o U' => ∃ v L, o = .returned v ∧ Q_rm_adm3 Z  h0 n0 v U'.heap L ∧ FrameEnd U o U' L 0 0) := by
  refine MetFree.of_bodySF (plainFor_of_name pn_com_example_minder_minder_model_ComparisonHoldsPinLaw) hisR ?_
  intro p e s m args below meth c s₁ Bd hml0 hP hK
  obtain ⟨rfl, hZ, hh⟩ := hP
  have hx := Bd.exec
  have hby := Bd.bytes
  have hlk := Bd.notSynchronized
  have hml : c.maxLocals = 1 := hml0
  have hown : s.vm.findClass "com/example/minder/minder/model/ComparisonHoldsPinLaw" = some m.cls := findClass_of_methodNamed Bd.named
  have hnm := (name_of_methodNamed Bd.named Bd.method).1
  have X0 : Stand p l e ({ frames := 0, cells := 0, slots := 0, locals := 0 } : Room) s m #[(.int (3 : Int32))] below meth c s₁ [] 0 0 := Stand.of_body Bd
  have e0 : s₁.heap = h0 := by rw [← hh, Bd.state]; rfl
  have N0 := Fr.nil n0
  show OwnEnd p e below s (Q_rm_adm3 Z  h0 n0) 0 0 (s₁.setTop (entryFrame m #[(.int (3 : Int32))] 1))
  refine go (fun t k => castTop (ef_rm_adm3 m ) k) ?_
  show OwnEnd _ _ _ _ _ _ _ (s₁.setTop (mkF m 0 #[.val (.int (3 : Int32))] []))
  refine go (fun _ k => by refine XS.iloadN X0.here hx rfl (hb hby d_method_2_code_0) rfl ?_; exact k) ?_
  show OwnEnd _ _ _ _ _ _ _ (s₁.setTop (mkF m 1 #[.val (.int (3 : Int32))] [(.int (3 : Int32))]))
  refine go (fun _ k => by refine XS.ifYes X0.here hx rfl (pc0 := 1) (pc' := 6) rfl (hb hby d_method_2_code_1) rfl ((if0 _ _).trans (feq (by decide)).2) (by decide) (by decide) ?_; exact k) ?_
  refine go (fun _ k => by refine XS.iloadN X0.here hx rfl (hb hby d_method_2_code_6) rfl ?_; exact k) ?_
  refine go (fun _ k => by refine XS.iconst X0.here hx rfl (hb hby d_method_2_code_7) ?_; exact k) ?_
  show OwnEnd _ _ _ _ _ _ _ (s₁.setTop (mkF m 8 #[.val (.int (3 : Int32))] [(.int (1 : Int32)), (.int (3 : Int32))]))
  refine go (fun _ k => by refine XS.icmpYes X0.here hx rfl (pc0 := 8) (pc' := 13) rfl (hb hby d_method_2_code_8) rfl (feq (by decide)).2 (by decide) (by decide) ?_; exact k) ?_
  refine go (fun _ k => by refine XS.iloadN X0.here hx rfl (hb hby d_method_2_code_13) rfl ?_; exact k) ?_
  refine go (fun _ k => by refine XS.iconst X0.here hx rfl (hb hby d_method_2_code_14) ?_; exact k) ?_
  show OwnEnd _ _ _ _ _ _ _ (s₁.setTop (mkF m 15 #[.val (.int (3 : Int32))] [(.int (2 : Int32)), (.int (3 : Int32))]))
  refine go (fun _ k => by refine XS.icmpYes X0.here hx rfl (pc0 := 15) (pc' := 20) rfl (hb hby d_method_2_code_15) rfl (feq (by decide)).2 (by decide) (by decide) ?_; exact k) ?_
  refine go (fun _ k => by refine XS.iloadN X0.here hx rfl (hb hby d_method_2_code_20) rfl ?_; exact k) ?_
  refine go (fun _ k => by refine XS.iconst X0.here hx rfl (hb hby d_method_2_code_21) ?_; exact k) ?_
  show OwnEnd _ _ _ _ _ _ _ (s₁.setTop (mkF m 22 #[.val (.int (3 : Int32))] [(.int (3 : Int32)), (.int (3 : Int32))]))
  refine go (fun _ k => by refine XS.icmpNo X0.here hx rfl (hb hby d_method_2_code_22) rfl (teq (by decide)).2 ?_; exact k) ?_
  refine go (fun _ k => by refine XS.bipush X0.here hx rfl (hb hby d_method_2_code_25) ?_; exact k) ?_
  show OwnEnd _ _ _ _ _ _ _ (s₁.setTop (mkF m 27 #[.val (.int (3 : Int32))] [(.int (6 : Int32))]))
  refine endI X0 hx hlk Bd.returns (hb hby d_method_2_code_27) e0 (by decide) (by decide) ?_
  exact ⟨rfl, N0, rfl⟩
theorem d_prog_22_method_5_code_90 : decode prog_22_method_5_code 90 = .ok (.iload_n 1, 1) := by decide +kernel
theorem d_prog_22_method_5_code_91 : decode prog_22_method_5_code 91 = .ok (.ifCond .lt 7, 3) := by decide +kernel
theorem d_prog_22_method_5_code_98 : decode prog_22_method_5_code 98 = .ok (.iconst 0, 1) := by decide +kernel
theorem d_prog_22_method_5_code_99 : decode prog_22_method_5_code 99 = .ok (.goto 24, 3) := by decide +kernel
theorem d_prog_22_method_5_code_94 : decode prog_22_method_5_code 94 = .ok (.iconst 1, 1) := by decide +kernel
theorem d_prog_22_method_5_code_95 : decode prog_22_method_5_code 95 = .ok (.goto 28, 3) := by decide +kernel
theorem ef_rm_holds3 (m : MethodId) (y0 : Addr) (y1 : Int32) : entryFrame m #[(.ref y0), (.int y1)] 2 = mkF m 0 #[.val (.ref y0), .val (.int y1)] [] := by first | (simp [entryFrame, mkF, argsToLocals, Value.category]; done) | rfl
def Q_rm_holds3 (Z : State) (a0' : Addr) (cv : Int32) (h0 : Heap) (n0 : Nat) (v : Option Value) (h : Heap) (L : List Loc) : Prop := v = some (.int (if ¬ cv < 0 then (1 : Int32) else 0)) ∧ Fr n0 L ∧ h = h0
set_option maxRecDepth 65536 in
set_option maxHeartbeats 40000000 in
theorem rm_holds3 (l : Launch) (Z : State) (a0 : Array Value) (hw : ∀ d ∈ tables_1, d.before a0 Z = true) (ws : List Jvm.Cond) (a0' : Addr) (cv : Int32) (h0 : Heap) (n0 : Nat) (FO : Fld Z h0 a0' "java/lang/Enum" "ordinal" "I" (.int 3)) (EO : Exa Z h0 a0' "com/example/minder/minder/model/Comparison") :
    MetFree l (⟨"com/example/minder/minder/model/Comparison", "holds", "(I)Z"⟩ : MethodName) (head1 (Jvm.Cond.code (⟨"com/example/minder/minder/model/Comparison", "holds", "(I)Z"⟩ : MethodName) prog_22_method_5_code 2 (some .boolean) :: ws) ({ frames := 1, cells := 0, slots := 0, locals := 12 } : Room)) (fun a U => a = #[(.ref a0'), (.int cv)] ∧ Z.Warmed39 U.vm ∧ U.heap = h0) (fun _ _ _ _ _ => True) (fun _ U o U' => ∃ v L, o = .returned v ∧ Q_rm_holds3 Z a0' cv h0 n0 v U'.heap L ∧ FrameEnd U o U' L 0 0) := by
  refine MetFree.of_bodySF (plainFor_of_name pn_com_example_minder_minder_model_Comparison) hisR ?_
  intro p e s m args below meth c s₁ Bd hml0 hP hK
  obtain ⟨rfl, hZ, hh⟩ := hP
  have hx := Bd.exec
  have hby := Bd.bytes
  have hlk := Bd.notSynchronized
  have hml : c.maxLocals = 2 := hml0
  have hown : s.vm.findClass "com/example/minder/minder/model/Comparison" = some m.cls := findClass_of_methodNamed Bd.named
  have hnm := (name_of_methodNamed Bd.named Bd.method).1
  have X0 : Stand p l e ({ frames := 1, cells := 0, slots := 0, locals := 12 } : Room) s m #[(.ref a0'), (.int cv)] below meth c s₁ [] 0 0 := Stand.of_body Bd
  have e0 : s₁.heap = h0 := by rw [← hh, Bd.state]; rfl
  have N0 := Fr.nil n0
  show OwnEnd p e below s (Q_rm_holds3 Z a0' cv h0 n0) 0 0 (s₁.setTop (entryFrame m #[(.ref a0'), (.int cv)] 2))
  refine go (fun t k => castTop (ef_rm_holds3 m a0' cv) k) ?_
  show OwnEnd _ _ _ _ _ _ _ (s₁.setTop (mkF m 0 #[.val (.ref a0'), .val (.int cv)] []))
  refine go (fun _ k => by refine XS.aloadN X0.here hx rfl (hb hby d_prog_22_method_5_code_0) rfl rfl ?_; exact k) ?_
  show OwnEnd _ _ _ _ _ _ _ (s₁.setTop (mkF m 1 #[.val (.ref a0'), .val (.int cv)] [(.ref a0')]))
  obtain ⟨_, T1, L1, X1, hQ1, st1⟩ := callUp X0 hx hZ hown (hw _ (List.mem_of_getElem? (i := 16) rfl)) (hw _ (List.mem_of_getElem? (i := 17) rfl)) (hw _ (List.mem_of_getElem? (i := 18) rfl)) (by decide) (hw _ (List.mem_of_getElem? (i := 20) rfl)) (hw _ (List.mem_of_getElem? (i := 19) rfl)) (hw _ (List.mem_of_getElem? (i := 21) rfl)) (hw _ (List.mem_of_getElem? (i := 22) rfl)) (rm_ord l Z a0 hw [] a0' (3 : Int32) h0 n0 FO) (W := 0) (by decide) (by decide) e0 EO (g := (mkF m 1 #[.val (.ref a0'), .val (.int cv)] [(.ref a0')])) rfl (by rw [hml]; rfl) (argsL := []) (rest := []) rfl (lenOf pd___I rfl) rfl (by show 2 * 0 + _ ≤ _; exact Nat.le_of_eq rfl) (hb hby d_prog_22_method_5_code_1) (by decide) (by decide)
  obtain ⟨rfl, Nq1, eq1⟩ := hQ1
  have N1 := Fr.app N0 Nq1
  refine go st1 ?_
  show OwnEnd _ _ _ _ _ _ _ (T1.setTop (mkF m 4 #[.val (.ref a0'), .val (.int cv)] [(.int (3 : Int32))]))
  refine go (fun _ k => by refine XS.tswIn X1.here hx rfl (pc0 := 4) (pc' := 90) rfl (hb hby d_prog_22_method_5_code_4) rfl (by decide) (o := 86) (by decide) (by decide) (by decide) ?_; exact k) ?_
  refine go (fun _ k => by refine XS.iloadN X1.here hx rfl (hb hby d_prog_22_method_5_code_90) rfl ?_; exact k) ?_
  show OwnEnd _ _ _ _ _ _ _ (T1.setTop (mkF m 91 #[.val (.ref a0'), .val (.int cv)] [(.int cv)]))
  by_cases hc91_2 : cv < (0 : Int32)
  · refine go (fun _ k => by refine XS.ifYes X1.here hx rfl (pc0 := 91) (pc' := 98) rfl (hb hby d_prog_22_method_5_code_91) rfl ((if0 _ _).trans (tlt hc91_2).1) (by decide) (by decide) ?_; exact k) ?_
    show OwnEnd _ _ _ _ _ _ _ (T1.setTop (mkF m 98 #[.val (.ref a0'), .val (.int cv)] []))
    refine go (fun _ k => by refine XS.iconst X1.here hx rfl (hb hby d_prog_22_method_5_code_98) ?_; exact k) ?_
    refine go (fun _ k => by refine XS.goto X1.here hx rfl (pc0 := 99) (pc' := 123) rfl (hb hby d_prog_22_method_5_code_99) (by decide) (by decide) ?_; exact k) ?_
    show OwnEnd _ _ _ _ _ _ _ (T1.setTop (mkF m 123 #[.val (.ref a0'), .val (.int cv)] [(.int (0 : Int32))]))
    refine endN X1 hx hlk (t := .boolean) (by simp) Bd.returns (hb hby d_prog_22_method_5_code_123) eq1 (by decide) (by decide) ?_
    exact ⟨by rw [if_neg (by first | assumption | (simp only [Int32.lt_iff_toInt_lt, ← Int32.toInt_inj, Int32.reduceToInt] at *; omega))]; rfl, N1, rfl⟩
  · refine go (fun _ k => by refine XS.ifNo X1.here hx rfl (hb hby d_prog_22_method_5_code_91) rfl ((if0 _ _).trans (flt hc91_2).1) ?_; exact k) ?_
    show OwnEnd _ _ _ _ _ _ _ (T1.setTop (mkF m 94 #[.val (.ref a0'), .val (.int cv)] []))
    refine go (fun _ k => by refine XS.iconst X1.here hx rfl (hb hby d_prog_22_method_5_code_94) ?_; exact k) ?_
    refine go (fun _ k => by refine XS.goto X1.here hx rfl (pc0 := 95) (pc' := 123) rfl (hb hby d_prog_22_method_5_code_95) (by decide) (by decide) ?_; exact k) ?_
    show OwnEnd _ _ _ _ _ _ _ (T1.setTop (mkF m 123 #[.val (.ref a0'), .val (.int cv)] [(.int (1 : Int32))]))
    refine endN X1 hx hlk (t := .boolean) (by simp) Bd.returns (hb hby d_prog_22_method_5_code_123) eq1 (by decide) (by decide) ?_
    exact ⟨by rw [if_pos (by first | assumption | (simp only [Int32.lt_iff_toInt_lt, ← Int32.toInt_inj, Int32.reduceToInt] at *; omega))]; rfl, N1, rfl⟩
theorem d_method_3_code_35 : decode method_3_code 35 = .ok (.iload_n 0, 1) := by decide +kernel
theorem d_method_3_code_36 : decode method_3_code 36 = .ok (.iconst 4, 1) := by decide +kernel
theorem d_method_3_code_37 : decode method_3_code 37 = .ok (.if_icmp .ne 7, 3) := by decide +kernel
theorem d_method_3_code_40 : decode method_3_code 40 = .ok (.getstatic 22, 3) := by decide +kernel
theorem d_method_3_code_43 : decode method_3_code 43 = .ok (.areturn, 1) := by decide +kernel
theorem ef_rm_pick4 (m : MethodId)  : entryFrame m #[(.int (4 : Int32))] 1 = mkF m 0 #[.val (.int (4 : Int32))] [] := by first | (simp [entryFrame, mkF, argsToLocals, Value.category]; done) | rfl
def Q_rm_pick4 (Z : State) (w : Addr) (h0 : Heap) (n0 : Nat) (v : Option Value) (h : Heap) (L : List Loc) : Prop := v = some (.ref w) ∧ Fr n0 L ∧ h = h0
set_option maxRecDepth 65536 in
set_option maxHeartbeats 40000000 in
theorem rm_pick4 (l : Launch) (Z : State) (a0 : Array Value) (hw : ∀ d ∈ tables_1, d.before a0 Z = true) (ws : List Jvm.Cond) (w : Addr) (h0 : Heap) (n0 : Nat) (SS : Sta Z h0 "com/example/minder/minder/model/Comparison" "EQUAL" "Lcom/example/minder/minder/model/Comparison;" (.ref w)) :
    MetFree l (⟨"com/example/minder/minder/model/ComparisonHoldsPinLaw", "pick", "(I)Lcom/example/minder/minder/model/Comparison;"⟩ : MethodName) (head1 (Jvm.Cond.code (⟨"com/example/minder/minder/model/ComparisonHoldsPinLaw", "pick", "(I)Lcom/example/minder/minder/model/Comparison;"⟩ : MethodName) method_3_code 1 (some (.object "com/example/minder/minder/model/Comparison")) :: ws) ({ frames := 0, cells := 0, slots := 0, locals := 0 } : Room)) (fun a U => a = #[(.int (4 : Int32))] ∧ Z.Warmed39 U.vm ∧ U.heap = h0) (fun _ _ _ _ _ => True) (fun _ U o U' => ∃ v L, o = .returned v ∧ Q_rm_pick4 Z w h0 n0 v U'.heap L ∧ FrameEnd U o U' L 0 0) := by
  refine MetFree.of_bodySF (plainFor_of_name pn_com_example_minder_minder_model_ComparisonHoldsPinLaw) hisR ?_
  intro p e s m args below meth c s₁ Bd hml0 hP hK
  obtain ⟨rfl, hZ, hh⟩ := hP
  have hx := Bd.exec
  have hby := Bd.bytes
  have hlk := Bd.notSynchronized
  have hml : c.maxLocals = 1 := hml0
  have hown : s.vm.findClass "com/example/minder/minder/model/ComparisonHoldsPinLaw" = some m.cls := findClass_of_methodNamed Bd.named
  have hnm := (name_of_methodNamed Bd.named Bd.method).1
  have X0 : Stand p l e ({ frames := 0, cells := 0, slots := 0, locals := 0 } : Room) s m #[(.int (4 : Int32))] below meth c s₁ [] 0 0 := Stand.of_body Bd
  have e0 : s₁.heap = h0 := by rw [← hh, Bd.state]; rfl
  have N0 := Fr.nil n0
  show OwnEnd p e below s (Q_rm_pick4 Z w h0 n0) 0 0 (s₁.setTop (entryFrame m #[(.int (4 : Int32))] 1))
  refine go (fun t k => castTop (ef_rm_pick4 m ) k) ?_
  show OwnEnd _ _ _ _ _ _ _ (s₁.setTop (mkF m 0 #[.val (.int (4 : Int32))] []))
  refine go (fun _ k => by refine XS.iloadN X0.here hx rfl (hb hby d_method_3_code_0) rfl ?_; exact k) ?_
  show OwnEnd _ _ _ _ _ _ _ (s₁.setTop (mkF m 1 #[.val (.int (4 : Int32))] [(.int (4 : Int32))]))
  refine go (fun _ k => by refine XS.ifYes X0.here hx rfl (pc0 := 1) (pc' := 8) rfl (hb hby d_method_3_code_1) rfl ((if0 _ _).trans (feq (by decide)).2) (by decide) (by decide) ?_; exact k) ?_
  refine go (fun _ k => by refine XS.iloadN X0.here hx rfl (hb hby d_method_3_code_8) rfl ?_; exact k) ?_
  refine go (fun _ k => by refine XS.iconst X0.here hx rfl (hb hby d_method_3_code_9) ?_; exact k) ?_
  show OwnEnd _ _ _ _ _ _ _ (s₁.setTop (mkF m 10 #[.val (.int (4 : Int32))] [(.int (1 : Int32)), (.int (4 : Int32))]))
  refine go (fun _ k => by refine XS.icmpYes X0.here hx rfl (pc0 := 10) (pc' := 17) rfl (hb hby d_method_3_code_10) rfl (feq (by decide)).2 (by decide) (by decide) ?_; exact k) ?_
  refine go (fun _ k => by refine XS.iloadN X0.here hx rfl (hb hby d_method_3_code_17) rfl ?_; exact k) ?_
  refine go (fun _ k => by refine XS.iconst X0.here hx rfl (hb hby d_method_3_code_18) ?_; exact k) ?_
  show OwnEnd _ _ _ _ _ _ _ (s₁.setTop (mkF m 19 #[.val (.int (4 : Int32))] [(.int (2 : Int32)), (.int (4 : Int32))]))
  refine go (fun _ k => by refine XS.icmpYes X0.here hx rfl (pc0 := 19) (pc' := 26) rfl (hb hby d_method_3_code_19) rfl (feq (by decide)).2 (by decide) (by decide) ?_; exact k) ?_
  refine go (fun _ k => by refine XS.iloadN X0.here hx rfl (hb hby d_method_3_code_26) rfl ?_; exact k) ?_
  refine go (fun _ k => by refine XS.iconst X0.here hx rfl (hb hby d_method_3_code_27) ?_; exact k) ?_
  show OwnEnd _ _ _ _ _ _ _ (s₁.setTop (mkF m 28 #[.val (.int (4 : Int32))] [(.int (3 : Int32)), (.int (4 : Int32))]))
  refine go (fun _ k => by refine XS.icmpYes X0.here hx rfl (pc0 := 28) (pc' := 35) rfl (hb hby d_method_3_code_28) rfl (feq (by decide)).2 (by decide) (by decide) ?_; exact k) ?_
  refine go (fun _ k => by refine XS.iloadN X0.here hx rfl (hb hby d_method_3_code_35) rfl ?_; exact k) ?_
  refine go (fun _ k => by refine XS.iconst X0.here hx rfl (hb hby d_method_3_code_36) ?_; exact k) ?_
  show OwnEnd _ _ _ _ _ _ _ (s₁.setTop (mkF m 37 #[.val (.int (4 : Int32))] [(.int (4 : Int32)), (.int (4 : Int32))]))
  refine go (fun _ k => by refine XS.icmpNo X0.here hx rfl (hb hby d_method_3_code_37) rfl (teq (by decide)).2 ?_; exact k) ?_
  show OwnEnd _ _ _ _ _ _ _ (s₁.setTop (mkF m 40 #[.val (.int (4 : Int32))] []))
  obtain ⟨T1, X1, e1, st1⟩ := getS2 X0 hx hZ hown (host := "") (Or.inl (hw _ (List.mem_of_getElem? (i := 27) rfl))) Via.refl e0 SS (g := (mkF m 40 #[.val (.int (4 : Int32))] [])) rfl (hb hby d_method_3_code_40)
  refine go st1 ?_
  show OwnEnd _ _ _ _ _ _ _ (T1.setTop (mkF m 43 #[.val (.int (4 : Int32))] [(.ref w)]))
  refine endA X1 hx hlk Bd.returns rfl rfl (hb hby d_method_3_code_43) e1 (by decide) (by decide) ?_
  exact ⟨rfl, N0, rfl⟩
theorem d_method_2_code_28 : decode method_2_code 28 = .ok (.iload_n 0, 1) := by decide +kernel
theorem d_method_2_code_29 : decode method_2_code 29 = .ok (.iconst 4, 1) := by decide +kernel
theorem d_method_2_code_30 : decode method_2_code 30 = .ok (.if_icmp .ne 5, 3) := by decide +kernel
theorem d_method_2_code_33 : decode method_2_code 33 = .ok (.iconst 2, 1) := by decide +kernel
theorem d_method_2_code_34 : decode method_2_code 34 = .ok (.ireturn, 1) := by decide +kernel
theorem ef_rm_adm4 (m : MethodId)  : entryFrame m #[(.int (4 : Int32))] 1 = mkF m 0 #[.val (.int (4 : Int32))] [] := by first | (simp [entryFrame, mkF, argsToLocals, Value.category]; done) | rfl
def Q_rm_adm4 (Z : State)  (h0 : Heap) (n0 : Nat) (v : Option Value) (h : Heap) (L : List Loc) : Prop := v = some (.int 2) ∧ Fr n0 L ∧ h = h0
set_option maxRecDepth 65536 in
set_option maxHeartbeats 40000000 in
theorem rm_adm4 (l : Launch) (Z : State) (a0 : Array Value) (hw : ∀ d ∈ tables_1, d.before a0 Z = true) (ws : List Jvm.Cond)  (h0 : Heap) (n0 : Nat) :
    MetFree l (⟨"com/example/minder/minder/model/ComparisonHoldsPinLaw", "admitted", "(I)I"⟩ : MethodName) (head1 (Jvm.Cond.code (⟨"com/example/minder/minder/model/ComparisonHoldsPinLaw", "admitted", "(I)I"⟩ : MethodName) method_2_code 1 (some .int) :: ws) ({ frames := 0, cells := 0, slots := 0, locals := 0 } : Room)) (fun a U => a = #[(.int (4 : Int32))] ∧ Z.Warmed39 U.vm ∧ U.heap = h0) (fun _ _ _ _ _ => True) (fun _ U o U' => ∃ v L, o = .returned v ∧ Q_rm_adm4 Z  h0 n0 v U'.heap L ∧ FrameEnd U o U' L 0 0) := by
  refine MetFree.of_bodySF (plainFor_of_name pn_com_example_minder_minder_model_ComparisonHoldsPinLaw) hisR ?_
  intro p e s m args below meth c s₁ Bd hml0 hP hK
  obtain ⟨rfl, hZ, hh⟩ := hP
  have hx := Bd.exec
  have hby := Bd.bytes
  have hlk := Bd.notSynchronized
  have hml : c.maxLocals = 1 := hml0
  have hown : s.vm.findClass "com/example/minder/minder/model/ComparisonHoldsPinLaw" = some m.cls := findClass_of_methodNamed Bd.named
  have hnm := (name_of_methodNamed Bd.named Bd.method).1
  have X0 : Stand p l e ({ frames := 0, cells := 0, slots := 0, locals := 0 } : Room) s m #[(.int (4 : Int32))] below meth c s₁ [] 0 0 := Stand.of_body Bd
  have e0 : s₁.heap = h0 := by rw [← hh, Bd.state]; rfl
  have N0 := Fr.nil n0
  show OwnEnd p e below s (Q_rm_adm4 Z  h0 n0) 0 0 (s₁.setTop (entryFrame m #[(.int (4 : Int32))] 1))
  refine go (fun t k => castTop (ef_rm_adm4 m ) k) ?_
  show OwnEnd _ _ _ _ _ _ _ (s₁.setTop (mkF m 0 #[.val (.int (4 : Int32))] []))
  refine go (fun _ k => by refine XS.iloadN X0.here hx rfl (hb hby d_method_2_code_0) rfl ?_; exact k) ?_
  show OwnEnd _ _ _ _ _ _ _ (s₁.setTop (mkF m 1 #[.val (.int (4 : Int32))] [(.int (4 : Int32))]))
  refine go (fun _ k => by refine XS.ifYes X0.here hx rfl (pc0 := 1) (pc' := 6) rfl (hb hby d_method_2_code_1) rfl ((if0 _ _).trans (feq (by decide)).2) (by decide) (by decide) ?_; exact k) ?_
  refine go (fun _ k => by refine XS.iloadN X0.here hx rfl (hb hby d_method_2_code_6) rfl ?_; exact k) ?_
  refine go (fun _ k => by refine XS.iconst X0.here hx rfl (hb hby d_method_2_code_7) ?_; exact k) ?_
  show OwnEnd _ _ _ _ _ _ _ (s₁.setTop (mkF m 8 #[.val (.int (4 : Int32))] [(.int (1 : Int32)), (.int (4 : Int32))]))
  refine go (fun _ k => by refine XS.icmpYes X0.here hx rfl (pc0 := 8) (pc' := 13) rfl (hb hby d_method_2_code_8) rfl (feq (by decide)).2 (by decide) (by decide) ?_; exact k) ?_
  refine go (fun _ k => by refine XS.iloadN X0.here hx rfl (hb hby d_method_2_code_13) rfl ?_; exact k) ?_
  refine go (fun _ k => by refine XS.iconst X0.here hx rfl (hb hby d_method_2_code_14) ?_; exact k) ?_
  show OwnEnd _ _ _ _ _ _ _ (s₁.setTop (mkF m 15 #[.val (.int (4 : Int32))] [(.int (2 : Int32)), (.int (4 : Int32))]))
  refine go (fun _ k => by refine XS.icmpYes X0.here hx rfl (pc0 := 15) (pc' := 20) rfl (hb hby d_method_2_code_15) rfl (feq (by decide)).2 (by decide) (by decide) ?_; exact k) ?_
  refine go (fun _ k => by refine XS.iloadN X0.here hx rfl (hb hby d_method_2_code_20) rfl ?_; exact k) ?_
  refine go (fun _ k => by refine XS.iconst X0.here hx rfl (hb hby d_method_2_code_21) ?_; exact k) ?_
  show OwnEnd _ _ _ _ _ _ _ (s₁.setTop (mkF m 22 #[.val (.int (4 : Int32))] [(.int (3 : Int32)), (.int (4 : Int32))]))
  refine go (fun _ k => by refine XS.icmpYes X0.here hx rfl (pc0 := 22) (pc' := 28) rfl (hb hby d_method_2_code_22) rfl (feq (by decide)).2 (by decide) (by decide) ?_; exact k) ?_
  refine go (fun _ k => by refine XS.iloadN X0.here hx rfl (hb hby d_method_2_code_28) rfl ?_; exact k) ?_
  refine go (fun _ k => by refine XS.iconst X0.here hx rfl (hb hby d_method_2_code_29) ?_; exact k) ?_
  show OwnEnd _ _ _ _ _ _ _ (s₁.setTop (mkF m 30 #[.val (.int (4 : Int32))] [(.int (4 : Int32)), (.int (4 : Int32))]))
  refine go (fun _ k => by refine XS.icmpNo X0.here hx rfl (hb hby d_method_2_code_30) rfl (teq (by decide)).2 ?_; exact k) ?_
  refine go (fun _ k => by refine XS.iconst X0.here hx rfl (hb hby d_method_2_code_33) ?_; exact k) ?_
  show OwnEnd _ _ _ _ _ _ _ (s₁.setTop (mkF m 34 #[.val (.int (4 : Int32))] [(.int (2 : Int32))]))
  refine endI X0 hx hlk Bd.returns (hb hby d_method_2_code_34) e0 (by decide) (by decide) ?_
  exact ⟨rfl, N0, rfl⟩
theorem d_prog_22_method_5_code_102 : decode prog_22_method_5_code 102 = .ok (.iload_n 1, 1) := by decide +kernel
theorem d_prog_22_method_5_code_103 : decode prog_22_method_5_code 103 = .ok (.ifCond .ne 7, 3) := by decide +kernel
theorem d_prog_22_method_5_code_106 : decode prog_22_method_5_code 106 = .ok (.iconst 1, 1) := by decide +kernel
theorem d_prog_22_method_5_code_107 : decode prog_22_method_5_code 107 = .ok (.goto 16, 3) := by decide +kernel
theorem d_prog_22_method_5_code_110 : decode prog_22_method_5_code 110 = .ok (.iconst 0, 1) := by decide +kernel
theorem d_prog_22_method_5_code_111 : decode prog_22_method_5_code 111 = .ok (.goto 12, 3) := by decide +kernel
theorem ef_rm_holds4 (m : MethodId) (y0 : Addr) (y1 : Int32) : entryFrame m #[(.ref y0), (.int y1)] 2 = mkF m 0 #[.val (.ref y0), .val (.int y1)] [] := by first | (simp [entryFrame, mkF, argsToLocals, Value.category]; done) | rfl
def Q_rm_holds4 (Z : State) (a0' : Addr) (cv : Int32) (h0 : Heap) (n0 : Nat) (v : Option Value) (h : Heap) (L : List Loc) : Prop := v = some (.int (if cv = 0 then (1 : Int32) else 0)) ∧ Fr n0 L ∧ h = h0
set_option maxRecDepth 65536 in
set_option maxHeartbeats 40000000 in
theorem rm_holds4 (l : Launch) (Z : State) (a0 : Array Value) (hw : ∀ d ∈ tables_1, d.before a0 Z = true) (ws : List Jvm.Cond) (a0' : Addr) (cv : Int32) (h0 : Heap) (n0 : Nat) (FO : Fld Z h0 a0' "java/lang/Enum" "ordinal" "I" (.int 4)) (EO : Exa Z h0 a0' "com/example/minder/minder/model/Comparison") :
    MetFree l (⟨"com/example/minder/minder/model/Comparison", "holds", "(I)Z"⟩ : MethodName) (head1 (Jvm.Cond.code (⟨"com/example/minder/minder/model/Comparison", "holds", "(I)Z"⟩ : MethodName) prog_22_method_5_code 2 (some .boolean) :: ws) ({ frames := 1, cells := 0, slots := 0, locals := 12 } : Room)) (fun a U => a = #[(.ref a0'), (.int cv)] ∧ Z.Warmed39 U.vm ∧ U.heap = h0) (fun _ _ _ _ _ => True) (fun _ U o U' => ∃ v L, o = .returned v ∧ Q_rm_holds4 Z a0' cv h0 n0 v U'.heap L ∧ FrameEnd U o U' L 0 0) := by
  refine MetFree.of_bodySF (plainFor_of_name pn_com_example_minder_minder_model_Comparison) hisR ?_
  intro p e s m args below meth c s₁ Bd hml0 hP hK
  obtain ⟨rfl, hZ, hh⟩ := hP
  have hx := Bd.exec
  have hby := Bd.bytes
  have hlk := Bd.notSynchronized
  have hml : c.maxLocals = 2 := hml0
  have hown : s.vm.findClass "com/example/minder/minder/model/Comparison" = some m.cls := findClass_of_methodNamed Bd.named
  have hnm := (name_of_methodNamed Bd.named Bd.method).1
  have X0 : Stand p l e ({ frames := 1, cells := 0, slots := 0, locals := 12 } : Room) s m #[(.ref a0'), (.int cv)] below meth c s₁ [] 0 0 := Stand.of_body Bd
  have e0 : s₁.heap = h0 := by rw [← hh, Bd.state]; rfl
  have N0 := Fr.nil n0
  show OwnEnd p e below s (Q_rm_holds4 Z a0' cv h0 n0) 0 0 (s₁.setTop (entryFrame m #[(.ref a0'), (.int cv)] 2))
  refine go (fun t k => castTop (ef_rm_holds4 m a0' cv) k) ?_
  show OwnEnd _ _ _ _ _ _ _ (s₁.setTop (mkF m 0 #[.val (.ref a0'), .val (.int cv)] []))
  refine go (fun _ k => by refine XS.aloadN X0.here hx rfl (hb hby d_prog_22_method_5_code_0) rfl rfl ?_; exact k) ?_
  show OwnEnd _ _ _ _ _ _ _ (s₁.setTop (mkF m 1 #[.val (.ref a0'), .val (.int cv)] [(.ref a0')]))
  obtain ⟨_, T1, L1, X1, hQ1, st1⟩ := callUp X0 hx hZ hown (hw _ (List.mem_of_getElem? (i := 16) rfl)) (hw _ (List.mem_of_getElem? (i := 17) rfl)) (hw _ (List.mem_of_getElem? (i := 18) rfl)) (by decide) (hw _ (List.mem_of_getElem? (i := 20) rfl)) (hw _ (List.mem_of_getElem? (i := 19) rfl)) (hw _ (List.mem_of_getElem? (i := 21) rfl)) (hw _ (List.mem_of_getElem? (i := 22) rfl)) (rm_ord l Z a0 hw [] a0' (4 : Int32) h0 n0 FO) (W := 0) (by decide) (by decide) e0 EO (g := (mkF m 1 #[.val (.ref a0'), .val (.int cv)] [(.ref a0')])) rfl (by rw [hml]; rfl) (argsL := []) (rest := []) rfl (lenOf pd___I rfl) rfl (by show 2 * 0 + _ ≤ _; exact Nat.le_of_eq rfl) (hb hby d_prog_22_method_5_code_1) (by decide) (by decide)
  obtain ⟨rfl, Nq1, eq1⟩ := hQ1
  have N1 := Fr.app N0 Nq1
  refine go st1 ?_
  show OwnEnd _ _ _ _ _ _ _ (T1.setTop (mkF m 4 #[.val (.ref a0'), .val (.int cv)] [(.int (4 : Int32))]))
  refine go (fun _ k => by refine XS.tswIn X1.here hx rfl (pc0 := 4) (pc' := 102) rfl (hb hby d_prog_22_method_5_code_4) rfl (by decide) (o := 98) (by decide) (by decide) (by decide) ?_; exact k) ?_
  refine go (fun _ k => by refine XS.iloadN X1.here hx rfl (hb hby d_prog_22_method_5_code_102) rfl ?_; exact k) ?_
  show OwnEnd _ _ _ _ _ _ _ (T1.setTop (mkF m 103 #[.val (.ref a0'), .val (.int cv)] [(.int cv)]))
  by_cases hc103_2 : cv = (0 : Int32)
  · refine go (fun _ k => by refine XS.ifNo X1.here hx rfl (hb hby d_prog_22_method_5_code_103) rfl ((if0 _ _).trans (teq hc103_2).2) ?_; exact k) ?_
    show OwnEnd _ _ _ _ _ _ _ (T1.setTop (mkF m 106 #[.val (.ref a0'), .val (.int cv)] []))
    refine go (fun _ k => by refine XS.iconst X1.here hx rfl (hb hby d_prog_22_method_5_code_106) ?_; exact k) ?_
    refine go (fun _ k => by refine XS.goto X1.here hx rfl (pc0 := 107) (pc' := 123) rfl (hb hby d_prog_22_method_5_code_107) (by decide) (by decide) ?_; exact k) ?_
    show OwnEnd _ _ _ _ _ _ _ (T1.setTop (mkF m 123 #[.val (.ref a0'), .val (.int cv)] [(.int (1 : Int32))]))
    refine endN X1 hx hlk (t := .boolean) (by simp) Bd.returns (hb hby d_prog_22_method_5_code_123) eq1 (by decide) (by decide) ?_
    exact ⟨by rw [if_pos (by first | assumption | (simp only [Int32.lt_iff_toInt_lt, ← Int32.toInt_inj, Int32.reduceToInt] at *; omega))]; rfl, N1, rfl⟩
  · refine go (fun _ k => by refine XS.ifYes X1.here hx rfl (pc0 := 103) (pc' := 110) rfl (hb hby d_prog_22_method_5_code_103) rfl ((if0 _ _).trans (feq hc103_2).2) (by decide) (by decide) ?_; exact k) ?_
    show OwnEnd _ _ _ _ _ _ _ (T1.setTop (mkF m 110 #[.val (.ref a0'), .val (.int cv)] []))
    refine go (fun _ k => by refine XS.iconst X1.here hx rfl (hb hby d_prog_22_method_5_code_110) ?_; exact k) ?_
    refine go (fun _ k => by refine XS.goto X1.here hx rfl (pc0 := 111) (pc' := 123) rfl (hb hby d_prog_22_method_5_code_111) (by decide) (by decide) ?_; exact k) ?_
    show OwnEnd _ _ _ _ _ _ _ (T1.setTop (mkF m 123 #[.val (.ref a0'), .val (.int cv)] [(.int (0 : Int32))]))
    refine endN X1 hx hlk (t := .boolean) (by simp) Bd.returns (hb hby d_prog_22_method_5_code_123) eq1 (by decide) (by decide) ?_
    exact ⟨by rw [if_neg (by first | assumption | (simp only [Int32.lt_iff_toInt_lt, ← Int32.toInt_inj, Int32.reduceToInt] at *; omega))]; rfl, N1, rfl⟩
theorem d_method_3_code_44 : decode method_3_code 44 = .ok (.getstatic 25, 3) := by decide +kernel
theorem d_method_3_code_47 : decode method_3_code 47 = .ok (.areturn, 1) := by decide +kernel
theorem ef_rm_pick5 (m : MethodId)  : entryFrame m #[(.int (5 : Int32))] 1 = mkF m 0 #[.val (.int (5 : Int32))] [] := by first | (simp [entryFrame, mkF, argsToLocals, Value.category]; done) | rfl
def Q_rm_pick5 (Z : State) (w : Addr) (h0 : Heap) (n0 : Nat) (v : Option Value) (h : Heap) (L : List Loc) : Prop := v = some (.ref w) ∧ Fr n0 L ∧ h = h0
set_option maxRecDepth 65536 in
set_option maxHeartbeats 40000000 in
theorem rm_pick5 (l : Launch) (Z : State) (a0 : Array Value) (hw : ∀ d ∈ tables_1, d.before a0 Z = true) (ws : List Jvm.Cond) (w : Addr) (h0 : Heap) (n0 : Nat) (SS : Sta Z h0 "com/example/minder/minder/model/Comparison" "NOT_EQUAL" "Lcom/example/minder/minder/model/Comparison;" (.ref w)) :
    MetFree l (⟨"com/example/minder/minder/model/ComparisonHoldsPinLaw", "pick", "(I)Lcom/example/minder/minder/model/Comparison;"⟩ : MethodName) (head1 (Jvm.Cond.code (⟨"com/example/minder/minder/model/ComparisonHoldsPinLaw", "pick", "(I)Lcom/example/minder/minder/model/Comparison;"⟩ : MethodName) method_3_code 1 (some (.object "com/example/minder/minder/model/Comparison")) :: ws) ({ frames := 0, cells := 0, slots := 0, locals := 0 } : Room)) (fun a U => a = #[(.int (5 : Int32))] ∧ Z.Warmed39 U.vm ∧ U.heap = h0) (fun _ _ _ _ _ => True) (fun _ U o U' => ∃ v L, o = .returned v ∧ Q_rm_pick5 Z w h0 n0 v U'.heap L ∧ FrameEnd U o U' L 0 0) := by
  refine MetFree.of_bodySF (plainFor_of_name pn_com_example_minder_minder_model_ComparisonHoldsPinLaw) hisR ?_
  intro p e s m args below meth c s₁ Bd hml0 hP hK
  obtain ⟨rfl, hZ, hh⟩ := hP
  have hx := Bd.exec
  have hby := Bd.bytes
  have hlk := Bd.notSynchronized
  have hml : c.maxLocals = 1 := hml0
  have hown : s.vm.findClass "com/example/minder/minder/model/ComparisonHoldsPinLaw" = some m.cls := findClass_of_methodNamed Bd.named
  have hnm := (name_of_methodNamed Bd.named Bd.method).1
  have X0 : Stand p l e ({ frames := 0, cells := 0, slots := 0, locals := 0 } : Room) s m #[(.int (5 : Int32))] below meth c s₁ [] 0 0 := Stand.of_body Bd
  have e0 : s₁.heap = h0 := by rw [← hh, Bd.state]; rfl
  have N0 := Fr.nil n0
  show OwnEnd p e below s (Q_rm_pick5 Z w h0 n0) 0 0 (s₁.setTop (entryFrame m #[(.int (5 : Int32))] 1))
  refine go (fun t k => castTop (ef_rm_pick5 m ) k) ?_
  show OwnEnd _ _ _ _ _ _ _ (s₁.setTop (mkF m 0 #[.val (.int (5 : Int32))] []))
  refine go (fun _ k => by refine XS.iloadN X0.here hx rfl (hb hby d_method_3_code_0) rfl ?_; exact k) ?_
  show OwnEnd _ _ _ _ _ _ _ (s₁.setTop (mkF m 1 #[.val (.int (5 : Int32))] [(.int (5 : Int32))]))
  refine go (fun _ k => by refine XS.ifYes X0.here hx rfl (pc0 := 1) (pc' := 8) rfl (hb hby d_method_3_code_1) rfl ((if0 _ _).trans (feq (by decide)).2) (by decide) (by decide) ?_; exact k) ?_
  refine go (fun _ k => by refine XS.iloadN X0.here hx rfl (hb hby d_method_3_code_8) rfl ?_; exact k) ?_
  refine go (fun _ k => by refine XS.iconst X0.here hx rfl (hb hby d_method_3_code_9) ?_; exact k) ?_
  show OwnEnd _ _ _ _ _ _ _ (s₁.setTop (mkF m 10 #[.val (.int (5 : Int32))] [(.int (1 : Int32)), (.int (5 : Int32))]))
  refine go (fun _ k => by refine XS.icmpYes X0.here hx rfl (pc0 := 10) (pc' := 17) rfl (hb hby d_method_3_code_10) rfl (feq (by decide)).2 (by decide) (by decide) ?_; exact k) ?_
  refine go (fun _ k => by refine XS.iloadN X0.here hx rfl (hb hby d_method_3_code_17) rfl ?_; exact k) ?_
  refine go (fun _ k => by refine XS.iconst X0.here hx rfl (hb hby d_method_3_code_18) ?_; exact k) ?_
  show OwnEnd _ _ _ _ _ _ _ (s₁.setTop (mkF m 19 #[.val (.int (5 : Int32))] [(.int (2 : Int32)), (.int (5 : Int32))]))
  refine go (fun _ k => by refine XS.icmpYes X0.here hx rfl (pc0 := 19) (pc' := 26) rfl (hb hby d_method_3_code_19) rfl (feq (by decide)).2 (by decide) (by decide) ?_; exact k) ?_
  refine go (fun _ k => by refine XS.iloadN X0.here hx rfl (hb hby d_method_3_code_26) rfl ?_; exact k) ?_
  refine go (fun _ k => by refine XS.iconst X0.here hx rfl (hb hby d_method_3_code_27) ?_; exact k) ?_
  show OwnEnd _ _ _ _ _ _ _ (s₁.setTop (mkF m 28 #[.val (.int (5 : Int32))] [(.int (3 : Int32)), (.int (5 : Int32))]))
  refine go (fun _ k => by refine XS.icmpYes X0.here hx rfl (pc0 := 28) (pc' := 35) rfl (hb hby d_method_3_code_28) rfl (feq (by decide)).2 (by decide) (by decide) ?_; exact k) ?_
  refine go (fun _ k => by refine XS.iloadN X0.here hx rfl (hb hby d_method_3_code_35) rfl ?_; exact k) ?_
  refine go (fun _ k => by refine XS.iconst X0.here hx rfl (hb hby d_method_3_code_36) ?_; exact k) ?_
  show OwnEnd _ _ _ _ _ _ _ (s₁.setTop (mkF m 37 #[.val (.int (5 : Int32))] [(.int (4 : Int32)), (.int (5 : Int32))]))
  refine go (fun _ k => by refine XS.icmpYes X0.here hx rfl (pc0 := 37) (pc' := 44) rfl (hb hby d_method_3_code_37) rfl (feq (by decide)).2 (by decide) (by decide) ?_; exact k) ?_
  show OwnEnd _ _ _ _ _ _ _ (s₁.setTop (mkF m 44 #[.val (.int (5 : Int32))] []))
  obtain ⟨T1, X1, e1, st1⟩ := getS2 X0 hx hZ hown (host := "") (Or.inl (hw _ (List.mem_of_getElem? (i := 31) rfl))) Via.refl e0 SS (g := (mkF m 44 #[.val (.int (5 : Int32))] [])) rfl (hb hby d_method_3_code_44)
  refine go st1 ?_
  show OwnEnd _ _ _ _ _ _ _ (T1.setTop (mkF m 47 #[.val (.int (5 : Int32))] [(.ref w)]))
  refine endA X1 hx hlk Bd.returns rfl rfl (hb hby d_method_3_code_47) e1 (by decide) (by decide) ?_
  exact ⟨rfl, N0, rfl⟩
theorem d_method_2_code_35 : decode method_2_code 35 = .ok (.iconst 5, 1) := by decide +kernel
theorem d_method_2_code_36 : decode method_2_code 36 = .ok (.ireturn, 1) := by decide +kernel
theorem ef_rm_adm5 (m : MethodId)  : entryFrame m #[(.int (5 : Int32))] 1 = mkF m 0 #[.val (.int (5 : Int32))] [] := by first | (simp [entryFrame, mkF, argsToLocals, Value.category]; done) | rfl
def Q_rm_adm5 (Z : State)  (h0 : Heap) (n0 : Nat) (v : Option Value) (h : Heap) (L : List Loc) : Prop := v = some (.int 5) ∧ Fr n0 L ∧ h = h0
set_option maxRecDepth 65536 in
set_option maxHeartbeats 40000000 in
theorem rm_adm5 (l : Launch) (Z : State) (a0 : Array Value) (hw : ∀ d ∈ tables_1, d.before a0 Z = true) (ws : List Jvm.Cond)  (h0 : Heap) (n0 : Nat) :
    MetFree l (⟨"com/example/minder/minder/model/ComparisonHoldsPinLaw", "admitted", "(I)I"⟩ : MethodName) (head1 (Jvm.Cond.code (⟨"com/example/minder/minder/model/ComparisonHoldsPinLaw", "admitted", "(I)I"⟩ : MethodName) method_2_code 1 (some .int) :: ws) ({ frames := 0, cells := 0, slots := 0, locals := 0 } : Room)) (fun a U => a = #[(.int (5 : Int32))] ∧ Z.Warmed39 U.vm ∧ U.heap = h0) (fun _ _ _ _ _ => True) (fun _ U o U' => ∃ v L, o = .returned v ∧ Q_rm_adm5 Z  h0 n0 v U'.heap L ∧ FrameEnd U o U' L 0 0) := by
  refine MetFree.of_bodySF (plainFor_of_name pn_com_example_minder_minder_model_ComparisonHoldsPinLaw) hisR ?_
  intro p e s m args below meth c s₁ Bd hml0 hP hK
  obtain ⟨rfl, hZ, hh⟩ := hP
  have hx := Bd.exec
  have hby := Bd.bytes
  have hlk := Bd.notSynchronized
  have hml : c.maxLocals = 1 := hml0
  have hown : s.vm.findClass "com/example/minder/minder/model/ComparisonHoldsPinLaw" = some m.cls := findClass_of_methodNamed Bd.named
  have hnm := (name_of_methodNamed Bd.named Bd.method).1
  have X0 : Stand p l e ({ frames := 0, cells := 0, slots := 0, locals := 0 } : Room) s m #[(.int (5 : Int32))] below meth c s₁ [] 0 0 := Stand.of_body Bd
  have e0 : s₁.heap = h0 := by rw [← hh, Bd.state]; rfl
  have N0 := Fr.nil n0
  show OwnEnd p e below s (Q_rm_adm5 Z  h0 n0) 0 0 (s₁.setTop (entryFrame m #[(.int (5 : Int32))] 1))
  refine go (fun t k => castTop (ef_rm_adm5 m ) k) ?_
  show OwnEnd _ _ _ _ _ _ _ (s₁.setTop (mkF m 0 #[.val (.int (5 : Int32))] []))
  refine go (fun _ k => by refine XS.iloadN X0.here hx rfl (hb hby d_method_2_code_0) rfl ?_; exact k) ?_
  show OwnEnd _ _ _ _ _ _ _ (s₁.setTop (mkF m 1 #[.val (.int (5 : Int32))] [(.int (5 : Int32))]))
  refine go (fun _ k => by refine XS.ifYes X0.here hx rfl (pc0 := 1) (pc' := 6) rfl (hb hby d_method_2_code_1) rfl ((if0 _ _).trans (feq (by decide)).2) (by decide) (by decide) ?_; exact k) ?_
  refine go (fun _ k => by refine XS.iloadN X0.here hx rfl (hb hby d_method_2_code_6) rfl ?_; exact k) ?_
  refine go (fun _ k => by refine XS.iconst X0.here hx rfl (hb hby d_method_2_code_7) ?_; exact k) ?_
  show OwnEnd _ _ _ _ _ _ _ (s₁.setTop (mkF m 8 #[.val (.int (5 : Int32))] [(.int (1 : Int32)), (.int (5 : Int32))]))
  refine go (fun _ k => by refine XS.icmpYes X0.here hx rfl (pc0 := 8) (pc' := 13) rfl (hb hby d_method_2_code_8) rfl (feq (by decide)).2 (by decide) (by decide) ?_; exact k) ?_
  refine go (fun _ k => by refine XS.iloadN X0.here hx rfl (hb hby d_method_2_code_13) rfl ?_; exact k) ?_
  refine go (fun _ k => by refine XS.iconst X0.here hx rfl (hb hby d_method_2_code_14) ?_; exact k) ?_
  show OwnEnd _ _ _ _ _ _ _ (s₁.setTop (mkF m 15 #[.val (.int (5 : Int32))] [(.int (2 : Int32)), (.int (5 : Int32))]))
  refine go (fun _ k => by refine XS.icmpYes X0.here hx rfl (pc0 := 15) (pc' := 20) rfl (hb hby d_method_2_code_15) rfl (feq (by decide)).2 (by decide) (by decide) ?_; exact k) ?_
  refine go (fun _ k => by refine XS.iloadN X0.here hx rfl (hb hby d_method_2_code_20) rfl ?_; exact k) ?_
  refine go (fun _ k => by refine XS.iconst X0.here hx rfl (hb hby d_method_2_code_21) ?_; exact k) ?_
  show OwnEnd _ _ _ _ _ _ _ (s₁.setTop (mkF m 22 #[.val (.int (5 : Int32))] [(.int (3 : Int32)), (.int (5 : Int32))]))
  refine go (fun _ k => by refine XS.icmpYes X0.here hx rfl (pc0 := 22) (pc' := 28) rfl (hb hby d_method_2_code_22) rfl (feq (by decide)).2 (by decide) (by decide) ?_; exact k) ?_
  refine go (fun _ k => by refine XS.iloadN X0.here hx rfl (hb hby d_method_2_code_28) rfl ?_; exact k) ?_
  refine go (fun _ k => by refine XS.iconst X0.here hx rfl (hb hby d_method_2_code_29) ?_; exact k) ?_
  show OwnEnd _ _ _ _ _ _ _ (s₁.setTop (mkF m 30 #[.val (.int (5 : Int32))] [(.int (4 : Int32)), (.int (5 : Int32))]))
  refine go (fun _ k => by refine XS.icmpYes X0.here hx rfl (pc0 := 30) (pc' := 35) rfl (hb hby d_method_2_code_30) rfl (feq (by decide)).2 (by decide) (by decide) ?_; exact k) ?_
  refine go (fun _ k => by refine XS.iconst X0.here hx rfl (hb hby d_method_2_code_35) ?_; exact k) ?_
  show OwnEnd _ _ _ _ _ _ _ (s₁.setTop (mkF m 36 #[.val (.int (5 : Int32))] [(.int (5 : Int32))]))
  refine endI X0 hx hlk Bd.returns (hb hby d_method_2_code_36) e0 (by decide) (by decide) ?_
  exact ⟨rfl, N0, rfl⟩
theorem d_prog_22_method_5_code_114 : decode prog_22_method_5_code 114 = .ok (.iload_n 1, 1) := by decide +kernel
theorem d_prog_22_method_5_code_115 : decode prog_22_method_5_code 115 = .ok (.ifCond .eq 7, 3) := by decide +kernel
theorem d_prog_22_method_5_code_122 : decode prog_22_method_5_code 122 = .ok (.iconst 0, 1) := by decide +kernel
theorem d_prog_22_method_5_code_118 : decode prog_22_method_5_code 118 = .ok (.iconst 1, 1) := by decide +kernel
theorem d_prog_22_method_5_code_119 : decode prog_22_method_5_code 119 = .ok (.goto 4, 3) := by decide +kernel
theorem ef_rm_holds5 (m : MethodId) (y0 : Addr) (y1 : Int32) : entryFrame m #[(.ref y0), (.int y1)] 2 = mkF m 0 #[.val (.ref y0), .val (.int y1)] [] := by first | (simp [entryFrame, mkF, argsToLocals, Value.category]; done) | rfl
def Q_rm_holds5 (Z : State) (a0' : Addr) (cv : Int32) (h0 : Heap) (n0 : Nat) (v : Option Value) (h : Heap) (L : List Loc) : Prop := v = some (.int (if ¬ cv = 0 then (1 : Int32) else 0)) ∧ Fr n0 L ∧ h = h0
set_option maxRecDepth 65536 in
set_option maxHeartbeats 40000000 in
theorem rm_holds5 (l : Launch) (Z : State) (a0 : Array Value) (hw : ∀ d ∈ tables_1, d.before a0 Z = true) (ws : List Jvm.Cond) (a0' : Addr) (cv : Int32) (h0 : Heap) (n0 : Nat) (FO : Fld Z h0 a0' "java/lang/Enum" "ordinal" "I" (.int 5)) (EO : Exa Z h0 a0' "com/example/minder/minder/model/Comparison") :
    MetFree l (⟨"com/example/minder/minder/model/Comparison", "holds", "(I)Z"⟩ : MethodName) (head1 (Jvm.Cond.code (⟨"com/example/minder/minder/model/Comparison", "holds", "(I)Z"⟩ : MethodName) prog_22_method_5_code 2 (some .boolean) :: ws) ({ frames := 1, cells := 0, slots := 0, locals := 12 } : Room)) (fun a U => a = #[(.ref a0'), (.int cv)] ∧ Z.Warmed39 U.vm ∧ U.heap = h0) (fun _ _ _ _ _ => True) (fun _ U o U' => ∃ v L, o = .returned v ∧ Q_rm_holds5 Z a0' cv h0 n0 v U'.heap L ∧ FrameEnd U o U' L 0 0) := by
  refine MetFree.of_bodySF (plainFor_of_name pn_com_example_minder_minder_model_Comparison) hisR ?_
  intro p e s m args below meth c s₁ Bd hml0 hP hK
  obtain ⟨rfl, hZ, hh⟩ := hP
  have hx := Bd.exec
  have hby := Bd.bytes
  have hlk := Bd.notSynchronized
  have hml : c.maxLocals = 2 := hml0
  have hown : s.vm.findClass "com/example/minder/minder/model/Comparison" = some m.cls := findClass_of_methodNamed Bd.named
  have hnm := (name_of_methodNamed Bd.named Bd.method).1
  have X0 : Stand p l e ({ frames := 1, cells := 0, slots := 0, locals := 12 } : Room) s m #[(.ref a0'), (.int cv)] below meth c s₁ [] 0 0 := Stand.of_body Bd
  have e0 : s₁.heap = h0 := by rw [← hh, Bd.state]; rfl
  have N0 := Fr.nil n0
  show OwnEnd p e below s (Q_rm_holds5 Z a0' cv h0 n0) 0 0 (s₁.setTop (entryFrame m #[(.ref a0'), (.int cv)] 2))
  refine go (fun t k => castTop (ef_rm_holds5 m a0' cv) k) ?_
  show OwnEnd _ _ _ _ _ _ _ (s₁.setTop (mkF m 0 #[.val (.ref a0'), .val (.int cv)] []))
  refine go (fun _ k => by refine XS.aloadN X0.here hx rfl (hb hby d_prog_22_method_5_code_0) rfl rfl ?_; exact k) ?_
  show OwnEnd _ _ _ _ _ _ _ (s₁.setTop (mkF m 1 #[.val (.ref a0'), .val (.int cv)] [(.ref a0')]))
  obtain ⟨_, T1, L1, X1, hQ1, st1⟩ := callUp X0 hx hZ hown (hw _ (List.mem_of_getElem? (i := 16) rfl)) (hw _ (List.mem_of_getElem? (i := 17) rfl)) (hw _ (List.mem_of_getElem? (i := 18) rfl)) (by decide) (hw _ (List.mem_of_getElem? (i := 20) rfl)) (hw _ (List.mem_of_getElem? (i := 19) rfl)) (hw _ (List.mem_of_getElem? (i := 21) rfl)) (hw _ (List.mem_of_getElem? (i := 22) rfl)) (rm_ord l Z a0 hw [] a0' (5 : Int32) h0 n0 FO) (W := 0) (by decide) (by decide) e0 EO (g := (mkF m 1 #[.val (.ref a0'), .val (.int cv)] [(.ref a0')])) rfl (by rw [hml]; rfl) (argsL := []) (rest := []) rfl (lenOf pd___I rfl) rfl (by show 2 * 0 + _ ≤ _; exact Nat.le_of_eq rfl) (hb hby d_prog_22_method_5_code_1) (by decide) (by decide)
  obtain ⟨rfl, Nq1, eq1⟩ := hQ1
  have N1 := Fr.app N0 Nq1
  refine go st1 ?_
  show OwnEnd _ _ _ _ _ _ _ (T1.setTop (mkF m 4 #[.val (.ref a0'), .val (.int cv)] [(.int (5 : Int32))]))
  refine go (fun _ k => by refine XS.tswIn X1.here hx rfl (pc0 := 4) (pc' := 114) rfl (hb hby d_prog_22_method_5_code_4) rfl (by decide) (o := 110) (by decide) (by decide) (by decide) ?_; exact k) ?_
  refine go (fun _ k => by refine XS.iloadN X1.here hx rfl (hb hby d_prog_22_method_5_code_114) rfl ?_; exact k) ?_
  show OwnEnd _ _ _ _ _ _ _ (T1.setTop (mkF m 115 #[.val (.ref a0'), .val (.int cv)] [(.int cv)]))
  by_cases hc115_2 : cv = (0 : Int32)
  · refine go (fun _ k => by refine XS.ifYes X1.here hx rfl (pc0 := 115) (pc' := 122) rfl (hb hby d_prog_22_method_5_code_115) rfl ((if0 _ _).trans (teq hc115_2).1) (by decide) (by decide) ?_; exact k) ?_
    show OwnEnd _ _ _ _ _ _ _ (T1.setTop (mkF m 122 #[.val (.ref a0'), .val (.int cv)] []))
    refine go (fun _ k => by refine XS.iconst X1.here hx rfl (hb hby d_prog_22_method_5_code_122) ?_; exact k) ?_
    show OwnEnd _ _ _ _ _ _ _ (T1.setTop (mkF m 123 #[.val (.ref a0'), .val (.int cv)] [(.int (0 : Int32))]))
    refine endN X1 hx hlk (t := .boolean) (by simp) Bd.returns (hb hby d_prog_22_method_5_code_123) eq1 (by decide) (by decide) ?_
    exact ⟨by rw [if_neg (by first | assumption | (simp only [Int32.lt_iff_toInt_lt, ← Int32.toInt_inj, Int32.reduceToInt] at *; omega))]; rfl, N1, rfl⟩
  · refine go (fun _ k => by refine XS.ifNo X1.here hx rfl (hb hby d_prog_22_method_5_code_115) rfl ((if0 _ _).trans (feq hc115_2).1) ?_; exact k) ?_
    show OwnEnd _ _ _ _ _ _ _ (T1.setTop (mkF m 118 #[.val (.ref a0'), .val (.int cv)] []))
    refine go (fun _ k => by refine XS.iconst X1.here hx rfl (hb hby d_prog_22_method_5_code_118) ?_; exact k) ?_
    refine go (fun _ k => by refine XS.goto X1.here hx rfl (pc0 := 119) (pc' := 123) rfl (hb hby d_prog_22_method_5_code_119) (by decide) (by decide) ?_; exact k) ?_
    show OwnEnd _ _ _ _ _ _ _ (T1.setTop (mkF m 123 #[.val (.ref a0'), .val (.int cv)] [(.int (1 : Int32))]))
    refine endN X1 hx hlk (t := .boolean) (by simp) Bd.returns (hb hby d_prog_22_method_5_code_123) eq1 (by decide) (by decide) ?_
    exact ⟨by rw [if_pos (by first | assumption | (simp only [Int32.lt_iff_toInt_lt, ← Int32.toInt_inj, Int32.reduceToInt] at *; omega))]; rfl, N1, rfl⟩
theorem pd__I_Lcom_example_minder_minder_model_Comparison_ : parseMethodDescriptor "(I)Lcom/example/minder/minder/model/Comparison;" = some ⟨[.int], some (.object "com/example/minder/minder/model/Comparison")⟩ := by decide +kernel
theorem pd__I_I : parseMethodDescriptor "(I)I" = some ⟨[.int], some .int⟩ := by decide +kernel
theorem pd__I_Z : parseMethodDescriptor "(I)Z" = some ⟨[.int], some .boolean⟩ := by decide +kernel
theorem ef_rm_law (m : MethodId) (y0 : Int32) (y1 : Int32) : entryFrame m #[(.int y0), (.int y1)] maxLocals = mkF m 0 #[.val (.int y0), .val (.int y1), .unset, .unset, .unset, .unset] [] := by first | (simp [entryFrame, mkF, argsToLocals, Value.category, maxLocals]; done) | rfl
def Q_rm_law (Z : State) (p0 : Int32) (cv : Int32) (w0 : Addr) (w1 : Addr) (w2 : Addr) (w3 : Addr) (w4 : Addr) (w5 : Addr) (h0 : Heap) (n0 : Nat) (v : Option Value) (h : Heap) (L : List Loc) : Prop := v = some (.int 1) ∧ Fr n0 L
set_option maxRecDepth 65536 in
set_option maxHeartbeats 40000000 in
theorem rm_law (l : Launch) (Z : State) (a0 : Array Value) (hw : ∀ d ∈ tables_1, d.before a0 Z = true) (ws : List Jvm.Cond) (p0 : Int32) (cv : Int32) (w0 : Addr) (w1 : Addr) (w2 : Addr) (w3 : Addr) (w4 : Addr) (w5 : Addr) (h0 : Heap) (n0 : Nat) (SS0 : Sta Z h0 "com/example/minder/minder/model/Comparison" "LESS" "Lcom/example/minder/minder/model/Comparison;" (.ref w0)) (FO0 : Fld Z h0 w0 "java/lang/Enum" "ordinal" "I" (.int 0)) (EO0 : Exa Z h0 w0 "com/example/minder/minder/model/Comparison") (SS1 : Sta Z h0 "com/example/minder/minder/model/Comparison" "LESS_OR_EQUAL" "Lcom/example/minder/minder/model/Comparison;" (.ref w1)) (FO1 : Fld Z h0 w1 "java/lang/Enum" "ordinal" "I" (.int 1)) (EO1 : Exa Z h0 w1 "com/example/minder/minder/model/Comparison") (SS2 : Sta Z h0 "com/example/minder/minder/model/Comparison" "GREATER" "Lcom/example/minder/minder/model/Comparison;" (.ref w2)) (FO2 : Fld Z h0 w2 "java/lang/Enum" "ordinal" "I" (.int 2)) (EO2 : Exa Z h0 w2 "com/example/minder/minder/model/Comparison") (SS3 : Sta Z h0 "com/example/minder/minder/model/Comparison" "GREATER_OR_EQUAL" "Lcom/example/minder/minder/model/Comparison;" (.ref w3)) (FO3 : Fld Z h0 w3 "java/lang/Enum" "ordinal" "I" (.int 3)) (EO3 : Exa Z h0 w3 "com/example/minder/minder/model/Comparison") (SS4 : Sta Z h0 "com/example/minder/minder/model/Comparison" "EQUAL" "Lcom/example/minder/minder/model/Comparison;" (.ref w4)) (FO4 : Fld Z h0 w4 "java/lang/Enum" "ordinal" "I" (.int 4)) (EO4 : Exa Z h0 w4 "com/example/minder/minder/model/Comparison") (SS5 : Sta Z h0 "com/example/minder/minder/model/Comparison" "NOT_EQUAL" "Lcom/example/minder/minder/model/Comparison;" (.ref w5)) (FO5 : Fld Z h0 w5 "java/lang/Enum" "ordinal" "I" (.int 5)) (EO5 : Exa Z h0 w5 "com/example/minder/minder/model/Comparison") :
    MetFree l x (head1 (Jvm.Cond.code x code maxLocals ret :: ws) room_1) (fun a U => a = #[(.int p0), (.int cv)] ∧ Z.Warmed39 U.vm ∧ U.heap = h0) (fun _ _ _ _ _ => True) (fun _ U o U' => ∃ v L, o = .returned v ∧ Q_rm_law Z p0 cv w0 w1 w2 w3 w4 w5 h0 n0 v U'.heap L ∧ FrameEnd U o U' L 0 0) := by
  refine MetFree.of_bodySF (plainFor_of_name pn_com_example_minder_minder_model_ComparisonHoldsPinLaw) hisR ?_
  intro p e s m args below meth c s₁ Bd hml0 hP hK
  obtain ⟨rfl, hZ, hh⟩ := hP
  have hx := Bd.exec
  have hby := Bd.bytes
  have hlk := Bd.notSynchronized
  have hml : c.maxLocals = 6 := hml0
  have hown : s.vm.findClass "com/example/minder/minder/model/ComparisonHoldsPinLaw" = some m.cls := findClass_of_methodNamed Bd.named
  have hnm := (name_of_methodNamed Bd.named Bd.method).1
  have X0 : Stand p l e room_1 s m #[(.int p0), (.int cv)] below meth c s₁ [] 0 0 := Stand.of_body Bd
  have e0 : s₁.heap = h0 := by rw [← hh, Bd.state]; rfl
  have N0 := Fr.nil n0
  show OwnEnd p e below s (Q_rm_law Z p0 cv w0 w1 w2 w3 w4 w5 h0 n0) 0 0 (s₁.setTop (entryFrame m #[(.int p0), (.int cv)] maxLocals))
  refine go (fun t k => castTop (ef_rm_law m p0 cv) k) ?_
  show OwnEnd _ _ _ _ _ _ _ (s₁.setTop (mkF m 0 (fL0 p0 cv) []))
  refine go (fun _ k => by refine XS.iloadN X0.here hx rfl (hb hby at_0) rfl ?_; exact k) ?_
  show OwnEnd _ _ _ _ _ _ _ (s₁.setTop (mkF m 1 (fL0 p0 cv) [(.int p0)]))
  refine go (X0.ldcInt hx hown (mvT hZ (hw _ (List.mem_of_getElem? (i := 0) rfl))) (g := (mkF m 1 (fL0 p0 cv) [(.int p0)])) rfl (hb hby at_1)) ?_
  refine go (fun _ k => by refine XS.iand X0.here hx rfl (hb hby at_3) rfl ?_; exact k) ?_
  refine go (fun _ k => by refine XS.bipush X0.here hx rfl (hb hby at_4) ?_; exact k) ?_
  show OwnEnd _ _ _ _ _ _ _ (s₁.setTop (mkF m 6 (fL0 p0 cv) [(.int (6 : Int32)), (.int (p0 &&& (2147483647 : Int32)))]))
  refine go (fun t k => iremM (g := (mkF m 6 (fL0 p0 cv) [(.int (6 : Int32)), (.int (p0 &&& (2147483647 : Int32)))])) X0 hx rfl (hb hby at_6) rfl (by decide) k) ?_
  refine go (fun _ k => by refine XS.istoreN X0.here hx rfl (hb hby at_7) rfl (l' := (fL1 p0 cv ((p0 &&& (2147483647 : Int32)) % (6 : Int32)))) rfl ?_; exact k) ?_
  show OwnEnd _ _ _ _ _ _ _ (s₁.setTop (mkF m 8 (fL1 p0 cv ((p0 &&& (2147483647 : Int32)) % (6 : Int32))) []))
  generalize qx1 : ((p0 &&& (2147483647 : Int32)) % (6 : Int32)) = x1
  show OwnEnd _ _ _ _ _ _ _ (s₁.setTop (mkF m 8 (fL1 p0 cv x1) []))
  rcases own_k6 _ _ qx1 with rfl | rfl | rfl | rfl | rfl | rfl
  · refine go (fun _ k => by refine XS.iloadN X0.here hx rfl (hb hby at_8) rfl ?_; exact k) ?_
    show OwnEnd _ _ _ _ _ _ _ (s₁.setTop (mkF m 9 (fL1 p0 cv (0 : Int32)) [(.int (0 : Int32))]))
    obtain ⟨_, T2, L2, X2, hQ2, st2⟩ := callStat X0 hx hZ hown (hw _ (List.mem_of_getElem? (i := 1) rfl)) (hw _ (List.mem_of_getElem? (i := 2) rfl)) (hw _ (List.mem_of_getElem? (i := 3) rfl)) (hw _ (List.mem_of_getElem? (i := 4) rfl)) (by decide) (rm_pick0 l Z a0 hw [] w0 h0 n0 SS0) (W := 0) (by decide) (by decide) e0 (g := (mkF m 9 (fL1 p0 cv (0 : Int32)) [(.int (0 : Int32))])) rfl (by rw [hml]; rfl) (argsL := [(.int (0 : Int32))]) (rest := []) rfl (lenOf pd__I_Lcom_example_minder_minder_model_Comparison_ rfl) rfl (by show 2 * 0 + _ ≤ _; exact Nat.le_of_eq rfl) (hb hby at_9) (by decide) (by decide)
    obtain ⟨rfl, Nq2, eq2⟩ := hQ2
    have N2 := Fr.app N0 Nq2
    refine go st2 ?_
    refine go (fun _ k => by refine XS.astoreN X2.here hx rfl (hb hby at_12) rfl rfl (l' := (fL2 p0 cv (0 : Int32) w0)) rfl ?_; exact k) ?_
    refine go (fun _ k => by refine XS.iloadN X2.here hx rfl (hb hby at_13) rfl ?_; exact k) ?_
    show OwnEnd _ _ _ _ _ _ _ (T2.setTop (mkF m 14 (fL2 p0 cv (0 : Int32) w0) [(.int cv)]))
    by_cases hc14_3 : cv < (0 : Int32)
    · refine go (fun _ k => by refine XS.ifNo X2.here hx rfl (hb hby at_14) rfl ((if0 _ _).trans (tlt hc14_3).2.1) ?_; exact k) ?_
      show OwnEnd _ _ _ _ _ _ _ (T2.setTop (mkF m 17 (fL2 p0 cv (0 : Int32) w0) []))
      refine go (fun _ k => by refine XS.iconst X2.here hx rfl (hb hby at_17) ?_; exact k) ?_
      refine go (fun _ k => by refine XS.istore X2.here hx rfl (hb hby at_18) rfl (l' := (fL3 p0 cv (0 : Int32) w0 (0 : Int32))) rfl ?_; exact k) ?_
      refine go (fun _ k => by refine XS.goto X2.here hx rfl (pc0 := 20) (pc' := 36) rfl (hb hby at_20) (by decide) (by decide) ?_; exact k) ?_
      refine go (fun _ k => by refine XS.iloadN X2.here hx rfl (hb hby at_36) rfl ?_; exact k) ?_
      show OwnEnd _ _ _ _ _ _ _ (T2.setTop (mkF m 37 (fL3 p0 cv (0 : Int32) w0 (0 : Int32)) [(.int (0 : Int32))]))
      obtain ⟨_, T4, L4, X4, hQ4, st4⟩ := callStat X2 hx hZ hown (hw _ (List.mem_of_getElem? (i := 8) rfl)) (hw _ (List.mem_of_getElem? (i := 9) rfl)) (hw _ (List.mem_of_getElem? (i := 3) rfl)) (hw _ (List.mem_of_getElem? (i := 10) rfl)) (by decide) (rm_adm0 l Z a0 hw [] h0 n0) (W := 0) (by decide) (by decide) eq2 (g := (mkF m 37 (fL3 p0 cv (0 : Int32) w0 (0 : Int32)) [(.int (0 : Int32))])) rfl (by rw [hml]; rfl) (argsL := [(.int (0 : Int32))]) (rest := []) rfl (lenOf pd__I_I rfl) rfl (by show 2 * 0 + _ ≤ _; exact Nat.le_of_eq rfl) (hb hby at_37) (by decide) (by decide)
      obtain ⟨rfl, Nq4, eq4⟩ := hQ4
      have N4 := Fr.app N2 Nq4
      refine go st4 ?_
      refine go (fun _ k => by refine XS.iload X4.here hx rfl (hb hby at_40) rfl ?_; exact k) ?_
      refine go (fun _ k => by refine XS.ishr X4.here hx rfl (hb hby at_42) rfl ?_; exact k) ?_
      show OwnEnd _ _ _ _ _ _ _ (T4.setTop (mkF m 43 (fL3 p0 cv (0 : Int32) w0 (0 : Int32)) [(.int ((1 : Int32) >>> ((0 : Int32) &&& 31)))]))
      rw [show ((1 : Int32) >>> ((0 : Int32) &&& 31)) = (1 : Int32) from by decide]
      refine go (fun _ k => by refine XS.iconst X4.here hx rfl (hb hby at_43) ?_; exact k) ?_
      show OwnEnd _ _ _ _ _ _ _ (T4.setTop (mkF m 44 (fL3 p0 cv (0 : Int32) w0 (0 : Int32)) [(.int (1 : Int32)), (.int (1 : Int32))]))
      refine go (fun _ k => by refine XS.iand X4.here hx rfl (hb hby at_44) rfl ?_; exact k) ?_
      show OwnEnd _ _ _ _ _ _ _ (T4.setTop (mkF m 45 (fL3 p0 cv (0 : Int32) w0 (0 : Int32)) [(.int ((1 : Int32) &&& (1 : Int32)))]))
      rw [show ((1 : Int32) &&& (1 : Int32)) = (1 : Int32) from by decide]
      show OwnEnd _ _ _ _ _ _ _ (T4.setTop (mkF m 45 (fL3 p0 cv (0 : Int32) w0 (0 : Int32)) [(.int (1 : Int32))]))
      refine go (fun _ k => by refine XS.ifNo X4.here hx rfl (hb hby at_45) rfl ((if0 _ _).trans (feq (by decide)).1) ?_; exact k) ?_
      refine go (fun _ k => by refine XS.iconst X4.here hx rfl (hb hby at_48) ?_; exact k) ?_
      refine go (fun _ k => by refine XS.goto X4.here hx rfl (pc0 := 49) (pc' := 53) rfl (hb hby at_49) (by decide) (by decide) ?_; exact k) ?_
      refine go (fun _ k => by refine XS.istore X4.here hx rfl (hb hby at_53) rfl (l' := (fL4 p0 cv (0 : Int32) w0 (0 : Int32) (1 : Int32))) rfl ?_; exact k) ?_
      show OwnEnd _ _ _ _ _ _ _ (T4.setTop (mkF m 55 (fL4 p0 cv (0 : Int32) w0 (0 : Int32) (1 : Int32)) []))
      refine go (fun _ k => by refine XS.aloadN X4.here hx rfl (hb hby at_55) rfl rfl ?_; exact k) ?_
      refine go (fun _ k => by refine XS.iloadN X4.here hx rfl (hb hby at_56) rfl ?_; exact k) ?_
      show OwnEnd _ _ _ _ _ _ _ (T4.setTop (mkF m 57 (fL4 p0 cv (0 : Int32) w0 (0 : Int32) (1 : Int32)) [(.int cv), (.ref w0)]))
      obtain ⟨_, T5, L5, X5, hQ5, st5⟩ := callVirt X4 hx hZ hown (hw _ (List.mem_of_getElem? (i := 11) rfl)) (hw _ (List.mem_of_getElem? (i := 12) rfl)) (notFace_of_selects (args := #[]) (mvT hZ (hw _ (List.mem_of_getElem? (i := 14) rfl)))) (hw _ (List.mem_of_getElem? (i := 14) rfl)) (hw _ (List.mem_of_getElem? (i := 13) rfl)) (hw _ (List.mem_of_getElem? (i := 6) rfl)) (hw _ (List.mem_of_getElem? (i := 15) rfl)) (by decide) (rm_holds0 l Z a0 hw [] w0 cv h0 n0 FO0 EO0) (W := 0) (by decide) (by decide) eq4 EO0 (g := (mkF m 57 (fL4 p0 cv (0 : Int32) w0 (0 : Int32) (1 : Int32)) [(.int cv), (.ref w0)])) rfl (by rw [hml]; rfl) (argsL := [(.int cv)]) (rest := []) rfl (lenOf pd__I_Z rfl) rfl (by show 2 * 0 + _ ≤ _; exact Nat.le_of_eq rfl) (hb hby at_57) (by decide) (by decide)
      obtain ⟨rfl, Nq5, eq5⟩ := hQ5
      have N5 := Fr.app N4 Nq5
      refine go st5 ?_
      refine go (fun _ k => by refine XS.iload X5.here hx rfl (hb hby at_60) rfl ?_; exact k) ?_
      show OwnEnd _ _ _ _ _ _ _ (T5.setTop (mkF m 62 (fL4 p0 cv (0 : Int32) w0 (0 : Int32) (1 : Int32)) [(.int (1 : Int32)), (.int (if cv < 0 then (1 : Int32) else 0))]))
      by_cases hc62_6 : (if cv < 0 then (1 : Int32) else 0) = (1 : Int32)
      · refine go (fun _ k => by refine XS.icmpNo X5.here hx rfl (hb hby at_62) rfl (teq hc62_6).2 ?_; exact k) ?_
        show OwnEnd _ _ _ _ _ _ _ (T5.setTop (mkF m 65 (fL4 p0 cv (0 : Int32) w0 (0 : Int32) (1 : Int32)) []))
        refine go (fun _ k => by refine XS.iconst X5.here hx rfl (hb hby at_65) ?_; exact k) ?_
        refine go (fun _ k => by refine XS.goto X5.here hx rfl (pc0 := 66) (pc' := 70) rfl (hb hby at_66) (by decide) (by decide) ?_; exact k) ?_
        show OwnEnd _ _ _ _ _ _ _ (T5.setTop (mkF m 70 (fL4 p0 cv (0 : Int32) w0 (0 : Int32) (1 : Int32)) [(.int (1 : Int32))]))
        refine endN X5 hx hlk (t := .boolean) (by simp) Bd.returns (hb hby at_70) eq5 (by decide) (by decide) ?_
        exact ⟨rfl, N5⟩
      · refine go (fun _ k => by refine XS.icmpYes X5.here hx rfl (pc0 := 62) (pc' := 69) rfl (hb hby at_62) rfl (feq hc62_6).2 (by decide) (by decide) ?_; exact k) ?_
        show OwnEnd _ _ _ _ _ _ _ (T5.setTop (mkF m 69 (fL4 p0 cv (0 : Int32) w0 (0 : Int32) (1 : Int32)) []))
        refine go (fun _ k => by refine XS.iconst X5.here hx rfl (hb hby at_69) ?_; exact k) ?_
        show OwnEnd _ _ _ _ _ _ _ (T5.setTop (mkF m 70 (fL4 p0 cv (0 : Int32) w0 (0 : Int32) (1 : Int32)) [(.int (0 : Int32))]))
        refine endN X5 hx hlk (t := .boolean) (by simp) Bd.returns (hb hby at_70) eq5 (by decide) (by decide) ?_
        exact absurd (by rw [if_pos (by simp only [Int32.lt_iff_toInt_lt, ← Int32.toInt_inj, Int32.reduceToInt] at *; omega)]) hc62_6
    · refine go (fun _ k => by refine XS.ifYes X2.here hx rfl (pc0 := 14) (pc' := 23) rfl (hb hby at_14) rfl ((if0 _ _).trans (flt hc14_3).2.1) (by decide) (by decide) ?_; exact k) ?_
      show OwnEnd _ _ _ _ _ _ _ (T2.setTop (mkF m 23 (fL2 p0 cv (0 : Int32) w0) []))
      refine go (fun _ k => by refine XS.iloadN X2.here hx rfl (hb hby at_23) rfl ?_; exact k) ?_
      show OwnEnd _ _ _ _ _ _ _ (T2.setTop (mkF m 24 (fL2 p0 cv (0 : Int32) w0) [(.int cv)]))
      by_cases hc24_7 : cv = (0 : Int32)
      · refine go (fun _ k => by refine XS.ifNo X2.here hx rfl (hb hby at_24) rfl ((if0 _ _).trans (teq hc24_7).2) ?_; exact k) ?_
        show OwnEnd _ _ _ _ _ _ _ (T2.setTop (mkF m 27 (fL2 p0 cv (0 : Int32) w0) []))
        refine go (fun _ k => by refine XS.iconst X2.here hx rfl (hb hby at_27) ?_; exact k) ?_
        refine go (fun _ k => by refine XS.istore X2.here hx rfl (hb hby at_28) rfl (l' := (fL3 p0 cv (0 : Int32) w0 (1 : Int32))) rfl ?_; exact k) ?_
        refine go (fun _ k => by refine XS.goto X2.here hx rfl (pc0 := 30) (pc' := 36) rfl (hb hby at_30) (by decide) (by decide) ?_; exact k) ?_
        refine go (fun _ k => by refine XS.iloadN X2.here hx rfl (hb hby at_36) rfl ?_; exact k) ?_
        show OwnEnd _ _ _ _ _ _ _ (T2.setTop (mkF m 37 (fL3 p0 cv (0 : Int32) w0 (1 : Int32)) [(.int (0 : Int32))]))
        obtain ⟨_, T8, L8, X8, hQ8, st8⟩ := callStat X2 hx hZ hown (hw _ (List.mem_of_getElem? (i := 8) rfl)) (hw _ (List.mem_of_getElem? (i := 9) rfl)) (hw _ (List.mem_of_getElem? (i := 3) rfl)) (hw _ (List.mem_of_getElem? (i := 10) rfl)) (by decide) (rm_adm0 l Z a0 hw [] h0 n0) (W := 0) (by decide) (by decide) eq2 (g := (mkF m 37 (fL3 p0 cv (0 : Int32) w0 (1 : Int32)) [(.int (0 : Int32))])) rfl (by rw [hml]; rfl) (argsL := [(.int (0 : Int32))]) (rest := []) rfl (lenOf pd__I_I rfl) rfl (by show 2 * 0 + _ ≤ _; exact Nat.le_of_eq rfl) (hb hby at_37) (by decide) (by decide)
        obtain ⟨rfl, Nq8, eq8⟩ := hQ8
        have N8 := Fr.app N2 Nq8
        refine go st8 ?_
        refine go (fun _ k => by refine XS.iload X8.here hx rfl (hb hby at_40) rfl ?_; exact k) ?_
        refine go (fun _ k => by refine XS.ishr X8.here hx rfl (hb hby at_42) rfl ?_; exact k) ?_
        show OwnEnd _ _ _ _ _ _ _ (T8.setTop (mkF m 43 (fL3 p0 cv (0 : Int32) w0 (1 : Int32)) [(.int ((1 : Int32) >>> ((1 : Int32) &&& 31)))]))
        rw [show ((1 : Int32) >>> ((1 : Int32) &&& 31)) = (0 : Int32) from by decide]
        refine go (fun _ k => by refine XS.iconst X8.here hx rfl (hb hby at_43) ?_; exact k) ?_
        show OwnEnd _ _ _ _ _ _ _ (T8.setTop (mkF m 44 (fL3 p0 cv (0 : Int32) w0 (1 : Int32)) [(.int (1 : Int32)), (.int (0 : Int32))]))
        refine go (fun _ k => by refine XS.iand X8.here hx rfl (hb hby at_44) rfl ?_; exact k) ?_
        show OwnEnd _ _ _ _ _ _ _ (T8.setTop (mkF m 45 (fL3 p0 cv (0 : Int32) w0 (1 : Int32)) [(.int ((0 : Int32) &&& (1 : Int32)))]))
        rw [show ((0 : Int32) &&& (1 : Int32)) = (0 : Int32) from by decide]
        show OwnEnd _ _ _ _ _ _ _ (T8.setTop (mkF m 45 (fL3 p0 cv (0 : Int32) w0 (1 : Int32)) [(.int (0 : Int32))]))
        refine go (fun _ k => by refine XS.ifYes X8.here hx rfl (pc0 := 45) (pc' := 52) rfl (hb hby at_45) rfl ((if0 _ _).trans (teq (by decide)).1) (by decide) (by decide) ?_; exact k) ?_
        refine go (fun _ k => by refine XS.iconst X8.here hx rfl (hb hby at_52) ?_; exact k) ?_
        refine go (fun _ k => by refine XS.istore X8.here hx rfl (hb hby at_53) rfl (l' := (fL4 p0 cv (0 : Int32) w0 (1 : Int32) (0 : Int32))) rfl ?_; exact k) ?_
        refine go (fun _ k => by refine XS.aloadN X8.here hx rfl (hb hby at_55) rfl rfl ?_; exact k) ?_
        show OwnEnd _ _ _ _ _ _ _ (T8.setTop (mkF m 56 (fL4 p0 cv (0 : Int32) w0 (1 : Int32) (0 : Int32)) [(.ref w0)]))
        refine go (fun _ k => by refine XS.iloadN X8.here hx rfl (hb hby at_56) rfl ?_; exact k) ?_
        show OwnEnd _ _ _ _ _ _ _ (T8.setTop (mkF m 57 (fL4 p0 cv (0 : Int32) w0 (1 : Int32) (0 : Int32)) [(.int cv), (.ref w0)]))
        obtain ⟨_, T9, L9, X9, hQ9, st9⟩ := callVirt X8 hx hZ hown (hw _ (List.mem_of_getElem? (i := 11) rfl)) (hw _ (List.mem_of_getElem? (i := 12) rfl)) (notFace_of_selects (args := #[]) (mvT hZ (hw _ (List.mem_of_getElem? (i := 14) rfl)))) (hw _ (List.mem_of_getElem? (i := 14) rfl)) (hw _ (List.mem_of_getElem? (i := 13) rfl)) (hw _ (List.mem_of_getElem? (i := 6) rfl)) (hw _ (List.mem_of_getElem? (i := 15) rfl)) (by decide) (rm_holds0 l Z a0 hw [] w0 cv h0 n0 FO0 EO0) (W := 0) (by decide) (by decide) eq8 EO0 (g := (mkF m 57 (fL4 p0 cv (0 : Int32) w0 (1 : Int32) (0 : Int32)) [(.int cv), (.ref w0)])) rfl (by rw [hml]; rfl) (argsL := [(.int cv)]) (rest := []) rfl (lenOf pd__I_Z rfl) rfl (by show 2 * 0 + _ ≤ _; exact Nat.le_of_eq rfl) (hb hby at_57) (by decide) (by decide)
        obtain ⟨rfl, Nq9, eq9⟩ := hQ9
        have N9 := Fr.app N8 Nq9
        refine go st9 ?_
        refine go (fun _ k => by refine XS.iload X9.here hx rfl (hb hby at_60) rfl ?_; exact k) ?_
        show OwnEnd _ _ _ _ _ _ _ (T9.setTop (mkF m 62 (fL4 p0 cv (0 : Int32) w0 (1 : Int32) (0 : Int32)) [(.int (0 : Int32)), (.int (if cv < 0 then (1 : Int32) else 0))]))
        by_cases hc62_10 : (if cv < 0 then (1 : Int32) else 0) = (0 : Int32)
        · refine go (fun _ k => by refine XS.icmpNo X9.here hx rfl (hb hby at_62) rfl (teq hc62_10).2 ?_; exact k) ?_
          show OwnEnd _ _ _ _ _ _ _ (T9.setTop (mkF m 65 (fL4 p0 cv (0 : Int32) w0 (1 : Int32) (0 : Int32)) []))
          refine go (fun _ k => by refine XS.iconst X9.here hx rfl (hb hby at_65) ?_; exact k) ?_
          refine go (fun _ k => by refine XS.goto X9.here hx rfl (pc0 := 66) (pc' := 70) rfl (hb hby at_66) (by decide) (by decide) ?_; exact k) ?_
          show OwnEnd _ _ _ _ _ _ _ (T9.setTop (mkF m 70 (fL4 p0 cv (0 : Int32) w0 (1 : Int32) (0 : Int32)) [(.int (1 : Int32))]))
          refine endN X9 hx hlk (t := .boolean) (by simp) Bd.returns (hb hby at_70) eq9 (by decide) (by decide) ?_
          exact ⟨rfl, N9⟩
        · refine go (fun _ k => by refine XS.icmpYes X9.here hx rfl (pc0 := 62) (pc' := 69) rfl (hb hby at_62) rfl (feq hc62_10).2 (by decide) (by decide) ?_; exact k) ?_
          show OwnEnd _ _ _ _ _ _ _ (T9.setTop (mkF m 69 (fL4 p0 cv (0 : Int32) w0 (1 : Int32) (0 : Int32)) []))
          refine go (fun _ k => by refine XS.iconst X9.here hx rfl (hb hby at_69) ?_; exact k) ?_
          show OwnEnd _ _ _ _ _ _ _ (T9.setTop (mkF m 70 (fL4 p0 cv (0 : Int32) w0 (1 : Int32) (0 : Int32)) [(.int (0 : Int32))]))
          refine endN X9 hx hlk (t := .boolean) (by simp) Bd.returns (hb hby at_70) eq9 (by decide) (by decide) ?_
          exact absurd (by rw [if_neg (by simp only [Int32.lt_iff_toInt_lt, ← Int32.toInt_inj, Int32.reduceToInt] at *; omega)]) hc62_10
      · refine go (fun _ k => by refine XS.ifYes X2.here hx rfl (pc0 := 24) (pc' := 33) rfl (hb hby at_24) rfl ((if0 _ _).trans (feq hc24_7).2) (by decide) (by decide) ?_; exact k) ?_
        show OwnEnd _ _ _ _ _ _ _ (T2.setTop (mkF m 33 (fL2 p0 cv (0 : Int32) w0) []))
        refine go (fun _ k => by refine XS.iconst X2.here hx rfl (hb hby at_33) ?_; exact k) ?_
        refine go (fun _ k => by refine XS.istore X2.here hx rfl (hb hby at_34) rfl (l' := (fL3 p0 cv (0 : Int32) w0 (2 : Int32))) rfl ?_; exact k) ?_
        refine go (fun _ k => by refine XS.iloadN X2.here hx rfl (hb hby at_36) rfl ?_; exact k) ?_
        show OwnEnd _ _ _ _ _ _ _ (T2.setTop (mkF m 37 (fL3 p0 cv (0 : Int32) w0 (2 : Int32)) [(.int (0 : Int32))]))
        obtain ⟨_, T11, L11, X11, hQ11, st11⟩ := callStat X2 hx hZ hown (hw _ (List.mem_of_getElem? (i := 8) rfl)) (hw _ (List.mem_of_getElem? (i := 9) rfl)) (hw _ (List.mem_of_getElem? (i := 3) rfl)) (hw _ (List.mem_of_getElem? (i := 10) rfl)) (by decide) (rm_adm0 l Z a0 hw [] h0 n0) (W := 0) (by decide) (by decide) eq2 (g := (mkF m 37 (fL3 p0 cv (0 : Int32) w0 (2 : Int32)) [(.int (0 : Int32))])) rfl (by rw [hml]; rfl) (argsL := [(.int (0 : Int32))]) (rest := []) rfl (lenOf pd__I_I rfl) rfl (by show 2 * 0 + _ ≤ _; exact Nat.le_of_eq rfl) (hb hby at_37) (by decide) (by decide)
        obtain ⟨rfl, Nq11, eq11⟩ := hQ11
        have N11 := Fr.app N2 Nq11
        refine go st11 ?_
        refine go (fun _ k => by refine XS.iload X11.here hx rfl (hb hby at_40) rfl ?_; exact k) ?_
        refine go (fun _ k => by refine XS.ishr X11.here hx rfl (hb hby at_42) rfl ?_; exact k) ?_
        show OwnEnd _ _ _ _ _ _ _ (T11.setTop (mkF m 43 (fL3 p0 cv (0 : Int32) w0 (2 : Int32)) [(.int ((1 : Int32) >>> ((2 : Int32) &&& 31)))]))
        rw [show ((1 : Int32) >>> ((2 : Int32) &&& 31)) = (0 : Int32) from by decide]
        refine go (fun _ k => by refine XS.iconst X11.here hx rfl (hb hby at_43) ?_; exact k) ?_
        show OwnEnd _ _ _ _ _ _ _ (T11.setTop (mkF m 44 (fL3 p0 cv (0 : Int32) w0 (2 : Int32)) [(.int (1 : Int32)), (.int (0 : Int32))]))
        refine go (fun _ k => by refine XS.iand X11.here hx rfl (hb hby at_44) rfl ?_; exact k) ?_
        show OwnEnd _ _ _ _ _ _ _ (T11.setTop (mkF m 45 (fL3 p0 cv (0 : Int32) w0 (2 : Int32)) [(.int ((0 : Int32) &&& (1 : Int32)))]))
        rw [show ((0 : Int32) &&& (1 : Int32)) = (0 : Int32) from by decide]
        show OwnEnd _ _ _ _ _ _ _ (T11.setTop (mkF m 45 (fL3 p0 cv (0 : Int32) w0 (2 : Int32)) [(.int (0 : Int32))]))
        refine go (fun _ k => by refine XS.ifYes X11.here hx rfl (pc0 := 45) (pc' := 52) rfl (hb hby at_45) rfl ((if0 _ _).trans (teq (by decide)).1) (by decide) (by decide) ?_; exact k) ?_
        refine go (fun _ k => by refine XS.iconst X11.here hx rfl (hb hby at_52) ?_; exact k) ?_
        refine go (fun _ k => by refine XS.istore X11.here hx rfl (hb hby at_53) rfl (l' := (fL4 p0 cv (0 : Int32) w0 (2 : Int32) (0 : Int32))) rfl ?_; exact k) ?_
        refine go (fun _ k => by refine XS.aloadN X11.here hx rfl (hb hby at_55) rfl rfl ?_; exact k) ?_
        show OwnEnd _ _ _ _ _ _ _ (T11.setTop (mkF m 56 (fL4 p0 cv (0 : Int32) w0 (2 : Int32) (0 : Int32)) [(.ref w0)]))
        refine go (fun _ k => by refine XS.iloadN X11.here hx rfl (hb hby at_56) rfl ?_; exact k) ?_
        show OwnEnd _ _ _ _ _ _ _ (T11.setTop (mkF m 57 (fL4 p0 cv (0 : Int32) w0 (2 : Int32) (0 : Int32)) [(.int cv), (.ref w0)]))
        obtain ⟨_, T12, L12, X12, hQ12, st12⟩ := callVirt X11 hx hZ hown (hw _ (List.mem_of_getElem? (i := 11) rfl)) (hw _ (List.mem_of_getElem? (i := 12) rfl)) (notFace_of_selects (args := #[]) (mvT hZ (hw _ (List.mem_of_getElem? (i := 14) rfl)))) (hw _ (List.mem_of_getElem? (i := 14) rfl)) (hw _ (List.mem_of_getElem? (i := 13) rfl)) (hw _ (List.mem_of_getElem? (i := 6) rfl)) (hw _ (List.mem_of_getElem? (i := 15) rfl)) (by decide) (rm_holds0 l Z a0 hw [] w0 cv h0 n0 FO0 EO0) (W := 0) (by decide) (by decide) eq11 EO0 (g := (mkF m 57 (fL4 p0 cv (0 : Int32) w0 (2 : Int32) (0 : Int32)) [(.int cv), (.ref w0)])) rfl (by rw [hml]; rfl) (argsL := [(.int cv)]) (rest := []) rfl (lenOf pd__I_Z rfl) rfl (by show 2 * 0 + _ ≤ _; exact Nat.le_of_eq rfl) (hb hby at_57) (by decide) (by decide)
        obtain ⟨rfl, Nq12, eq12⟩ := hQ12
        have N12 := Fr.app N11 Nq12
        refine go st12 ?_
        refine go (fun _ k => by refine XS.iload X12.here hx rfl (hb hby at_60) rfl ?_; exact k) ?_
        show OwnEnd _ _ _ _ _ _ _ (T12.setTop (mkF m 62 (fL4 p0 cv (0 : Int32) w0 (2 : Int32) (0 : Int32)) [(.int (0 : Int32)), (.int (if cv < 0 then (1 : Int32) else 0))]))
        by_cases hc62_13 : (if cv < 0 then (1 : Int32) else 0) = (0 : Int32)
        · refine go (fun _ k => by refine XS.icmpNo X12.here hx rfl (hb hby at_62) rfl (teq hc62_13).2 ?_; exact k) ?_
          show OwnEnd _ _ _ _ _ _ _ (T12.setTop (mkF m 65 (fL4 p0 cv (0 : Int32) w0 (2 : Int32) (0 : Int32)) []))
          refine go (fun _ k => by refine XS.iconst X12.here hx rfl (hb hby at_65) ?_; exact k) ?_
          refine go (fun _ k => by refine XS.goto X12.here hx rfl (pc0 := 66) (pc' := 70) rfl (hb hby at_66) (by decide) (by decide) ?_; exact k) ?_
          show OwnEnd _ _ _ _ _ _ _ (T12.setTop (mkF m 70 (fL4 p0 cv (0 : Int32) w0 (2 : Int32) (0 : Int32)) [(.int (1 : Int32))]))
          refine endN X12 hx hlk (t := .boolean) (by simp) Bd.returns (hb hby at_70) eq12 (by decide) (by decide) ?_
          exact ⟨rfl, N12⟩
        · refine go (fun _ k => by refine XS.icmpYes X12.here hx rfl (pc0 := 62) (pc' := 69) rfl (hb hby at_62) rfl (feq hc62_13).2 (by decide) (by decide) ?_; exact k) ?_
          show OwnEnd _ _ _ _ _ _ _ (T12.setTop (mkF m 69 (fL4 p0 cv (0 : Int32) w0 (2 : Int32) (0 : Int32)) []))
          refine go (fun _ k => by refine XS.iconst X12.here hx rfl (hb hby at_69) ?_; exact k) ?_
          show OwnEnd _ _ _ _ _ _ _ (T12.setTop (mkF m 70 (fL4 p0 cv (0 : Int32) w0 (2 : Int32) (0 : Int32)) [(.int (0 : Int32))]))
          refine endN X12 hx hlk (t := .boolean) (by simp) Bd.returns (hb hby at_70) eq12 (by decide) (by decide) ?_
          exact absurd (by rw [if_neg (by simp only [Int32.lt_iff_toInt_lt, ← Int32.toInt_inj, Int32.reduceToInt] at *; omega)]) hc62_13
  · refine go (fun _ k => by refine XS.iloadN X0.here hx rfl (hb hby at_8) rfl ?_; exact k) ?_
    show OwnEnd _ _ _ _ _ _ _ (s₁.setTop (mkF m 9 (fL1 p0 cv (1 : Int32)) [(.int (1 : Int32))]))
    obtain ⟨_, T14, L14, X14, hQ14, st14⟩ := callStat X0 hx hZ hown (hw _ (List.mem_of_getElem? (i := 1) rfl)) (hw _ (List.mem_of_getElem? (i := 2) rfl)) (hw _ (List.mem_of_getElem? (i := 3) rfl)) (hw _ (List.mem_of_getElem? (i := 4) rfl)) (by decide) (rm_pick1 l Z a0 hw [] w1 h0 n0 SS1) (W := 0) (by decide) (by decide) e0 (g := (mkF m 9 (fL1 p0 cv (1 : Int32)) [(.int (1 : Int32))])) rfl (by rw [hml]; rfl) (argsL := [(.int (1 : Int32))]) (rest := []) rfl (lenOf pd__I_Lcom_example_minder_minder_model_Comparison_ rfl) rfl (by show 2 * 0 + _ ≤ _; exact Nat.le_of_eq rfl) (hb hby at_9) (by decide) (by decide)
    obtain ⟨rfl, Nq14, eq14⟩ := hQ14
    have N14 := Fr.app N0 Nq14
    refine go st14 ?_
    refine go (fun _ k => by refine XS.astoreN X14.here hx rfl (hb hby at_12) rfl rfl (l' := (fL2 p0 cv (1 : Int32) w1)) rfl ?_; exact k) ?_
    refine go (fun _ k => by refine XS.iloadN X14.here hx rfl (hb hby at_13) rfl ?_; exact k) ?_
    show OwnEnd _ _ _ _ _ _ _ (T14.setTop (mkF m 14 (fL2 p0 cv (1 : Int32) w1) [(.int cv)]))
    by_cases hc14_15 : cv < (0 : Int32)
    · refine go (fun _ k => by refine XS.ifNo X14.here hx rfl (hb hby at_14) rfl ((if0 _ _).trans (tlt hc14_15).2.1) ?_; exact k) ?_
      show OwnEnd _ _ _ _ _ _ _ (T14.setTop (mkF m 17 (fL2 p0 cv (1 : Int32) w1) []))
      refine go (fun _ k => by refine XS.iconst X14.here hx rfl (hb hby at_17) ?_; exact k) ?_
      refine go (fun _ k => by refine XS.istore X14.here hx rfl (hb hby at_18) rfl (l' := (fL3 p0 cv (1 : Int32) w1 (0 : Int32))) rfl ?_; exact k) ?_
      refine go (fun _ k => by refine XS.goto X14.here hx rfl (pc0 := 20) (pc' := 36) rfl (hb hby at_20) (by decide) (by decide) ?_; exact k) ?_
      refine go (fun _ k => by refine XS.iloadN X14.here hx rfl (hb hby at_36) rfl ?_; exact k) ?_
      show OwnEnd _ _ _ _ _ _ _ (T14.setTop (mkF m 37 (fL3 p0 cv (1 : Int32) w1 (0 : Int32)) [(.int (1 : Int32))]))
      obtain ⟨_, T16, L16, X16, hQ16, st16⟩ := callStat X14 hx hZ hown (hw _ (List.mem_of_getElem? (i := 8) rfl)) (hw _ (List.mem_of_getElem? (i := 9) rfl)) (hw _ (List.mem_of_getElem? (i := 3) rfl)) (hw _ (List.mem_of_getElem? (i := 10) rfl)) (by decide) (rm_adm1 l Z a0 hw [] h0 n0) (W := 0) (by decide) (by decide) eq14 (g := (mkF m 37 (fL3 p0 cv (1 : Int32) w1 (0 : Int32)) [(.int (1 : Int32))])) rfl (by rw [hml]; rfl) (argsL := [(.int (1 : Int32))]) (rest := []) rfl (lenOf pd__I_I rfl) rfl (by show 2 * 0 + _ ≤ _; exact Nat.le_of_eq rfl) (hb hby at_37) (by decide) (by decide)
      obtain ⟨rfl, Nq16, eq16⟩ := hQ16
      have N16 := Fr.app N14 Nq16
      refine go st16 ?_
      refine go (fun _ k => by refine XS.iload X16.here hx rfl (hb hby at_40) rfl ?_; exact k) ?_
      refine go (fun _ k => by refine XS.ishr X16.here hx rfl (hb hby at_42) rfl ?_; exact k) ?_
      show OwnEnd _ _ _ _ _ _ _ (T16.setTop (mkF m 43 (fL3 p0 cv (1 : Int32) w1 (0 : Int32)) [(.int ((3 : Int32) >>> ((0 : Int32) &&& 31)))]))
      rw [show ((3 : Int32) >>> ((0 : Int32) &&& 31)) = (3 : Int32) from by decide]
      refine go (fun _ k => by refine XS.iconst X16.here hx rfl (hb hby at_43) ?_; exact k) ?_
      show OwnEnd _ _ _ _ _ _ _ (T16.setTop (mkF m 44 (fL3 p0 cv (1 : Int32) w1 (0 : Int32)) [(.int (1 : Int32)), (.int (3 : Int32))]))
      refine go (fun _ k => by refine XS.iand X16.here hx rfl (hb hby at_44) rfl ?_; exact k) ?_
      show OwnEnd _ _ _ _ _ _ _ (T16.setTop (mkF m 45 (fL3 p0 cv (1 : Int32) w1 (0 : Int32)) [(.int ((3 : Int32) &&& (1 : Int32)))]))
      rw [show ((3 : Int32) &&& (1 : Int32)) = (1 : Int32) from by decide]
      show OwnEnd _ _ _ _ _ _ _ (T16.setTop (mkF m 45 (fL3 p0 cv (1 : Int32) w1 (0 : Int32)) [(.int (1 : Int32))]))
      refine go (fun _ k => by refine XS.ifNo X16.here hx rfl (hb hby at_45) rfl ((if0 _ _).trans (feq (by decide)).1) ?_; exact k) ?_
      refine go (fun _ k => by refine XS.iconst X16.here hx rfl (hb hby at_48) ?_; exact k) ?_
      refine go (fun _ k => by refine XS.goto X16.here hx rfl (pc0 := 49) (pc' := 53) rfl (hb hby at_49) (by decide) (by decide) ?_; exact k) ?_
      refine go (fun _ k => by refine XS.istore X16.here hx rfl (hb hby at_53) rfl (l' := (fL4 p0 cv (1 : Int32) w1 (0 : Int32) (1 : Int32))) rfl ?_; exact k) ?_
      show OwnEnd _ _ _ _ _ _ _ (T16.setTop (mkF m 55 (fL4 p0 cv (1 : Int32) w1 (0 : Int32) (1 : Int32)) []))
      refine go (fun _ k => by refine XS.aloadN X16.here hx rfl (hb hby at_55) rfl rfl ?_; exact k) ?_
      refine go (fun _ k => by refine XS.iloadN X16.here hx rfl (hb hby at_56) rfl ?_; exact k) ?_
      show OwnEnd _ _ _ _ _ _ _ (T16.setTop (mkF m 57 (fL4 p0 cv (1 : Int32) w1 (0 : Int32) (1 : Int32)) [(.int cv), (.ref w1)]))
      obtain ⟨_, T17, L17, X17, hQ17, st17⟩ := callVirt X16 hx hZ hown (hw _ (List.mem_of_getElem? (i := 11) rfl)) (hw _ (List.mem_of_getElem? (i := 12) rfl)) (notFace_of_selects (args := #[]) (mvT hZ (hw _ (List.mem_of_getElem? (i := 14) rfl)))) (hw _ (List.mem_of_getElem? (i := 14) rfl)) (hw _ (List.mem_of_getElem? (i := 13) rfl)) (hw _ (List.mem_of_getElem? (i := 6) rfl)) (hw _ (List.mem_of_getElem? (i := 15) rfl)) (by decide) (rm_holds1 l Z a0 hw [] w1 cv h0 n0 FO1 EO1) (W := 0) (by decide) (by decide) eq16 EO1 (g := (mkF m 57 (fL4 p0 cv (1 : Int32) w1 (0 : Int32) (1 : Int32)) [(.int cv), (.ref w1)])) rfl (by rw [hml]; rfl) (argsL := [(.int cv)]) (rest := []) rfl (lenOf pd__I_Z rfl) rfl (by show 2 * 0 + _ ≤ _; exact Nat.le_of_eq rfl) (hb hby at_57) (by decide) (by decide)
      obtain ⟨rfl, Nq17, eq17⟩ := hQ17
      have N17 := Fr.app N16 Nq17
      refine go st17 ?_
      refine go (fun _ k => by refine XS.iload X17.here hx rfl (hb hby at_60) rfl ?_; exact k) ?_
      show OwnEnd _ _ _ _ _ _ _ (T17.setTop (mkF m 62 (fL4 p0 cv (1 : Int32) w1 (0 : Int32) (1 : Int32)) [(.int (1 : Int32)), (.int (if ¬ 0 < cv then (1 : Int32) else 0))]))
      by_cases hc62_18 : (if ¬ 0 < cv then (1 : Int32) else 0) = (1 : Int32)
      · refine go (fun _ k => by refine XS.icmpNo X17.here hx rfl (hb hby at_62) rfl (teq hc62_18).2 ?_; exact k) ?_
        show OwnEnd _ _ _ _ _ _ _ (T17.setTop (mkF m 65 (fL4 p0 cv (1 : Int32) w1 (0 : Int32) (1 : Int32)) []))
        refine go (fun _ k => by refine XS.iconst X17.here hx rfl (hb hby at_65) ?_; exact k) ?_
        refine go (fun _ k => by refine XS.goto X17.here hx rfl (pc0 := 66) (pc' := 70) rfl (hb hby at_66) (by decide) (by decide) ?_; exact k) ?_
        show OwnEnd _ _ _ _ _ _ _ (T17.setTop (mkF m 70 (fL4 p0 cv (1 : Int32) w1 (0 : Int32) (1 : Int32)) [(.int (1 : Int32))]))
        refine endN X17 hx hlk (t := .boolean) (by simp) Bd.returns (hb hby at_70) eq17 (by decide) (by decide) ?_
        exact ⟨rfl, N17⟩
      · refine go (fun _ k => by refine XS.icmpYes X17.here hx rfl (pc0 := 62) (pc' := 69) rfl (hb hby at_62) rfl (feq hc62_18).2 (by decide) (by decide) ?_; exact k) ?_
        show OwnEnd _ _ _ _ _ _ _ (T17.setTop (mkF m 69 (fL4 p0 cv (1 : Int32) w1 (0 : Int32) (1 : Int32)) []))
        refine go (fun _ k => by refine XS.iconst X17.here hx rfl (hb hby at_69) ?_; exact k) ?_
        show OwnEnd _ _ _ _ _ _ _ (T17.setTop (mkF m 70 (fL4 p0 cv (1 : Int32) w1 (0 : Int32) (1 : Int32)) [(.int (0 : Int32))]))
        refine endN X17 hx hlk (t := .boolean) (by simp) Bd.returns (hb hby at_70) eq17 (by decide) (by decide) ?_
        exact absurd (by rw [if_pos (by simp only [Int32.lt_iff_toInt_lt, ← Int32.toInt_inj, Int32.reduceToInt] at *; omega)]) hc62_18
    · refine go (fun _ k => by refine XS.ifYes X14.here hx rfl (pc0 := 14) (pc' := 23) rfl (hb hby at_14) rfl ((if0 _ _).trans (flt hc14_15).2.1) (by decide) (by decide) ?_; exact k) ?_
      show OwnEnd _ _ _ _ _ _ _ (T14.setTop (mkF m 23 (fL2 p0 cv (1 : Int32) w1) []))
      refine go (fun _ k => by refine XS.iloadN X14.here hx rfl (hb hby at_23) rfl ?_; exact k) ?_
      show OwnEnd _ _ _ _ _ _ _ (T14.setTop (mkF m 24 (fL2 p0 cv (1 : Int32) w1) [(.int cv)]))
      by_cases hc24_19 : cv = (0 : Int32)
      · refine go (fun _ k => by refine XS.ifNo X14.here hx rfl (hb hby at_24) rfl ((if0 _ _).trans (teq hc24_19).2) ?_; exact k) ?_
        show OwnEnd _ _ _ _ _ _ _ (T14.setTop (mkF m 27 (fL2 p0 cv (1 : Int32) w1) []))
        refine go (fun _ k => by refine XS.iconst X14.here hx rfl (hb hby at_27) ?_; exact k) ?_
        refine go (fun _ k => by refine XS.istore X14.here hx rfl (hb hby at_28) rfl (l' := (fL3 p0 cv (1 : Int32) w1 (1 : Int32))) rfl ?_; exact k) ?_
        refine go (fun _ k => by refine XS.goto X14.here hx rfl (pc0 := 30) (pc' := 36) rfl (hb hby at_30) (by decide) (by decide) ?_; exact k) ?_
        refine go (fun _ k => by refine XS.iloadN X14.here hx rfl (hb hby at_36) rfl ?_; exact k) ?_
        show OwnEnd _ _ _ _ _ _ _ (T14.setTop (mkF m 37 (fL3 p0 cv (1 : Int32) w1 (1 : Int32)) [(.int (1 : Int32))]))
        obtain ⟨_, T20, L20, X20, hQ20, st20⟩ := callStat X14 hx hZ hown (hw _ (List.mem_of_getElem? (i := 8) rfl)) (hw _ (List.mem_of_getElem? (i := 9) rfl)) (hw _ (List.mem_of_getElem? (i := 3) rfl)) (hw _ (List.mem_of_getElem? (i := 10) rfl)) (by decide) (rm_adm1 l Z a0 hw [] h0 n0) (W := 0) (by decide) (by decide) eq14 (g := (mkF m 37 (fL3 p0 cv (1 : Int32) w1 (1 : Int32)) [(.int (1 : Int32))])) rfl (by rw [hml]; rfl) (argsL := [(.int (1 : Int32))]) (rest := []) rfl (lenOf pd__I_I rfl) rfl (by show 2 * 0 + _ ≤ _; exact Nat.le_of_eq rfl) (hb hby at_37) (by decide) (by decide)
        obtain ⟨rfl, Nq20, eq20⟩ := hQ20
        have N20 := Fr.app N14 Nq20
        refine go st20 ?_
        refine go (fun _ k => by refine XS.iload X20.here hx rfl (hb hby at_40) rfl ?_; exact k) ?_
        refine go (fun _ k => by refine XS.ishr X20.here hx rfl (hb hby at_42) rfl ?_; exact k) ?_
        show OwnEnd _ _ _ _ _ _ _ (T20.setTop (mkF m 43 (fL3 p0 cv (1 : Int32) w1 (1 : Int32)) [(.int ((3 : Int32) >>> ((1 : Int32) &&& 31)))]))
        rw [show ((3 : Int32) >>> ((1 : Int32) &&& 31)) = (1 : Int32) from by decide]
        refine go (fun _ k => by refine XS.iconst X20.here hx rfl (hb hby at_43) ?_; exact k) ?_
        show OwnEnd _ _ _ _ _ _ _ (T20.setTop (mkF m 44 (fL3 p0 cv (1 : Int32) w1 (1 : Int32)) [(.int (1 : Int32)), (.int (1 : Int32))]))
        refine go (fun _ k => by refine XS.iand X20.here hx rfl (hb hby at_44) rfl ?_; exact k) ?_
        show OwnEnd _ _ _ _ _ _ _ (T20.setTop (mkF m 45 (fL3 p0 cv (1 : Int32) w1 (1 : Int32)) [(.int ((1 : Int32) &&& (1 : Int32)))]))
        rw [show ((1 : Int32) &&& (1 : Int32)) = (1 : Int32) from by decide]
        show OwnEnd _ _ _ _ _ _ _ (T20.setTop (mkF m 45 (fL3 p0 cv (1 : Int32) w1 (1 : Int32)) [(.int (1 : Int32))]))
        refine go (fun _ k => by refine XS.ifNo X20.here hx rfl (hb hby at_45) rfl ((if0 _ _).trans (feq (by decide)).1) ?_; exact k) ?_
        refine go (fun _ k => by refine XS.iconst X20.here hx rfl (hb hby at_48) ?_; exact k) ?_
        refine go (fun _ k => by refine XS.goto X20.here hx rfl (pc0 := 49) (pc' := 53) rfl (hb hby at_49) (by decide) (by decide) ?_; exact k) ?_
        refine go (fun _ k => by refine XS.istore X20.here hx rfl (hb hby at_53) rfl (l' := (fL4 p0 cv (1 : Int32) w1 (1 : Int32) (1 : Int32))) rfl ?_; exact k) ?_
        show OwnEnd _ _ _ _ _ _ _ (T20.setTop (mkF m 55 (fL4 p0 cv (1 : Int32) w1 (1 : Int32) (1 : Int32)) []))
        refine go (fun _ k => by refine XS.aloadN X20.here hx rfl (hb hby at_55) rfl rfl ?_; exact k) ?_
        refine go (fun _ k => by refine XS.iloadN X20.here hx rfl (hb hby at_56) rfl ?_; exact k) ?_
        show OwnEnd _ _ _ _ _ _ _ (T20.setTop (mkF m 57 (fL4 p0 cv (1 : Int32) w1 (1 : Int32) (1 : Int32)) [(.int cv), (.ref w1)]))
        obtain ⟨_, T21, L21, X21, hQ21, st21⟩ := callVirt X20 hx hZ hown (hw _ (List.mem_of_getElem? (i := 11) rfl)) (hw _ (List.mem_of_getElem? (i := 12) rfl)) (notFace_of_selects (args := #[]) (mvT hZ (hw _ (List.mem_of_getElem? (i := 14) rfl)))) (hw _ (List.mem_of_getElem? (i := 14) rfl)) (hw _ (List.mem_of_getElem? (i := 13) rfl)) (hw _ (List.mem_of_getElem? (i := 6) rfl)) (hw _ (List.mem_of_getElem? (i := 15) rfl)) (by decide) (rm_holds1 l Z a0 hw [] w1 cv h0 n0 FO1 EO1) (W := 0) (by decide) (by decide) eq20 EO1 (g := (mkF m 57 (fL4 p0 cv (1 : Int32) w1 (1 : Int32) (1 : Int32)) [(.int cv), (.ref w1)])) rfl (by rw [hml]; rfl) (argsL := [(.int cv)]) (rest := []) rfl (lenOf pd__I_Z rfl) rfl (by show 2 * 0 + _ ≤ _; exact Nat.le_of_eq rfl) (hb hby at_57) (by decide) (by decide)
        obtain ⟨rfl, Nq21, eq21⟩ := hQ21
        have N21 := Fr.app N20 Nq21
        refine go st21 ?_
        refine go (fun _ k => by refine XS.iload X21.here hx rfl (hb hby at_60) rfl ?_; exact k) ?_
        show OwnEnd _ _ _ _ _ _ _ (T21.setTop (mkF m 62 (fL4 p0 cv (1 : Int32) w1 (1 : Int32) (1 : Int32)) [(.int (1 : Int32)), (.int (if ¬ 0 < cv then (1 : Int32) else 0))]))
        by_cases hc62_22 : (if ¬ 0 < cv then (1 : Int32) else 0) = (1 : Int32)
        · refine go (fun _ k => by refine XS.icmpNo X21.here hx rfl (hb hby at_62) rfl (teq hc62_22).2 ?_; exact k) ?_
          show OwnEnd _ _ _ _ _ _ _ (T21.setTop (mkF m 65 (fL4 p0 cv (1 : Int32) w1 (1 : Int32) (1 : Int32)) []))
          refine go (fun _ k => by refine XS.iconst X21.here hx rfl (hb hby at_65) ?_; exact k) ?_
          refine go (fun _ k => by refine XS.goto X21.here hx rfl (pc0 := 66) (pc' := 70) rfl (hb hby at_66) (by decide) (by decide) ?_; exact k) ?_
          show OwnEnd _ _ _ _ _ _ _ (T21.setTop (mkF m 70 (fL4 p0 cv (1 : Int32) w1 (1 : Int32) (1 : Int32)) [(.int (1 : Int32))]))
          refine endN X21 hx hlk (t := .boolean) (by simp) Bd.returns (hb hby at_70) eq21 (by decide) (by decide) ?_
          exact ⟨rfl, N21⟩
        · refine go (fun _ k => by refine XS.icmpYes X21.here hx rfl (pc0 := 62) (pc' := 69) rfl (hb hby at_62) rfl (feq hc62_22).2 (by decide) (by decide) ?_; exact k) ?_
          show OwnEnd _ _ _ _ _ _ _ (T21.setTop (mkF m 69 (fL4 p0 cv (1 : Int32) w1 (1 : Int32) (1 : Int32)) []))
          refine go (fun _ k => by refine XS.iconst X21.here hx rfl (hb hby at_69) ?_; exact k) ?_
          show OwnEnd _ _ _ _ _ _ _ (T21.setTop (mkF m 70 (fL4 p0 cv (1 : Int32) w1 (1 : Int32) (1 : Int32)) [(.int (0 : Int32))]))
          refine endN X21 hx hlk (t := .boolean) (by simp) Bd.returns (hb hby at_70) eq21 (by decide) (by decide) ?_
          exact absurd (by rw [if_pos (by simp only [Int32.lt_iff_toInt_lt, ← Int32.toInt_inj, Int32.reduceToInt] at *; omega)]) hc62_22
      · refine go (fun _ k => by refine XS.ifYes X14.here hx rfl (pc0 := 24) (pc' := 33) rfl (hb hby at_24) rfl ((if0 _ _).trans (feq hc24_19).2) (by decide) (by decide) ?_; exact k) ?_
        show OwnEnd _ _ _ _ _ _ _ (T14.setTop (mkF m 33 (fL2 p0 cv (1 : Int32) w1) []))
        refine go (fun _ k => by refine XS.iconst X14.here hx rfl (hb hby at_33) ?_; exact k) ?_
        refine go (fun _ k => by refine XS.istore X14.here hx rfl (hb hby at_34) rfl (l' := (fL3 p0 cv (1 : Int32) w1 (2 : Int32))) rfl ?_; exact k) ?_
        refine go (fun _ k => by refine XS.iloadN X14.here hx rfl (hb hby at_36) rfl ?_; exact k) ?_
        show OwnEnd _ _ _ _ _ _ _ (T14.setTop (mkF m 37 (fL3 p0 cv (1 : Int32) w1 (2 : Int32)) [(.int (1 : Int32))]))
        obtain ⟨_, T23, L23, X23, hQ23, st23⟩ := callStat X14 hx hZ hown (hw _ (List.mem_of_getElem? (i := 8) rfl)) (hw _ (List.mem_of_getElem? (i := 9) rfl)) (hw _ (List.mem_of_getElem? (i := 3) rfl)) (hw _ (List.mem_of_getElem? (i := 10) rfl)) (by decide) (rm_adm1 l Z a0 hw [] h0 n0) (W := 0) (by decide) (by decide) eq14 (g := (mkF m 37 (fL3 p0 cv (1 : Int32) w1 (2 : Int32)) [(.int (1 : Int32))])) rfl (by rw [hml]; rfl) (argsL := [(.int (1 : Int32))]) (rest := []) rfl (lenOf pd__I_I rfl) rfl (by show 2 * 0 + _ ≤ _; exact Nat.le_of_eq rfl) (hb hby at_37) (by decide) (by decide)
        obtain ⟨rfl, Nq23, eq23⟩ := hQ23
        have N23 := Fr.app N14 Nq23
        refine go st23 ?_
        refine go (fun _ k => by refine XS.iload X23.here hx rfl (hb hby at_40) rfl ?_; exact k) ?_
        refine go (fun _ k => by refine XS.ishr X23.here hx rfl (hb hby at_42) rfl ?_; exact k) ?_
        show OwnEnd _ _ _ _ _ _ _ (T23.setTop (mkF m 43 (fL3 p0 cv (1 : Int32) w1 (2 : Int32)) [(.int ((3 : Int32) >>> ((2 : Int32) &&& 31)))]))
        rw [show ((3 : Int32) >>> ((2 : Int32) &&& 31)) = (0 : Int32) from by decide]
        refine go (fun _ k => by refine XS.iconst X23.here hx rfl (hb hby at_43) ?_; exact k) ?_
        show OwnEnd _ _ _ _ _ _ _ (T23.setTop (mkF m 44 (fL3 p0 cv (1 : Int32) w1 (2 : Int32)) [(.int (1 : Int32)), (.int (0 : Int32))]))
        refine go (fun _ k => by refine XS.iand X23.here hx rfl (hb hby at_44) rfl ?_; exact k) ?_
        show OwnEnd _ _ _ _ _ _ _ (T23.setTop (mkF m 45 (fL3 p0 cv (1 : Int32) w1 (2 : Int32)) [(.int ((0 : Int32) &&& (1 : Int32)))]))
        rw [show ((0 : Int32) &&& (1 : Int32)) = (0 : Int32) from by decide]
        show OwnEnd _ _ _ _ _ _ _ (T23.setTop (mkF m 45 (fL3 p0 cv (1 : Int32) w1 (2 : Int32)) [(.int (0 : Int32))]))
        refine go (fun _ k => by refine XS.ifYes X23.here hx rfl (pc0 := 45) (pc' := 52) rfl (hb hby at_45) rfl ((if0 _ _).trans (teq (by decide)).1) (by decide) (by decide) ?_; exact k) ?_
        refine go (fun _ k => by refine XS.iconst X23.here hx rfl (hb hby at_52) ?_; exact k) ?_
        refine go (fun _ k => by refine XS.istore X23.here hx rfl (hb hby at_53) rfl (l' := (fL4 p0 cv (1 : Int32) w1 (2 : Int32) (0 : Int32))) rfl ?_; exact k) ?_
        refine go (fun _ k => by refine XS.aloadN X23.here hx rfl (hb hby at_55) rfl rfl ?_; exact k) ?_
        show OwnEnd _ _ _ _ _ _ _ (T23.setTop (mkF m 56 (fL4 p0 cv (1 : Int32) w1 (2 : Int32) (0 : Int32)) [(.ref w1)]))
        refine go (fun _ k => by refine XS.iloadN X23.here hx rfl (hb hby at_56) rfl ?_; exact k) ?_
        show OwnEnd _ _ _ _ _ _ _ (T23.setTop (mkF m 57 (fL4 p0 cv (1 : Int32) w1 (2 : Int32) (0 : Int32)) [(.int cv), (.ref w1)]))
        obtain ⟨_, T24, L24, X24, hQ24, st24⟩ := callVirt X23 hx hZ hown (hw _ (List.mem_of_getElem? (i := 11) rfl)) (hw _ (List.mem_of_getElem? (i := 12) rfl)) (notFace_of_selects (args := #[]) (mvT hZ (hw _ (List.mem_of_getElem? (i := 14) rfl)))) (hw _ (List.mem_of_getElem? (i := 14) rfl)) (hw _ (List.mem_of_getElem? (i := 13) rfl)) (hw _ (List.mem_of_getElem? (i := 6) rfl)) (hw _ (List.mem_of_getElem? (i := 15) rfl)) (by decide) (rm_holds1 l Z a0 hw [] w1 cv h0 n0 FO1 EO1) (W := 0) (by decide) (by decide) eq23 EO1 (g := (mkF m 57 (fL4 p0 cv (1 : Int32) w1 (2 : Int32) (0 : Int32)) [(.int cv), (.ref w1)])) rfl (by rw [hml]; rfl) (argsL := [(.int cv)]) (rest := []) rfl (lenOf pd__I_Z rfl) rfl (by show 2 * 0 + _ ≤ _; exact Nat.le_of_eq rfl) (hb hby at_57) (by decide) (by decide)
        obtain ⟨rfl, Nq24, eq24⟩ := hQ24
        have N24 := Fr.app N23 Nq24
        refine go st24 ?_
        refine go (fun _ k => by refine XS.iload X24.here hx rfl (hb hby at_60) rfl ?_; exact k) ?_
        show OwnEnd _ _ _ _ _ _ _ (T24.setTop (mkF m 62 (fL4 p0 cv (1 : Int32) w1 (2 : Int32) (0 : Int32)) [(.int (0 : Int32)), (.int (if ¬ 0 < cv then (1 : Int32) else 0))]))
        by_cases hc62_25 : (if ¬ 0 < cv then (1 : Int32) else 0) = (0 : Int32)
        · refine go (fun _ k => by refine XS.icmpNo X24.here hx rfl (hb hby at_62) rfl (teq hc62_25).2 ?_; exact k) ?_
          show OwnEnd _ _ _ _ _ _ _ (T24.setTop (mkF m 65 (fL4 p0 cv (1 : Int32) w1 (2 : Int32) (0 : Int32)) []))
          refine go (fun _ k => by refine XS.iconst X24.here hx rfl (hb hby at_65) ?_; exact k) ?_
          refine go (fun _ k => by refine XS.goto X24.here hx rfl (pc0 := 66) (pc' := 70) rfl (hb hby at_66) (by decide) (by decide) ?_; exact k) ?_
          show OwnEnd _ _ _ _ _ _ _ (T24.setTop (mkF m 70 (fL4 p0 cv (1 : Int32) w1 (2 : Int32) (0 : Int32)) [(.int (1 : Int32))]))
          refine endN X24 hx hlk (t := .boolean) (by simp) Bd.returns (hb hby at_70) eq24 (by decide) (by decide) ?_
          exact ⟨rfl, N24⟩
        · refine go (fun _ k => by refine XS.icmpYes X24.here hx rfl (pc0 := 62) (pc' := 69) rfl (hb hby at_62) rfl (feq hc62_25).2 (by decide) (by decide) ?_; exact k) ?_
          show OwnEnd _ _ _ _ _ _ _ (T24.setTop (mkF m 69 (fL4 p0 cv (1 : Int32) w1 (2 : Int32) (0 : Int32)) []))
          refine go (fun _ k => by refine XS.iconst X24.here hx rfl (hb hby at_69) ?_; exact k) ?_
          show OwnEnd _ _ _ _ _ _ _ (T24.setTop (mkF m 70 (fL4 p0 cv (1 : Int32) w1 (2 : Int32) (0 : Int32)) [(.int (0 : Int32))]))
          refine endN X24 hx hlk (t := .boolean) (by simp) Bd.returns (hb hby at_70) eq24 (by decide) (by decide) ?_
          exact absurd (by rw [if_neg (by simp only [Int32.lt_iff_toInt_lt, ← Int32.toInt_inj, Int32.reduceToInt] at *; omega)]) hc62_25
  · refine go (fun _ k => by refine XS.iloadN X0.here hx rfl (hb hby at_8) rfl ?_; exact k) ?_
    show OwnEnd _ _ _ _ _ _ _ (s₁.setTop (mkF m 9 (fL1 p0 cv (2 : Int32)) [(.int (2 : Int32))]))
    obtain ⟨_, T26, L26, X26, hQ26, st26⟩ := callStat X0 hx hZ hown (hw _ (List.mem_of_getElem? (i := 1) rfl)) (hw _ (List.mem_of_getElem? (i := 2) rfl)) (hw _ (List.mem_of_getElem? (i := 3) rfl)) (hw _ (List.mem_of_getElem? (i := 4) rfl)) (by decide) (rm_pick2 l Z a0 hw [] w2 h0 n0 SS2) (W := 0) (by decide) (by decide) e0 (g := (mkF m 9 (fL1 p0 cv (2 : Int32)) [(.int (2 : Int32))])) rfl (by rw [hml]; rfl) (argsL := [(.int (2 : Int32))]) (rest := []) rfl (lenOf pd__I_Lcom_example_minder_minder_model_Comparison_ rfl) rfl (by show 2 * 0 + _ ≤ _; exact Nat.le_of_eq rfl) (hb hby at_9) (by decide) (by decide)
    obtain ⟨rfl, Nq26, eq26⟩ := hQ26
    have N26 := Fr.app N0 Nq26
    refine go st26 ?_
    refine go (fun _ k => by refine XS.astoreN X26.here hx rfl (hb hby at_12) rfl rfl (l' := (fL2 p0 cv (2 : Int32) w2)) rfl ?_; exact k) ?_
    refine go (fun _ k => by refine XS.iloadN X26.here hx rfl (hb hby at_13) rfl ?_; exact k) ?_
    show OwnEnd _ _ _ _ _ _ _ (T26.setTop (mkF m 14 (fL2 p0 cv (2 : Int32) w2) [(.int cv)]))
    by_cases hc14_27 : cv < (0 : Int32)
    · refine go (fun _ k => by refine XS.ifNo X26.here hx rfl (hb hby at_14) rfl ((if0 _ _).trans (tlt hc14_27).2.1) ?_; exact k) ?_
      show OwnEnd _ _ _ _ _ _ _ (T26.setTop (mkF m 17 (fL2 p0 cv (2 : Int32) w2) []))
      refine go (fun _ k => by refine XS.iconst X26.here hx rfl (hb hby at_17) ?_; exact k) ?_
      refine go (fun _ k => by refine XS.istore X26.here hx rfl (hb hby at_18) rfl (l' := (fL3 p0 cv (2 : Int32) w2 (0 : Int32))) rfl ?_; exact k) ?_
      refine go (fun _ k => by refine XS.goto X26.here hx rfl (pc0 := 20) (pc' := 36) rfl (hb hby at_20) (by decide) (by decide) ?_; exact k) ?_
      refine go (fun _ k => by refine XS.iloadN X26.here hx rfl (hb hby at_36) rfl ?_; exact k) ?_
      show OwnEnd _ _ _ _ _ _ _ (T26.setTop (mkF m 37 (fL3 p0 cv (2 : Int32) w2 (0 : Int32)) [(.int (2 : Int32))]))
      obtain ⟨_, T28, L28, X28, hQ28, st28⟩ := callStat X26 hx hZ hown (hw _ (List.mem_of_getElem? (i := 8) rfl)) (hw _ (List.mem_of_getElem? (i := 9) rfl)) (hw _ (List.mem_of_getElem? (i := 3) rfl)) (hw _ (List.mem_of_getElem? (i := 10) rfl)) (by decide) (rm_adm2 l Z a0 hw [] h0 n0) (W := 0) (by decide) (by decide) eq26 (g := (mkF m 37 (fL3 p0 cv (2 : Int32) w2 (0 : Int32)) [(.int (2 : Int32))])) rfl (by rw [hml]; rfl) (argsL := [(.int (2 : Int32))]) (rest := []) rfl (lenOf pd__I_I rfl) rfl (by show 2 * 0 + _ ≤ _; exact Nat.le_of_eq rfl) (hb hby at_37) (by decide) (by decide)
      obtain ⟨rfl, Nq28, eq28⟩ := hQ28
      have N28 := Fr.app N26 Nq28
      refine go st28 ?_
      refine go (fun _ k => by refine XS.iload X28.here hx rfl (hb hby at_40) rfl ?_; exact k) ?_
      refine go (fun _ k => by refine XS.ishr X28.here hx rfl (hb hby at_42) rfl ?_; exact k) ?_
      show OwnEnd _ _ _ _ _ _ _ (T28.setTop (mkF m 43 (fL3 p0 cv (2 : Int32) w2 (0 : Int32)) [(.int ((4 : Int32) >>> ((0 : Int32) &&& 31)))]))
      rw [show ((4 : Int32) >>> ((0 : Int32) &&& 31)) = (4 : Int32) from by decide]
      refine go (fun _ k => by refine XS.iconst X28.here hx rfl (hb hby at_43) ?_; exact k) ?_
      show OwnEnd _ _ _ _ _ _ _ (T28.setTop (mkF m 44 (fL3 p0 cv (2 : Int32) w2 (0 : Int32)) [(.int (1 : Int32)), (.int (4 : Int32))]))
      refine go (fun _ k => by refine XS.iand X28.here hx rfl (hb hby at_44) rfl ?_; exact k) ?_
      show OwnEnd _ _ _ _ _ _ _ (T28.setTop (mkF m 45 (fL3 p0 cv (2 : Int32) w2 (0 : Int32)) [(.int ((4 : Int32) &&& (1 : Int32)))]))
      rw [show ((4 : Int32) &&& (1 : Int32)) = (0 : Int32) from by decide]
      show OwnEnd _ _ _ _ _ _ _ (T28.setTop (mkF m 45 (fL3 p0 cv (2 : Int32) w2 (0 : Int32)) [(.int (0 : Int32))]))
      refine go (fun _ k => by refine XS.ifYes X28.here hx rfl (pc0 := 45) (pc' := 52) rfl (hb hby at_45) rfl ((if0 _ _).trans (teq (by decide)).1) (by decide) (by decide) ?_; exact k) ?_
      refine go (fun _ k => by refine XS.iconst X28.here hx rfl (hb hby at_52) ?_; exact k) ?_
      refine go (fun _ k => by refine XS.istore X28.here hx rfl (hb hby at_53) rfl (l' := (fL4 p0 cv (2 : Int32) w2 (0 : Int32) (0 : Int32))) rfl ?_; exact k) ?_
      refine go (fun _ k => by refine XS.aloadN X28.here hx rfl (hb hby at_55) rfl rfl ?_; exact k) ?_
      show OwnEnd _ _ _ _ _ _ _ (T28.setTop (mkF m 56 (fL4 p0 cv (2 : Int32) w2 (0 : Int32) (0 : Int32)) [(.ref w2)]))
      refine go (fun _ k => by refine XS.iloadN X28.here hx rfl (hb hby at_56) rfl ?_; exact k) ?_
      show OwnEnd _ _ _ _ _ _ _ (T28.setTop (mkF m 57 (fL4 p0 cv (2 : Int32) w2 (0 : Int32) (0 : Int32)) [(.int cv), (.ref w2)]))
      obtain ⟨_, T29, L29, X29, hQ29, st29⟩ := callVirt X28 hx hZ hown (hw _ (List.mem_of_getElem? (i := 11) rfl)) (hw _ (List.mem_of_getElem? (i := 12) rfl)) (notFace_of_selects (args := #[]) (mvT hZ (hw _ (List.mem_of_getElem? (i := 14) rfl)))) (hw _ (List.mem_of_getElem? (i := 14) rfl)) (hw _ (List.mem_of_getElem? (i := 13) rfl)) (hw _ (List.mem_of_getElem? (i := 6) rfl)) (hw _ (List.mem_of_getElem? (i := 15) rfl)) (by decide) (rm_holds2 l Z a0 hw [] w2 cv h0 n0 FO2 EO2) (W := 0) (by decide) (by decide) eq28 EO2 (g := (mkF m 57 (fL4 p0 cv (2 : Int32) w2 (0 : Int32) (0 : Int32)) [(.int cv), (.ref w2)])) rfl (by rw [hml]; rfl) (argsL := [(.int cv)]) (rest := []) rfl (lenOf pd__I_Z rfl) rfl (by show 2 * 0 + _ ≤ _; exact Nat.le_of_eq rfl) (hb hby at_57) (by decide) (by decide)
      obtain ⟨rfl, Nq29, eq29⟩ := hQ29
      have N29 := Fr.app N28 Nq29
      refine go st29 ?_
      refine go (fun _ k => by refine XS.iload X29.here hx rfl (hb hby at_60) rfl ?_; exact k) ?_
      show OwnEnd _ _ _ _ _ _ _ (T29.setTop (mkF m 62 (fL4 p0 cv (2 : Int32) w2 (0 : Int32) (0 : Int32)) [(.int (0 : Int32)), (.int (if 0 < cv then (1 : Int32) else 0))]))
      by_cases hc62_30 : (if 0 < cv then (1 : Int32) else 0) = (0 : Int32)
      · refine go (fun _ k => by refine XS.icmpNo X29.here hx rfl (hb hby at_62) rfl (teq hc62_30).2 ?_; exact k) ?_
        show OwnEnd _ _ _ _ _ _ _ (T29.setTop (mkF m 65 (fL4 p0 cv (2 : Int32) w2 (0 : Int32) (0 : Int32)) []))
        refine go (fun _ k => by refine XS.iconst X29.here hx rfl (hb hby at_65) ?_; exact k) ?_
        refine go (fun _ k => by refine XS.goto X29.here hx rfl (pc0 := 66) (pc' := 70) rfl (hb hby at_66) (by decide) (by decide) ?_; exact k) ?_
        show OwnEnd _ _ _ _ _ _ _ (T29.setTop (mkF m 70 (fL4 p0 cv (2 : Int32) w2 (0 : Int32) (0 : Int32)) [(.int (1 : Int32))]))
        refine endN X29 hx hlk (t := .boolean) (by simp) Bd.returns (hb hby at_70) eq29 (by decide) (by decide) ?_
        exact ⟨rfl, N29⟩
      · refine go (fun _ k => by refine XS.icmpYes X29.here hx rfl (pc0 := 62) (pc' := 69) rfl (hb hby at_62) rfl (feq hc62_30).2 (by decide) (by decide) ?_; exact k) ?_
        show OwnEnd _ _ _ _ _ _ _ (T29.setTop (mkF m 69 (fL4 p0 cv (2 : Int32) w2 (0 : Int32) (0 : Int32)) []))
        refine go (fun _ k => by refine XS.iconst X29.here hx rfl (hb hby at_69) ?_; exact k) ?_
        show OwnEnd _ _ _ _ _ _ _ (T29.setTop (mkF m 70 (fL4 p0 cv (2 : Int32) w2 (0 : Int32) (0 : Int32)) [(.int (0 : Int32))]))
        refine endN X29 hx hlk (t := .boolean) (by simp) Bd.returns (hb hby at_70) eq29 (by decide) (by decide) ?_
        exact absurd (by rw [if_neg (by simp only [Int32.lt_iff_toInt_lt, ← Int32.toInt_inj, Int32.reduceToInt] at *; omega)]) hc62_30
    · refine go (fun _ k => by refine XS.ifYes X26.here hx rfl (pc0 := 14) (pc' := 23) rfl (hb hby at_14) rfl ((if0 _ _).trans (flt hc14_27).2.1) (by decide) (by decide) ?_; exact k) ?_
      show OwnEnd _ _ _ _ _ _ _ (T26.setTop (mkF m 23 (fL2 p0 cv (2 : Int32) w2) []))
      refine go (fun _ k => by refine XS.iloadN X26.here hx rfl (hb hby at_23) rfl ?_; exact k) ?_
      show OwnEnd _ _ _ _ _ _ _ (T26.setTop (mkF m 24 (fL2 p0 cv (2 : Int32) w2) [(.int cv)]))
      by_cases hc24_31 : cv = (0 : Int32)
      · refine go (fun _ k => by refine XS.ifNo X26.here hx rfl (hb hby at_24) rfl ((if0 _ _).trans (teq hc24_31).2) ?_; exact k) ?_
        show OwnEnd _ _ _ _ _ _ _ (T26.setTop (mkF m 27 (fL2 p0 cv (2 : Int32) w2) []))
        refine go (fun _ k => by refine XS.iconst X26.here hx rfl (hb hby at_27) ?_; exact k) ?_
        refine go (fun _ k => by refine XS.istore X26.here hx rfl (hb hby at_28) rfl (l' := (fL3 p0 cv (2 : Int32) w2 (1 : Int32))) rfl ?_; exact k) ?_
        refine go (fun _ k => by refine XS.goto X26.here hx rfl (pc0 := 30) (pc' := 36) rfl (hb hby at_30) (by decide) (by decide) ?_; exact k) ?_
        refine go (fun _ k => by refine XS.iloadN X26.here hx rfl (hb hby at_36) rfl ?_; exact k) ?_
        show OwnEnd _ _ _ _ _ _ _ (T26.setTop (mkF m 37 (fL3 p0 cv (2 : Int32) w2 (1 : Int32)) [(.int (2 : Int32))]))
        obtain ⟨_, T32, L32, X32, hQ32, st32⟩ := callStat X26 hx hZ hown (hw _ (List.mem_of_getElem? (i := 8) rfl)) (hw _ (List.mem_of_getElem? (i := 9) rfl)) (hw _ (List.mem_of_getElem? (i := 3) rfl)) (hw _ (List.mem_of_getElem? (i := 10) rfl)) (by decide) (rm_adm2 l Z a0 hw [] h0 n0) (W := 0) (by decide) (by decide) eq26 (g := (mkF m 37 (fL3 p0 cv (2 : Int32) w2 (1 : Int32)) [(.int (2 : Int32))])) rfl (by rw [hml]; rfl) (argsL := [(.int (2 : Int32))]) (rest := []) rfl (lenOf pd__I_I rfl) rfl (by show 2 * 0 + _ ≤ _; exact Nat.le_of_eq rfl) (hb hby at_37) (by decide) (by decide)
        obtain ⟨rfl, Nq32, eq32⟩ := hQ32
        have N32 := Fr.app N26 Nq32
        refine go st32 ?_
        refine go (fun _ k => by refine XS.iload X32.here hx rfl (hb hby at_40) rfl ?_; exact k) ?_
        refine go (fun _ k => by refine XS.ishr X32.here hx rfl (hb hby at_42) rfl ?_; exact k) ?_
        show OwnEnd _ _ _ _ _ _ _ (T32.setTop (mkF m 43 (fL3 p0 cv (2 : Int32) w2 (1 : Int32)) [(.int ((4 : Int32) >>> ((1 : Int32) &&& 31)))]))
        rw [show ((4 : Int32) >>> ((1 : Int32) &&& 31)) = (2 : Int32) from by decide]
        refine go (fun _ k => by refine XS.iconst X32.here hx rfl (hb hby at_43) ?_; exact k) ?_
        show OwnEnd _ _ _ _ _ _ _ (T32.setTop (mkF m 44 (fL3 p0 cv (2 : Int32) w2 (1 : Int32)) [(.int (1 : Int32)), (.int (2 : Int32))]))
        refine go (fun _ k => by refine XS.iand X32.here hx rfl (hb hby at_44) rfl ?_; exact k) ?_
        show OwnEnd _ _ _ _ _ _ _ (T32.setTop (mkF m 45 (fL3 p0 cv (2 : Int32) w2 (1 : Int32)) [(.int ((2 : Int32) &&& (1 : Int32)))]))
        rw [show ((2 : Int32) &&& (1 : Int32)) = (0 : Int32) from by decide]
        show OwnEnd _ _ _ _ _ _ _ (T32.setTop (mkF m 45 (fL3 p0 cv (2 : Int32) w2 (1 : Int32)) [(.int (0 : Int32))]))
        refine go (fun _ k => by refine XS.ifYes X32.here hx rfl (pc0 := 45) (pc' := 52) rfl (hb hby at_45) rfl ((if0 _ _).trans (teq (by decide)).1) (by decide) (by decide) ?_; exact k) ?_
        refine go (fun _ k => by refine XS.iconst X32.here hx rfl (hb hby at_52) ?_; exact k) ?_
        refine go (fun _ k => by refine XS.istore X32.here hx rfl (hb hby at_53) rfl (l' := (fL4 p0 cv (2 : Int32) w2 (1 : Int32) (0 : Int32))) rfl ?_; exact k) ?_
        refine go (fun _ k => by refine XS.aloadN X32.here hx rfl (hb hby at_55) rfl rfl ?_; exact k) ?_
        show OwnEnd _ _ _ _ _ _ _ (T32.setTop (mkF m 56 (fL4 p0 cv (2 : Int32) w2 (1 : Int32) (0 : Int32)) [(.ref w2)]))
        refine go (fun _ k => by refine XS.iloadN X32.here hx rfl (hb hby at_56) rfl ?_; exact k) ?_
        show OwnEnd _ _ _ _ _ _ _ (T32.setTop (mkF m 57 (fL4 p0 cv (2 : Int32) w2 (1 : Int32) (0 : Int32)) [(.int cv), (.ref w2)]))
        obtain ⟨_, T33, L33, X33, hQ33, st33⟩ := callVirt X32 hx hZ hown (hw _ (List.mem_of_getElem? (i := 11) rfl)) (hw _ (List.mem_of_getElem? (i := 12) rfl)) (notFace_of_selects (args := #[]) (mvT hZ (hw _ (List.mem_of_getElem? (i := 14) rfl)))) (hw _ (List.mem_of_getElem? (i := 14) rfl)) (hw _ (List.mem_of_getElem? (i := 13) rfl)) (hw _ (List.mem_of_getElem? (i := 6) rfl)) (hw _ (List.mem_of_getElem? (i := 15) rfl)) (by decide) (rm_holds2 l Z a0 hw [] w2 cv h0 n0 FO2 EO2) (W := 0) (by decide) (by decide) eq32 EO2 (g := (mkF m 57 (fL4 p0 cv (2 : Int32) w2 (1 : Int32) (0 : Int32)) [(.int cv), (.ref w2)])) rfl (by rw [hml]; rfl) (argsL := [(.int cv)]) (rest := []) rfl (lenOf pd__I_Z rfl) rfl (by show 2 * 0 + _ ≤ _; exact Nat.le_of_eq rfl) (hb hby at_57) (by decide) (by decide)
        obtain ⟨rfl, Nq33, eq33⟩ := hQ33
        have N33 := Fr.app N32 Nq33
        refine go st33 ?_
        refine go (fun _ k => by refine XS.iload X33.here hx rfl (hb hby at_60) rfl ?_; exact k) ?_
        show OwnEnd _ _ _ _ _ _ _ (T33.setTop (mkF m 62 (fL4 p0 cv (2 : Int32) w2 (1 : Int32) (0 : Int32)) [(.int (0 : Int32)), (.int (if 0 < cv then (1 : Int32) else 0))]))
        by_cases hc62_34 : (if 0 < cv then (1 : Int32) else 0) = (0 : Int32)
        · refine go (fun _ k => by refine XS.icmpNo X33.here hx rfl (hb hby at_62) rfl (teq hc62_34).2 ?_; exact k) ?_
          show OwnEnd _ _ _ _ _ _ _ (T33.setTop (mkF m 65 (fL4 p0 cv (2 : Int32) w2 (1 : Int32) (0 : Int32)) []))
          refine go (fun _ k => by refine XS.iconst X33.here hx rfl (hb hby at_65) ?_; exact k) ?_
          refine go (fun _ k => by refine XS.goto X33.here hx rfl (pc0 := 66) (pc' := 70) rfl (hb hby at_66) (by decide) (by decide) ?_; exact k) ?_
          show OwnEnd _ _ _ _ _ _ _ (T33.setTop (mkF m 70 (fL4 p0 cv (2 : Int32) w2 (1 : Int32) (0 : Int32)) [(.int (1 : Int32))]))
          refine endN X33 hx hlk (t := .boolean) (by simp) Bd.returns (hb hby at_70) eq33 (by decide) (by decide) ?_
          exact ⟨rfl, N33⟩
        · refine go (fun _ k => by refine XS.icmpYes X33.here hx rfl (pc0 := 62) (pc' := 69) rfl (hb hby at_62) rfl (feq hc62_34).2 (by decide) (by decide) ?_; exact k) ?_
          show OwnEnd _ _ _ _ _ _ _ (T33.setTop (mkF m 69 (fL4 p0 cv (2 : Int32) w2 (1 : Int32) (0 : Int32)) []))
          refine go (fun _ k => by refine XS.iconst X33.here hx rfl (hb hby at_69) ?_; exact k) ?_
          show OwnEnd _ _ _ _ _ _ _ (T33.setTop (mkF m 70 (fL4 p0 cv (2 : Int32) w2 (1 : Int32) (0 : Int32)) [(.int (0 : Int32))]))
          refine endN X33 hx hlk (t := .boolean) (by simp) Bd.returns (hb hby at_70) eq33 (by decide) (by decide) ?_
          exact absurd (by rw [if_neg (by simp only [Int32.lt_iff_toInt_lt, ← Int32.toInt_inj, Int32.reduceToInt] at *; omega)]) hc62_34
      · refine go (fun _ k => by refine XS.ifYes X26.here hx rfl (pc0 := 24) (pc' := 33) rfl (hb hby at_24) rfl ((if0 _ _).trans (feq hc24_31).2) (by decide) (by decide) ?_; exact k) ?_
        show OwnEnd _ _ _ _ _ _ _ (T26.setTop (mkF m 33 (fL2 p0 cv (2 : Int32) w2) []))
        refine go (fun _ k => by refine XS.iconst X26.here hx rfl (hb hby at_33) ?_; exact k) ?_
        refine go (fun _ k => by refine XS.istore X26.here hx rfl (hb hby at_34) rfl (l' := (fL3 p0 cv (2 : Int32) w2 (2 : Int32))) rfl ?_; exact k) ?_
        refine go (fun _ k => by refine XS.iloadN X26.here hx rfl (hb hby at_36) rfl ?_; exact k) ?_
        show OwnEnd _ _ _ _ _ _ _ (T26.setTop (mkF m 37 (fL3 p0 cv (2 : Int32) w2 (2 : Int32)) [(.int (2 : Int32))]))
        obtain ⟨_, T35, L35, X35, hQ35, st35⟩ := callStat X26 hx hZ hown (hw _ (List.mem_of_getElem? (i := 8) rfl)) (hw _ (List.mem_of_getElem? (i := 9) rfl)) (hw _ (List.mem_of_getElem? (i := 3) rfl)) (hw _ (List.mem_of_getElem? (i := 10) rfl)) (by decide) (rm_adm2 l Z a0 hw [] h0 n0) (W := 0) (by decide) (by decide) eq26 (g := (mkF m 37 (fL3 p0 cv (2 : Int32) w2 (2 : Int32)) [(.int (2 : Int32))])) rfl (by rw [hml]; rfl) (argsL := [(.int (2 : Int32))]) (rest := []) rfl (lenOf pd__I_I rfl) rfl (by show 2 * 0 + _ ≤ _; exact Nat.le_of_eq rfl) (hb hby at_37) (by decide) (by decide)
        obtain ⟨rfl, Nq35, eq35⟩ := hQ35
        have N35 := Fr.app N26 Nq35
        refine go st35 ?_
        refine go (fun _ k => by refine XS.iload X35.here hx rfl (hb hby at_40) rfl ?_; exact k) ?_
        refine go (fun _ k => by refine XS.ishr X35.here hx rfl (hb hby at_42) rfl ?_; exact k) ?_
        show OwnEnd _ _ _ _ _ _ _ (T35.setTop (mkF m 43 (fL3 p0 cv (2 : Int32) w2 (2 : Int32)) [(.int ((4 : Int32) >>> ((2 : Int32) &&& 31)))]))
        rw [show ((4 : Int32) >>> ((2 : Int32) &&& 31)) = (1 : Int32) from by decide]
        refine go (fun _ k => by refine XS.iconst X35.here hx rfl (hb hby at_43) ?_; exact k) ?_
        show OwnEnd _ _ _ _ _ _ _ (T35.setTop (mkF m 44 (fL3 p0 cv (2 : Int32) w2 (2 : Int32)) [(.int (1 : Int32)), (.int (1 : Int32))]))
        refine go (fun _ k => by refine XS.iand X35.here hx rfl (hb hby at_44) rfl ?_; exact k) ?_
        show OwnEnd _ _ _ _ _ _ _ (T35.setTop (mkF m 45 (fL3 p0 cv (2 : Int32) w2 (2 : Int32)) [(.int ((1 : Int32) &&& (1 : Int32)))]))
        rw [show ((1 : Int32) &&& (1 : Int32)) = (1 : Int32) from by decide]
        show OwnEnd _ _ _ _ _ _ _ (T35.setTop (mkF m 45 (fL3 p0 cv (2 : Int32) w2 (2 : Int32)) [(.int (1 : Int32))]))
        refine go (fun _ k => by refine XS.ifNo X35.here hx rfl (hb hby at_45) rfl ((if0 _ _).trans (feq (by decide)).1) ?_; exact k) ?_
        refine go (fun _ k => by refine XS.iconst X35.here hx rfl (hb hby at_48) ?_; exact k) ?_
        refine go (fun _ k => by refine XS.goto X35.here hx rfl (pc0 := 49) (pc' := 53) rfl (hb hby at_49) (by decide) (by decide) ?_; exact k) ?_
        refine go (fun _ k => by refine XS.istore X35.here hx rfl (hb hby at_53) rfl (l' := (fL4 p0 cv (2 : Int32) w2 (2 : Int32) (1 : Int32))) rfl ?_; exact k) ?_
        show OwnEnd _ _ _ _ _ _ _ (T35.setTop (mkF m 55 (fL4 p0 cv (2 : Int32) w2 (2 : Int32) (1 : Int32)) []))
        refine go (fun _ k => by refine XS.aloadN X35.here hx rfl (hb hby at_55) rfl rfl ?_; exact k) ?_
        refine go (fun _ k => by refine XS.iloadN X35.here hx rfl (hb hby at_56) rfl ?_; exact k) ?_
        show OwnEnd _ _ _ _ _ _ _ (T35.setTop (mkF m 57 (fL4 p0 cv (2 : Int32) w2 (2 : Int32) (1 : Int32)) [(.int cv), (.ref w2)]))
        obtain ⟨_, T36, L36, X36, hQ36, st36⟩ := callVirt X35 hx hZ hown (hw _ (List.mem_of_getElem? (i := 11) rfl)) (hw _ (List.mem_of_getElem? (i := 12) rfl)) (notFace_of_selects (args := #[]) (mvT hZ (hw _ (List.mem_of_getElem? (i := 14) rfl)))) (hw _ (List.mem_of_getElem? (i := 14) rfl)) (hw _ (List.mem_of_getElem? (i := 13) rfl)) (hw _ (List.mem_of_getElem? (i := 6) rfl)) (hw _ (List.mem_of_getElem? (i := 15) rfl)) (by decide) (rm_holds2 l Z a0 hw [] w2 cv h0 n0 FO2 EO2) (W := 0) (by decide) (by decide) eq35 EO2 (g := (mkF m 57 (fL4 p0 cv (2 : Int32) w2 (2 : Int32) (1 : Int32)) [(.int cv), (.ref w2)])) rfl (by rw [hml]; rfl) (argsL := [(.int cv)]) (rest := []) rfl (lenOf pd__I_Z rfl) rfl (by show 2 * 0 + _ ≤ _; exact Nat.le_of_eq rfl) (hb hby at_57) (by decide) (by decide)
        obtain ⟨rfl, Nq36, eq36⟩ := hQ36
        have N36 := Fr.app N35 Nq36
        refine go st36 ?_
        refine go (fun _ k => by refine XS.iload X36.here hx rfl (hb hby at_60) rfl ?_; exact k) ?_
        show OwnEnd _ _ _ _ _ _ _ (T36.setTop (mkF m 62 (fL4 p0 cv (2 : Int32) w2 (2 : Int32) (1 : Int32)) [(.int (1 : Int32)), (.int (if 0 < cv then (1 : Int32) else 0))]))
        by_cases hc62_37 : (if 0 < cv then (1 : Int32) else 0) = (1 : Int32)
        · refine go (fun _ k => by refine XS.icmpNo X36.here hx rfl (hb hby at_62) rfl (teq hc62_37).2 ?_; exact k) ?_
          show OwnEnd _ _ _ _ _ _ _ (T36.setTop (mkF m 65 (fL4 p0 cv (2 : Int32) w2 (2 : Int32) (1 : Int32)) []))
          refine go (fun _ k => by refine XS.iconst X36.here hx rfl (hb hby at_65) ?_; exact k) ?_
          refine go (fun _ k => by refine XS.goto X36.here hx rfl (pc0 := 66) (pc' := 70) rfl (hb hby at_66) (by decide) (by decide) ?_; exact k) ?_
          show OwnEnd _ _ _ _ _ _ _ (T36.setTop (mkF m 70 (fL4 p0 cv (2 : Int32) w2 (2 : Int32) (1 : Int32)) [(.int (1 : Int32))]))
          refine endN X36 hx hlk (t := .boolean) (by simp) Bd.returns (hb hby at_70) eq36 (by decide) (by decide) ?_
          exact ⟨rfl, N36⟩
        · refine go (fun _ k => by refine XS.icmpYes X36.here hx rfl (pc0 := 62) (pc' := 69) rfl (hb hby at_62) rfl (feq hc62_37).2 (by decide) (by decide) ?_; exact k) ?_
          show OwnEnd _ _ _ _ _ _ _ (T36.setTop (mkF m 69 (fL4 p0 cv (2 : Int32) w2 (2 : Int32) (1 : Int32)) []))
          refine go (fun _ k => by refine XS.iconst X36.here hx rfl (hb hby at_69) ?_; exact k) ?_
          show OwnEnd _ _ _ _ _ _ _ (T36.setTop (mkF m 70 (fL4 p0 cv (2 : Int32) w2 (2 : Int32) (1 : Int32)) [(.int (0 : Int32))]))
          refine endN X36 hx hlk (t := .boolean) (by simp) Bd.returns (hb hby at_70) eq36 (by decide) (by decide) ?_
          exact absurd (by rw [if_pos (by simp only [Int32.lt_iff_toInt_lt, ← Int32.toInt_inj, Int32.reduceToInt] at *; omega)]) hc62_37
  · refine go (fun _ k => by refine XS.iloadN X0.here hx rfl (hb hby at_8) rfl ?_; exact k) ?_
    show OwnEnd _ _ _ _ _ _ _ (s₁.setTop (mkF m 9 (fL1 p0 cv (3 : Int32)) [(.int (3 : Int32))]))
    obtain ⟨_, T38, L38, X38, hQ38, st38⟩ := callStat X0 hx hZ hown (hw _ (List.mem_of_getElem? (i := 1) rfl)) (hw _ (List.mem_of_getElem? (i := 2) rfl)) (hw _ (List.mem_of_getElem? (i := 3) rfl)) (hw _ (List.mem_of_getElem? (i := 4) rfl)) (by decide) (rm_pick3 l Z a0 hw [] w3 h0 n0 SS3) (W := 0) (by decide) (by decide) e0 (g := (mkF m 9 (fL1 p0 cv (3 : Int32)) [(.int (3 : Int32))])) rfl (by rw [hml]; rfl) (argsL := [(.int (3 : Int32))]) (rest := []) rfl (lenOf pd__I_Lcom_example_minder_minder_model_Comparison_ rfl) rfl (by show 2 * 0 + _ ≤ _; exact Nat.le_of_eq rfl) (hb hby at_9) (by decide) (by decide)
    obtain ⟨rfl, Nq38, eq38⟩ := hQ38
    have N38 := Fr.app N0 Nq38
    refine go st38 ?_
    refine go (fun _ k => by refine XS.astoreN X38.here hx rfl (hb hby at_12) rfl rfl (l' := (fL2 p0 cv (3 : Int32) w3)) rfl ?_; exact k) ?_
    refine go (fun _ k => by refine XS.iloadN X38.here hx rfl (hb hby at_13) rfl ?_; exact k) ?_
    show OwnEnd _ _ _ _ _ _ _ (T38.setTop (mkF m 14 (fL2 p0 cv (3 : Int32) w3) [(.int cv)]))
    by_cases hc14_39 : cv < (0 : Int32)
    · refine go (fun _ k => by refine XS.ifNo X38.here hx rfl (hb hby at_14) rfl ((if0 _ _).trans (tlt hc14_39).2.1) ?_; exact k) ?_
      show OwnEnd _ _ _ _ _ _ _ (T38.setTop (mkF m 17 (fL2 p0 cv (3 : Int32) w3) []))
      refine go (fun _ k => by refine XS.iconst X38.here hx rfl (hb hby at_17) ?_; exact k) ?_
      refine go (fun _ k => by refine XS.istore X38.here hx rfl (hb hby at_18) rfl (l' := (fL3 p0 cv (3 : Int32) w3 (0 : Int32))) rfl ?_; exact k) ?_
      refine go (fun _ k => by refine XS.goto X38.here hx rfl (pc0 := 20) (pc' := 36) rfl (hb hby at_20) (by decide) (by decide) ?_; exact k) ?_
      refine go (fun _ k => by refine XS.iloadN X38.here hx rfl (hb hby at_36) rfl ?_; exact k) ?_
      show OwnEnd _ _ _ _ _ _ _ (T38.setTop (mkF m 37 (fL3 p0 cv (3 : Int32) w3 (0 : Int32)) [(.int (3 : Int32))]))
      obtain ⟨_, T40, L40, X40, hQ40, st40⟩ := callStat X38 hx hZ hown (hw _ (List.mem_of_getElem? (i := 8) rfl)) (hw _ (List.mem_of_getElem? (i := 9) rfl)) (hw _ (List.mem_of_getElem? (i := 3) rfl)) (hw _ (List.mem_of_getElem? (i := 10) rfl)) (by decide) (rm_adm3 l Z a0 hw [] h0 n0) (W := 0) (by decide) (by decide) eq38 (g := (mkF m 37 (fL3 p0 cv (3 : Int32) w3 (0 : Int32)) [(.int (3 : Int32))])) rfl (by rw [hml]; rfl) (argsL := [(.int (3 : Int32))]) (rest := []) rfl (lenOf pd__I_I rfl) rfl (by show 2 * 0 + _ ≤ _; exact Nat.le_of_eq rfl) (hb hby at_37) (by decide) (by decide)
      obtain ⟨rfl, Nq40, eq40⟩ := hQ40
      have N40 := Fr.app N38 Nq40
      refine go st40 ?_
      refine go (fun _ k => by refine XS.iload X40.here hx rfl (hb hby at_40) rfl ?_; exact k) ?_
      refine go (fun _ k => by refine XS.ishr X40.here hx rfl (hb hby at_42) rfl ?_; exact k) ?_
      show OwnEnd _ _ _ _ _ _ _ (T40.setTop (mkF m 43 (fL3 p0 cv (3 : Int32) w3 (0 : Int32)) [(.int ((6 : Int32) >>> ((0 : Int32) &&& 31)))]))
      rw [show ((6 : Int32) >>> ((0 : Int32) &&& 31)) = (6 : Int32) from by decide]
      refine go (fun _ k => by refine XS.iconst X40.here hx rfl (hb hby at_43) ?_; exact k) ?_
      show OwnEnd _ _ _ _ _ _ _ (T40.setTop (mkF m 44 (fL3 p0 cv (3 : Int32) w3 (0 : Int32)) [(.int (1 : Int32)), (.int (6 : Int32))]))
      refine go (fun _ k => by refine XS.iand X40.here hx rfl (hb hby at_44) rfl ?_; exact k) ?_
      show OwnEnd _ _ _ _ _ _ _ (T40.setTop (mkF m 45 (fL3 p0 cv (3 : Int32) w3 (0 : Int32)) [(.int ((6 : Int32) &&& (1 : Int32)))]))
      rw [show ((6 : Int32) &&& (1 : Int32)) = (0 : Int32) from by decide]
      show OwnEnd _ _ _ _ _ _ _ (T40.setTop (mkF m 45 (fL3 p0 cv (3 : Int32) w3 (0 : Int32)) [(.int (0 : Int32))]))
      refine go (fun _ k => by refine XS.ifYes X40.here hx rfl (pc0 := 45) (pc' := 52) rfl (hb hby at_45) rfl ((if0 _ _).trans (teq (by decide)).1) (by decide) (by decide) ?_; exact k) ?_
      refine go (fun _ k => by refine XS.iconst X40.here hx rfl (hb hby at_52) ?_; exact k) ?_
      refine go (fun _ k => by refine XS.istore X40.here hx rfl (hb hby at_53) rfl (l' := (fL4 p0 cv (3 : Int32) w3 (0 : Int32) (0 : Int32))) rfl ?_; exact k) ?_
      refine go (fun _ k => by refine XS.aloadN X40.here hx rfl (hb hby at_55) rfl rfl ?_; exact k) ?_
      show OwnEnd _ _ _ _ _ _ _ (T40.setTop (mkF m 56 (fL4 p0 cv (3 : Int32) w3 (0 : Int32) (0 : Int32)) [(.ref w3)]))
      refine go (fun _ k => by refine XS.iloadN X40.here hx rfl (hb hby at_56) rfl ?_; exact k) ?_
      show OwnEnd _ _ _ _ _ _ _ (T40.setTop (mkF m 57 (fL4 p0 cv (3 : Int32) w3 (0 : Int32) (0 : Int32)) [(.int cv), (.ref w3)]))
      obtain ⟨_, T41, L41, X41, hQ41, st41⟩ := callVirt X40 hx hZ hown (hw _ (List.mem_of_getElem? (i := 11) rfl)) (hw _ (List.mem_of_getElem? (i := 12) rfl)) (notFace_of_selects (args := #[]) (mvT hZ (hw _ (List.mem_of_getElem? (i := 14) rfl)))) (hw _ (List.mem_of_getElem? (i := 14) rfl)) (hw _ (List.mem_of_getElem? (i := 13) rfl)) (hw _ (List.mem_of_getElem? (i := 6) rfl)) (hw _ (List.mem_of_getElem? (i := 15) rfl)) (by decide) (rm_holds3 l Z a0 hw [] w3 cv h0 n0 FO3 EO3) (W := 0) (by decide) (by decide) eq40 EO3 (g := (mkF m 57 (fL4 p0 cv (3 : Int32) w3 (0 : Int32) (0 : Int32)) [(.int cv), (.ref w3)])) rfl (by rw [hml]; rfl) (argsL := [(.int cv)]) (rest := []) rfl (lenOf pd__I_Z rfl) rfl (by show 2 * 0 + _ ≤ _; exact Nat.le_of_eq rfl) (hb hby at_57) (by decide) (by decide)
      obtain ⟨rfl, Nq41, eq41⟩ := hQ41
      have N41 := Fr.app N40 Nq41
      refine go st41 ?_
      refine go (fun _ k => by refine XS.iload X41.here hx rfl (hb hby at_60) rfl ?_; exact k) ?_
      show OwnEnd _ _ _ _ _ _ _ (T41.setTop (mkF m 62 (fL4 p0 cv (3 : Int32) w3 (0 : Int32) (0 : Int32)) [(.int (0 : Int32)), (.int (if ¬ cv < 0 then (1 : Int32) else 0))]))
      by_cases hc62_42 : (if ¬ cv < 0 then (1 : Int32) else 0) = (0 : Int32)
      · refine go (fun _ k => by refine XS.icmpNo X41.here hx rfl (hb hby at_62) rfl (teq hc62_42).2 ?_; exact k) ?_
        show OwnEnd _ _ _ _ _ _ _ (T41.setTop (mkF m 65 (fL4 p0 cv (3 : Int32) w3 (0 : Int32) (0 : Int32)) []))
        refine go (fun _ k => by refine XS.iconst X41.here hx rfl (hb hby at_65) ?_; exact k) ?_
        refine go (fun _ k => by refine XS.goto X41.here hx rfl (pc0 := 66) (pc' := 70) rfl (hb hby at_66) (by decide) (by decide) ?_; exact k) ?_
        show OwnEnd _ _ _ _ _ _ _ (T41.setTop (mkF m 70 (fL4 p0 cv (3 : Int32) w3 (0 : Int32) (0 : Int32)) [(.int (1 : Int32))]))
        refine endN X41 hx hlk (t := .boolean) (by simp) Bd.returns (hb hby at_70) eq41 (by decide) (by decide) ?_
        exact ⟨rfl, N41⟩
      · refine go (fun _ k => by refine XS.icmpYes X41.here hx rfl (pc0 := 62) (pc' := 69) rfl (hb hby at_62) rfl (feq hc62_42).2 (by decide) (by decide) ?_; exact k) ?_
        show OwnEnd _ _ _ _ _ _ _ (T41.setTop (mkF m 69 (fL4 p0 cv (3 : Int32) w3 (0 : Int32) (0 : Int32)) []))
        refine go (fun _ k => by refine XS.iconst X41.here hx rfl (hb hby at_69) ?_; exact k) ?_
        show OwnEnd _ _ _ _ _ _ _ (T41.setTop (mkF m 70 (fL4 p0 cv (3 : Int32) w3 (0 : Int32) (0 : Int32)) [(.int (0 : Int32))]))
        refine endN X41 hx hlk (t := .boolean) (by simp) Bd.returns (hb hby at_70) eq41 (by decide) (by decide) ?_
        exact absurd (by rw [if_neg (by simp only [Int32.lt_iff_toInt_lt, ← Int32.toInt_inj, Int32.reduceToInt] at *; omega)]) hc62_42
    · refine go (fun _ k => by refine XS.ifYes X38.here hx rfl (pc0 := 14) (pc' := 23) rfl (hb hby at_14) rfl ((if0 _ _).trans (flt hc14_39).2.1) (by decide) (by decide) ?_; exact k) ?_
      show OwnEnd _ _ _ _ _ _ _ (T38.setTop (mkF m 23 (fL2 p0 cv (3 : Int32) w3) []))
      refine go (fun _ k => by refine XS.iloadN X38.here hx rfl (hb hby at_23) rfl ?_; exact k) ?_
      show OwnEnd _ _ _ _ _ _ _ (T38.setTop (mkF m 24 (fL2 p0 cv (3 : Int32) w3) [(.int cv)]))
      by_cases hc24_43 : cv = (0 : Int32)
      · refine go (fun _ k => by refine XS.ifNo X38.here hx rfl (hb hby at_24) rfl ((if0 _ _).trans (teq hc24_43).2) ?_; exact k) ?_
        show OwnEnd _ _ _ _ _ _ _ (T38.setTop (mkF m 27 (fL2 p0 cv (3 : Int32) w3) []))
        refine go (fun _ k => by refine XS.iconst X38.here hx rfl (hb hby at_27) ?_; exact k) ?_
        refine go (fun _ k => by refine XS.istore X38.here hx rfl (hb hby at_28) rfl (l' := (fL3 p0 cv (3 : Int32) w3 (1 : Int32))) rfl ?_; exact k) ?_
        refine go (fun _ k => by refine XS.goto X38.here hx rfl (pc0 := 30) (pc' := 36) rfl (hb hby at_30) (by decide) (by decide) ?_; exact k) ?_
        refine go (fun _ k => by refine XS.iloadN X38.here hx rfl (hb hby at_36) rfl ?_; exact k) ?_
        show OwnEnd _ _ _ _ _ _ _ (T38.setTop (mkF m 37 (fL3 p0 cv (3 : Int32) w3 (1 : Int32)) [(.int (3 : Int32))]))
        obtain ⟨_, T44, L44, X44, hQ44, st44⟩ := callStat X38 hx hZ hown (hw _ (List.mem_of_getElem? (i := 8) rfl)) (hw _ (List.mem_of_getElem? (i := 9) rfl)) (hw _ (List.mem_of_getElem? (i := 3) rfl)) (hw _ (List.mem_of_getElem? (i := 10) rfl)) (by decide) (rm_adm3 l Z a0 hw [] h0 n0) (W := 0) (by decide) (by decide) eq38 (g := (mkF m 37 (fL3 p0 cv (3 : Int32) w3 (1 : Int32)) [(.int (3 : Int32))])) rfl (by rw [hml]; rfl) (argsL := [(.int (3 : Int32))]) (rest := []) rfl (lenOf pd__I_I rfl) rfl (by show 2 * 0 + _ ≤ _; exact Nat.le_of_eq rfl) (hb hby at_37) (by decide) (by decide)
        obtain ⟨rfl, Nq44, eq44⟩ := hQ44
        have N44 := Fr.app N38 Nq44
        refine go st44 ?_
        refine go (fun _ k => by refine XS.iload X44.here hx rfl (hb hby at_40) rfl ?_; exact k) ?_
        refine go (fun _ k => by refine XS.ishr X44.here hx rfl (hb hby at_42) rfl ?_; exact k) ?_
        show OwnEnd _ _ _ _ _ _ _ (T44.setTop (mkF m 43 (fL3 p0 cv (3 : Int32) w3 (1 : Int32)) [(.int ((6 : Int32) >>> ((1 : Int32) &&& 31)))]))
        rw [show ((6 : Int32) >>> ((1 : Int32) &&& 31)) = (3 : Int32) from by decide]
        refine go (fun _ k => by refine XS.iconst X44.here hx rfl (hb hby at_43) ?_; exact k) ?_
        show OwnEnd _ _ _ _ _ _ _ (T44.setTop (mkF m 44 (fL3 p0 cv (3 : Int32) w3 (1 : Int32)) [(.int (1 : Int32)), (.int (3 : Int32))]))
        refine go (fun _ k => by refine XS.iand X44.here hx rfl (hb hby at_44) rfl ?_; exact k) ?_
        show OwnEnd _ _ _ _ _ _ _ (T44.setTop (mkF m 45 (fL3 p0 cv (3 : Int32) w3 (1 : Int32)) [(.int ((3 : Int32) &&& (1 : Int32)))]))
        rw [show ((3 : Int32) &&& (1 : Int32)) = (1 : Int32) from by decide]
        show OwnEnd _ _ _ _ _ _ _ (T44.setTop (mkF m 45 (fL3 p0 cv (3 : Int32) w3 (1 : Int32)) [(.int (1 : Int32))]))
        refine go (fun _ k => by refine XS.ifNo X44.here hx rfl (hb hby at_45) rfl ((if0 _ _).trans (feq (by decide)).1) ?_; exact k) ?_
        refine go (fun _ k => by refine XS.iconst X44.here hx rfl (hb hby at_48) ?_; exact k) ?_
        refine go (fun _ k => by refine XS.goto X44.here hx rfl (pc0 := 49) (pc' := 53) rfl (hb hby at_49) (by decide) (by decide) ?_; exact k) ?_
        refine go (fun _ k => by refine XS.istore X44.here hx rfl (hb hby at_53) rfl (l' := (fL4 p0 cv (3 : Int32) w3 (1 : Int32) (1 : Int32))) rfl ?_; exact k) ?_
        show OwnEnd _ _ _ _ _ _ _ (T44.setTop (mkF m 55 (fL4 p0 cv (3 : Int32) w3 (1 : Int32) (1 : Int32)) []))
        refine go (fun _ k => by refine XS.aloadN X44.here hx rfl (hb hby at_55) rfl rfl ?_; exact k) ?_
        refine go (fun _ k => by refine XS.iloadN X44.here hx rfl (hb hby at_56) rfl ?_; exact k) ?_
        show OwnEnd _ _ _ _ _ _ _ (T44.setTop (mkF m 57 (fL4 p0 cv (3 : Int32) w3 (1 : Int32) (1 : Int32)) [(.int cv), (.ref w3)]))
        obtain ⟨_, T45, L45, X45, hQ45, st45⟩ := callVirt X44 hx hZ hown (hw _ (List.mem_of_getElem? (i := 11) rfl)) (hw _ (List.mem_of_getElem? (i := 12) rfl)) (notFace_of_selects (args := #[]) (mvT hZ (hw _ (List.mem_of_getElem? (i := 14) rfl)))) (hw _ (List.mem_of_getElem? (i := 14) rfl)) (hw _ (List.mem_of_getElem? (i := 13) rfl)) (hw _ (List.mem_of_getElem? (i := 6) rfl)) (hw _ (List.mem_of_getElem? (i := 15) rfl)) (by decide) (rm_holds3 l Z a0 hw [] w3 cv h0 n0 FO3 EO3) (W := 0) (by decide) (by decide) eq44 EO3 (g := (mkF m 57 (fL4 p0 cv (3 : Int32) w3 (1 : Int32) (1 : Int32)) [(.int cv), (.ref w3)])) rfl (by rw [hml]; rfl) (argsL := [(.int cv)]) (rest := []) rfl (lenOf pd__I_Z rfl) rfl (by show 2 * 0 + _ ≤ _; exact Nat.le_of_eq rfl) (hb hby at_57) (by decide) (by decide)
        obtain ⟨rfl, Nq45, eq45⟩ := hQ45
        have N45 := Fr.app N44 Nq45
        refine go st45 ?_
        refine go (fun _ k => by refine XS.iload X45.here hx rfl (hb hby at_60) rfl ?_; exact k) ?_
        show OwnEnd _ _ _ _ _ _ _ (T45.setTop (mkF m 62 (fL4 p0 cv (3 : Int32) w3 (1 : Int32) (1 : Int32)) [(.int (1 : Int32)), (.int (if ¬ cv < 0 then (1 : Int32) else 0))]))
        by_cases hc62_46 : (if ¬ cv < 0 then (1 : Int32) else 0) = (1 : Int32)
        · refine go (fun _ k => by refine XS.icmpNo X45.here hx rfl (hb hby at_62) rfl (teq hc62_46).2 ?_; exact k) ?_
          show OwnEnd _ _ _ _ _ _ _ (T45.setTop (mkF m 65 (fL4 p0 cv (3 : Int32) w3 (1 : Int32) (1 : Int32)) []))
          refine go (fun _ k => by refine XS.iconst X45.here hx rfl (hb hby at_65) ?_; exact k) ?_
          refine go (fun _ k => by refine XS.goto X45.here hx rfl (pc0 := 66) (pc' := 70) rfl (hb hby at_66) (by decide) (by decide) ?_; exact k) ?_
          show OwnEnd _ _ _ _ _ _ _ (T45.setTop (mkF m 70 (fL4 p0 cv (3 : Int32) w3 (1 : Int32) (1 : Int32)) [(.int (1 : Int32))]))
          refine endN X45 hx hlk (t := .boolean) (by simp) Bd.returns (hb hby at_70) eq45 (by decide) (by decide) ?_
          exact ⟨rfl, N45⟩
        · refine go (fun _ k => by refine XS.icmpYes X45.here hx rfl (pc0 := 62) (pc' := 69) rfl (hb hby at_62) rfl (feq hc62_46).2 (by decide) (by decide) ?_; exact k) ?_
          show OwnEnd _ _ _ _ _ _ _ (T45.setTop (mkF m 69 (fL4 p0 cv (3 : Int32) w3 (1 : Int32) (1 : Int32)) []))
          refine go (fun _ k => by refine XS.iconst X45.here hx rfl (hb hby at_69) ?_; exact k) ?_
          show OwnEnd _ _ _ _ _ _ _ (T45.setTop (mkF m 70 (fL4 p0 cv (3 : Int32) w3 (1 : Int32) (1 : Int32)) [(.int (0 : Int32))]))
          refine endN X45 hx hlk (t := .boolean) (by simp) Bd.returns (hb hby at_70) eq45 (by decide) (by decide) ?_
          exact absurd (by rw [if_pos (by simp only [Int32.lt_iff_toInt_lt, ← Int32.toInt_inj, Int32.reduceToInt] at *; omega)]) hc62_46
      · refine go (fun _ k => by refine XS.ifYes X38.here hx rfl (pc0 := 24) (pc' := 33) rfl (hb hby at_24) rfl ((if0 _ _).trans (feq hc24_43).2) (by decide) (by decide) ?_; exact k) ?_
        show OwnEnd _ _ _ _ _ _ _ (T38.setTop (mkF m 33 (fL2 p0 cv (3 : Int32) w3) []))
        refine go (fun _ k => by refine XS.iconst X38.here hx rfl (hb hby at_33) ?_; exact k) ?_
        refine go (fun _ k => by refine XS.istore X38.here hx rfl (hb hby at_34) rfl (l' := (fL3 p0 cv (3 : Int32) w3 (2 : Int32))) rfl ?_; exact k) ?_
        refine go (fun _ k => by refine XS.iloadN X38.here hx rfl (hb hby at_36) rfl ?_; exact k) ?_
        show OwnEnd _ _ _ _ _ _ _ (T38.setTop (mkF m 37 (fL3 p0 cv (3 : Int32) w3 (2 : Int32)) [(.int (3 : Int32))]))
        obtain ⟨_, T47, L47, X47, hQ47, st47⟩ := callStat X38 hx hZ hown (hw _ (List.mem_of_getElem? (i := 8) rfl)) (hw _ (List.mem_of_getElem? (i := 9) rfl)) (hw _ (List.mem_of_getElem? (i := 3) rfl)) (hw _ (List.mem_of_getElem? (i := 10) rfl)) (by decide) (rm_adm3 l Z a0 hw [] h0 n0) (W := 0) (by decide) (by decide) eq38 (g := (mkF m 37 (fL3 p0 cv (3 : Int32) w3 (2 : Int32)) [(.int (3 : Int32))])) rfl (by rw [hml]; rfl) (argsL := [(.int (3 : Int32))]) (rest := []) rfl (lenOf pd__I_I rfl) rfl (by show 2 * 0 + _ ≤ _; exact Nat.le_of_eq rfl) (hb hby at_37) (by decide) (by decide)
        obtain ⟨rfl, Nq47, eq47⟩ := hQ47
        have N47 := Fr.app N38 Nq47
        refine go st47 ?_
        refine go (fun _ k => by refine XS.iload X47.here hx rfl (hb hby at_40) rfl ?_; exact k) ?_
        refine go (fun _ k => by refine XS.ishr X47.here hx rfl (hb hby at_42) rfl ?_; exact k) ?_
        show OwnEnd _ _ _ _ _ _ _ (T47.setTop (mkF m 43 (fL3 p0 cv (3 : Int32) w3 (2 : Int32)) [(.int ((6 : Int32) >>> ((2 : Int32) &&& 31)))]))
        rw [show ((6 : Int32) >>> ((2 : Int32) &&& 31)) = (1 : Int32) from by decide]
        refine go (fun _ k => by refine XS.iconst X47.here hx rfl (hb hby at_43) ?_; exact k) ?_
        show OwnEnd _ _ _ _ _ _ _ (T47.setTop (mkF m 44 (fL3 p0 cv (3 : Int32) w3 (2 : Int32)) [(.int (1 : Int32)), (.int (1 : Int32))]))
        refine go (fun _ k => by refine XS.iand X47.here hx rfl (hb hby at_44) rfl ?_; exact k) ?_
        show OwnEnd _ _ _ _ _ _ _ (T47.setTop (mkF m 45 (fL3 p0 cv (3 : Int32) w3 (2 : Int32)) [(.int ((1 : Int32) &&& (1 : Int32)))]))
        rw [show ((1 : Int32) &&& (1 : Int32)) = (1 : Int32) from by decide]
        show OwnEnd _ _ _ _ _ _ _ (T47.setTop (mkF m 45 (fL3 p0 cv (3 : Int32) w3 (2 : Int32)) [(.int (1 : Int32))]))
        refine go (fun _ k => by refine XS.ifNo X47.here hx rfl (hb hby at_45) rfl ((if0 _ _).trans (feq (by decide)).1) ?_; exact k) ?_
        refine go (fun _ k => by refine XS.iconst X47.here hx rfl (hb hby at_48) ?_; exact k) ?_
        refine go (fun _ k => by refine XS.goto X47.here hx rfl (pc0 := 49) (pc' := 53) rfl (hb hby at_49) (by decide) (by decide) ?_; exact k) ?_
        refine go (fun _ k => by refine XS.istore X47.here hx rfl (hb hby at_53) rfl (l' := (fL4 p0 cv (3 : Int32) w3 (2 : Int32) (1 : Int32))) rfl ?_; exact k) ?_
        show OwnEnd _ _ _ _ _ _ _ (T47.setTop (mkF m 55 (fL4 p0 cv (3 : Int32) w3 (2 : Int32) (1 : Int32)) []))
        refine go (fun _ k => by refine XS.aloadN X47.here hx rfl (hb hby at_55) rfl rfl ?_; exact k) ?_
        refine go (fun _ k => by refine XS.iloadN X47.here hx rfl (hb hby at_56) rfl ?_; exact k) ?_
        show OwnEnd _ _ _ _ _ _ _ (T47.setTop (mkF m 57 (fL4 p0 cv (3 : Int32) w3 (2 : Int32) (1 : Int32)) [(.int cv), (.ref w3)]))
        obtain ⟨_, T48, L48, X48, hQ48, st48⟩ := callVirt X47 hx hZ hown (hw _ (List.mem_of_getElem? (i := 11) rfl)) (hw _ (List.mem_of_getElem? (i := 12) rfl)) (notFace_of_selects (args := #[]) (mvT hZ (hw _ (List.mem_of_getElem? (i := 14) rfl)))) (hw _ (List.mem_of_getElem? (i := 14) rfl)) (hw _ (List.mem_of_getElem? (i := 13) rfl)) (hw _ (List.mem_of_getElem? (i := 6) rfl)) (hw _ (List.mem_of_getElem? (i := 15) rfl)) (by decide) (rm_holds3 l Z a0 hw [] w3 cv h0 n0 FO3 EO3) (W := 0) (by decide) (by decide) eq47 EO3 (g := (mkF m 57 (fL4 p0 cv (3 : Int32) w3 (2 : Int32) (1 : Int32)) [(.int cv), (.ref w3)])) rfl (by rw [hml]; rfl) (argsL := [(.int cv)]) (rest := []) rfl (lenOf pd__I_Z rfl) rfl (by show 2 * 0 + _ ≤ _; exact Nat.le_of_eq rfl) (hb hby at_57) (by decide) (by decide)
        obtain ⟨rfl, Nq48, eq48⟩ := hQ48
        have N48 := Fr.app N47 Nq48
        refine go st48 ?_
        refine go (fun _ k => by refine XS.iload X48.here hx rfl (hb hby at_60) rfl ?_; exact k) ?_
        show OwnEnd _ _ _ _ _ _ _ (T48.setTop (mkF m 62 (fL4 p0 cv (3 : Int32) w3 (2 : Int32) (1 : Int32)) [(.int (1 : Int32)), (.int (if ¬ cv < 0 then (1 : Int32) else 0))]))
        by_cases hc62_49 : (if ¬ cv < 0 then (1 : Int32) else 0) = (1 : Int32)
        · refine go (fun _ k => by refine XS.icmpNo X48.here hx rfl (hb hby at_62) rfl (teq hc62_49).2 ?_; exact k) ?_
          show OwnEnd _ _ _ _ _ _ _ (T48.setTop (mkF m 65 (fL4 p0 cv (3 : Int32) w3 (2 : Int32) (1 : Int32)) []))
          refine go (fun _ k => by refine XS.iconst X48.here hx rfl (hb hby at_65) ?_; exact k) ?_
          refine go (fun _ k => by refine XS.goto X48.here hx rfl (pc0 := 66) (pc' := 70) rfl (hb hby at_66) (by decide) (by decide) ?_; exact k) ?_
          show OwnEnd _ _ _ _ _ _ _ (T48.setTop (mkF m 70 (fL4 p0 cv (3 : Int32) w3 (2 : Int32) (1 : Int32)) [(.int (1 : Int32))]))
          refine endN X48 hx hlk (t := .boolean) (by simp) Bd.returns (hb hby at_70) eq48 (by decide) (by decide) ?_
          exact ⟨rfl, N48⟩
        · refine go (fun _ k => by refine XS.icmpYes X48.here hx rfl (pc0 := 62) (pc' := 69) rfl (hb hby at_62) rfl (feq hc62_49).2 (by decide) (by decide) ?_; exact k) ?_
          show OwnEnd _ _ _ _ _ _ _ (T48.setTop (mkF m 69 (fL4 p0 cv (3 : Int32) w3 (2 : Int32) (1 : Int32)) []))
          refine go (fun _ k => by refine XS.iconst X48.here hx rfl (hb hby at_69) ?_; exact k) ?_
          show OwnEnd _ _ _ _ _ _ _ (T48.setTop (mkF m 70 (fL4 p0 cv (3 : Int32) w3 (2 : Int32) (1 : Int32)) [(.int (0 : Int32))]))
          refine endN X48 hx hlk (t := .boolean) (by simp) Bd.returns (hb hby at_70) eq48 (by decide) (by decide) ?_
          exact absurd (by rw [if_pos (by simp only [Int32.lt_iff_toInt_lt, ← Int32.toInt_inj, Int32.reduceToInt] at *; omega)]) hc62_49
  · refine go (fun _ k => by refine XS.iloadN X0.here hx rfl (hb hby at_8) rfl ?_; exact k) ?_
    show OwnEnd _ _ _ _ _ _ _ (s₁.setTop (mkF m 9 (fL1 p0 cv (4 : Int32)) [(.int (4 : Int32))]))
    obtain ⟨_, T50, L50, X50, hQ50, st50⟩ := callStat X0 hx hZ hown (hw _ (List.mem_of_getElem? (i := 1) rfl)) (hw _ (List.mem_of_getElem? (i := 2) rfl)) (hw _ (List.mem_of_getElem? (i := 3) rfl)) (hw _ (List.mem_of_getElem? (i := 4) rfl)) (by decide) (rm_pick4 l Z a0 hw [] w4 h0 n0 SS4) (W := 0) (by decide) (by decide) e0 (g := (mkF m 9 (fL1 p0 cv (4 : Int32)) [(.int (4 : Int32))])) rfl (by rw [hml]; rfl) (argsL := [(.int (4 : Int32))]) (rest := []) rfl (lenOf pd__I_Lcom_example_minder_minder_model_Comparison_ rfl) rfl (by show 2 * 0 + _ ≤ _; exact Nat.le_of_eq rfl) (hb hby at_9) (by decide) (by decide)
    obtain ⟨rfl, Nq50, eq50⟩ := hQ50
    have N50 := Fr.app N0 Nq50
    refine go st50 ?_
    refine go (fun _ k => by refine XS.astoreN X50.here hx rfl (hb hby at_12) rfl rfl (l' := (fL2 p0 cv (4 : Int32) w4)) rfl ?_; exact k) ?_
    refine go (fun _ k => by refine XS.iloadN X50.here hx rfl (hb hby at_13) rfl ?_; exact k) ?_
    show OwnEnd _ _ _ _ _ _ _ (T50.setTop (mkF m 14 (fL2 p0 cv (4 : Int32) w4) [(.int cv)]))
    by_cases hc14_51 : cv < (0 : Int32)
    · refine go (fun _ k => by refine XS.ifNo X50.here hx rfl (hb hby at_14) rfl ((if0 _ _).trans (tlt hc14_51).2.1) ?_; exact k) ?_
      show OwnEnd _ _ _ _ _ _ _ (T50.setTop (mkF m 17 (fL2 p0 cv (4 : Int32) w4) []))
      refine go (fun _ k => by refine XS.iconst X50.here hx rfl (hb hby at_17) ?_; exact k) ?_
      refine go (fun _ k => by refine XS.istore X50.here hx rfl (hb hby at_18) rfl (l' := (fL3 p0 cv (4 : Int32) w4 (0 : Int32))) rfl ?_; exact k) ?_
      refine go (fun _ k => by refine XS.goto X50.here hx rfl (pc0 := 20) (pc' := 36) rfl (hb hby at_20) (by decide) (by decide) ?_; exact k) ?_
      refine go (fun _ k => by refine XS.iloadN X50.here hx rfl (hb hby at_36) rfl ?_; exact k) ?_
      show OwnEnd _ _ _ _ _ _ _ (T50.setTop (mkF m 37 (fL3 p0 cv (4 : Int32) w4 (0 : Int32)) [(.int (4 : Int32))]))
      obtain ⟨_, T52, L52, X52, hQ52, st52⟩ := callStat X50 hx hZ hown (hw _ (List.mem_of_getElem? (i := 8) rfl)) (hw _ (List.mem_of_getElem? (i := 9) rfl)) (hw _ (List.mem_of_getElem? (i := 3) rfl)) (hw _ (List.mem_of_getElem? (i := 10) rfl)) (by decide) (rm_adm4 l Z a0 hw [] h0 n0) (W := 0) (by decide) (by decide) eq50 (g := (mkF m 37 (fL3 p0 cv (4 : Int32) w4 (0 : Int32)) [(.int (4 : Int32))])) rfl (by rw [hml]; rfl) (argsL := [(.int (4 : Int32))]) (rest := []) rfl (lenOf pd__I_I rfl) rfl (by show 2 * 0 + _ ≤ _; exact Nat.le_of_eq rfl) (hb hby at_37) (by decide) (by decide)
      obtain ⟨rfl, Nq52, eq52⟩ := hQ52
      have N52 := Fr.app N50 Nq52
      refine go st52 ?_
      refine go (fun _ k => by refine XS.iload X52.here hx rfl (hb hby at_40) rfl ?_; exact k) ?_
      refine go (fun _ k => by refine XS.ishr X52.here hx rfl (hb hby at_42) rfl ?_; exact k) ?_
      show OwnEnd _ _ _ _ _ _ _ (T52.setTop (mkF m 43 (fL3 p0 cv (4 : Int32) w4 (0 : Int32)) [(.int ((2 : Int32) >>> ((0 : Int32) &&& 31)))]))
      rw [show ((2 : Int32) >>> ((0 : Int32) &&& 31)) = (2 : Int32) from by decide]
      refine go (fun _ k => by refine XS.iconst X52.here hx rfl (hb hby at_43) ?_; exact k) ?_
      show OwnEnd _ _ _ _ _ _ _ (T52.setTop (mkF m 44 (fL3 p0 cv (4 : Int32) w4 (0 : Int32)) [(.int (1 : Int32)), (.int (2 : Int32))]))
      refine go (fun _ k => by refine XS.iand X52.here hx rfl (hb hby at_44) rfl ?_; exact k) ?_
      show OwnEnd _ _ _ _ _ _ _ (T52.setTop (mkF m 45 (fL3 p0 cv (4 : Int32) w4 (0 : Int32)) [(.int ((2 : Int32) &&& (1 : Int32)))]))
      rw [show ((2 : Int32) &&& (1 : Int32)) = (0 : Int32) from by decide]
      show OwnEnd _ _ _ _ _ _ _ (T52.setTop (mkF m 45 (fL3 p0 cv (4 : Int32) w4 (0 : Int32)) [(.int (0 : Int32))]))
      refine go (fun _ k => by refine XS.ifYes X52.here hx rfl (pc0 := 45) (pc' := 52) rfl (hb hby at_45) rfl ((if0 _ _).trans (teq (by decide)).1) (by decide) (by decide) ?_; exact k) ?_
      refine go (fun _ k => by refine XS.iconst X52.here hx rfl (hb hby at_52) ?_; exact k) ?_
      refine go (fun _ k => by refine XS.istore X52.here hx rfl (hb hby at_53) rfl (l' := (fL4 p0 cv (4 : Int32) w4 (0 : Int32) (0 : Int32))) rfl ?_; exact k) ?_
      refine go (fun _ k => by refine XS.aloadN X52.here hx rfl (hb hby at_55) rfl rfl ?_; exact k) ?_
      show OwnEnd _ _ _ _ _ _ _ (T52.setTop (mkF m 56 (fL4 p0 cv (4 : Int32) w4 (0 : Int32) (0 : Int32)) [(.ref w4)]))
      refine go (fun _ k => by refine XS.iloadN X52.here hx rfl (hb hby at_56) rfl ?_; exact k) ?_
      show OwnEnd _ _ _ _ _ _ _ (T52.setTop (mkF m 57 (fL4 p0 cv (4 : Int32) w4 (0 : Int32) (0 : Int32)) [(.int cv), (.ref w4)]))
      obtain ⟨_, T53, L53, X53, hQ53, st53⟩ := callVirt X52 hx hZ hown (hw _ (List.mem_of_getElem? (i := 11) rfl)) (hw _ (List.mem_of_getElem? (i := 12) rfl)) (notFace_of_selects (args := #[]) (mvT hZ (hw _ (List.mem_of_getElem? (i := 14) rfl)))) (hw _ (List.mem_of_getElem? (i := 14) rfl)) (hw _ (List.mem_of_getElem? (i := 13) rfl)) (hw _ (List.mem_of_getElem? (i := 6) rfl)) (hw _ (List.mem_of_getElem? (i := 15) rfl)) (by decide) (rm_holds4 l Z a0 hw [] w4 cv h0 n0 FO4 EO4) (W := 0) (by decide) (by decide) eq52 EO4 (g := (mkF m 57 (fL4 p0 cv (4 : Int32) w4 (0 : Int32) (0 : Int32)) [(.int cv), (.ref w4)])) rfl (by rw [hml]; rfl) (argsL := [(.int cv)]) (rest := []) rfl (lenOf pd__I_Z rfl) rfl (by show 2 * 0 + _ ≤ _; exact Nat.le_of_eq rfl) (hb hby at_57) (by decide) (by decide)
      obtain ⟨rfl, Nq53, eq53⟩ := hQ53
      have N53 := Fr.app N52 Nq53
      refine go st53 ?_
      refine go (fun _ k => by refine XS.iload X53.here hx rfl (hb hby at_60) rfl ?_; exact k) ?_
      show OwnEnd _ _ _ _ _ _ _ (T53.setTop (mkF m 62 (fL4 p0 cv (4 : Int32) w4 (0 : Int32) (0 : Int32)) [(.int (0 : Int32)), (.int (if cv = 0 then (1 : Int32) else 0))]))
      by_cases hc62_54 : (if cv = 0 then (1 : Int32) else 0) = (0 : Int32)
      · refine go (fun _ k => by refine XS.icmpNo X53.here hx rfl (hb hby at_62) rfl (teq hc62_54).2 ?_; exact k) ?_
        show OwnEnd _ _ _ _ _ _ _ (T53.setTop (mkF m 65 (fL4 p0 cv (4 : Int32) w4 (0 : Int32) (0 : Int32)) []))
        refine go (fun _ k => by refine XS.iconst X53.here hx rfl (hb hby at_65) ?_; exact k) ?_
        refine go (fun _ k => by refine XS.goto X53.here hx rfl (pc0 := 66) (pc' := 70) rfl (hb hby at_66) (by decide) (by decide) ?_; exact k) ?_
        show OwnEnd _ _ _ _ _ _ _ (T53.setTop (mkF m 70 (fL4 p0 cv (4 : Int32) w4 (0 : Int32) (0 : Int32)) [(.int (1 : Int32))]))
        refine endN X53 hx hlk (t := .boolean) (by simp) Bd.returns (hb hby at_70) eq53 (by decide) (by decide) ?_
        exact ⟨rfl, N53⟩
      · refine go (fun _ k => by refine XS.icmpYes X53.here hx rfl (pc0 := 62) (pc' := 69) rfl (hb hby at_62) rfl (feq hc62_54).2 (by decide) (by decide) ?_; exact k) ?_
        show OwnEnd _ _ _ _ _ _ _ (T53.setTop (mkF m 69 (fL4 p0 cv (4 : Int32) w4 (0 : Int32) (0 : Int32)) []))
        refine go (fun _ k => by refine XS.iconst X53.here hx rfl (hb hby at_69) ?_; exact k) ?_
        show OwnEnd _ _ _ _ _ _ _ (T53.setTop (mkF m 70 (fL4 p0 cv (4 : Int32) w4 (0 : Int32) (0 : Int32)) [(.int (0 : Int32))]))
        refine endN X53 hx hlk (t := .boolean) (by simp) Bd.returns (hb hby at_70) eq53 (by decide) (by decide) ?_
        exact absurd (by rw [if_neg (by simp only [Int32.lt_iff_toInt_lt, ← Int32.toInt_inj, Int32.reduceToInt] at *; omega)]) hc62_54
    · refine go (fun _ k => by refine XS.ifYes X50.here hx rfl (pc0 := 14) (pc' := 23) rfl (hb hby at_14) rfl ((if0 _ _).trans (flt hc14_51).2.1) (by decide) (by decide) ?_; exact k) ?_
      show OwnEnd _ _ _ _ _ _ _ (T50.setTop (mkF m 23 (fL2 p0 cv (4 : Int32) w4) []))
      refine go (fun _ k => by refine XS.iloadN X50.here hx rfl (hb hby at_23) rfl ?_; exact k) ?_
      show OwnEnd _ _ _ _ _ _ _ (T50.setTop (mkF m 24 (fL2 p0 cv (4 : Int32) w4) [(.int cv)]))
      by_cases hc24_55 : cv = (0 : Int32)
      · refine go (fun _ k => by refine XS.ifNo X50.here hx rfl (hb hby at_24) rfl ((if0 _ _).trans (teq hc24_55).2) ?_; exact k) ?_
        show OwnEnd _ _ _ _ _ _ _ (T50.setTop (mkF m 27 (fL2 p0 cv (4 : Int32) w4) []))
        refine go (fun _ k => by refine XS.iconst X50.here hx rfl (hb hby at_27) ?_; exact k) ?_
        refine go (fun _ k => by refine XS.istore X50.here hx rfl (hb hby at_28) rfl (l' := (fL3 p0 cv (4 : Int32) w4 (1 : Int32))) rfl ?_; exact k) ?_
        refine go (fun _ k => by refine XS.goto X50.here hx rfl (pc0 := 30) (pc' := 36) rfl (hb hby at_30) (by decide) (by decide) ?_; exact k) ?_
        refine go (fun _ k => by refine XS.iloadN X50.here hx rfl (hb hby at_36) rfl ?_; exact k) ?_
        show OwnEnd _ _ _ _ _ _ _ (T50.setTop (mkF m 37 (fL3 p0 cv (4 : Int32) w4 (1 : Int32)) [(.int (4 : Int32))]))
        obtain ⟨_, T56, L56, X56, hQ56, st56⟩ := callStat X50 hx hZ hown (hw _ (List.mem_of_getElem? (i := 8) rfl)) (hw _ (List.mem_of_getElem? (i := 9) rfl)) (hw _ (List.mem_of_getElem? (i := 3) rfl)) (hw _ (List.mem_of_getElem? (i := 10) rfl)) (by decide) (rm_adm4 l Z a0 hw [] h0 n0) (W := 0) (by decide) (by decide) eq50 (g := (mkF m 37 (fL3 p0 cv (4 : Int32) w4 (1 : Int32)) [(.int (4 : Int32))])) rfl (by rw [hml]; rfl) (argsL := [(.int (4 : Int32))]) (rest := []) rfl (lenOf pd__I_I rfl) rfl (by show 2 * 0 + _ ≤ _; exact Nat.le_of_eq rfl) (hb hby at_37) (by decide) (by decide)
        obtain ⟨rfl, Nq56, eq56⟩ := hQ56
        have N56 := Fr.app N50 Nq56
        refine go st56 ?_
        refine go (fun _ k => by refine XS.iload X56.here hx rfl (hb hby at_40) rfl ?_; exact k) ?_
        refine go (fun _ k => by refine XS.ishr X56.here hx rfl (hb hby at_42) rfl ?_; exact k) ?_
        show OwnEnd _ _ _ _ _ _ _ (T56.setTop (mkF m 43 (fL3 p0 cv (4 : Int32) w4 (1 : Int32)) [(.int ((2 : Int32) >>> ((1 : Int32) &&& 31)))]))
        rw [show ((2 : Int32) >>> ((1 : Int32) &&& 31)) = (1 : Int32) from by decide]
        refine go (fun _ k => by refine XS.iconst X56.here hx rfl (hb hby at_43) ?_; exact k) ?_
        show OwnEnd _ _ _ _ _ _ _ (T56.setTop (mkF m 44 (fL3 p0 cv (4 : Int32) w4 (1 : Int32)) [(.int (1 : Int32)), (.int (1 : Int32))]))
        refine go (fun _ k => by refine XS.iand X56.here hx rfl (hb hby at_44) rfl ?_; exact k) ?_
        show OwnEnd _ _ _ _ _ _ _ (T56.setTop (mkF m 45 (fL3 p0 cv (4 : Int32) w4 (1 : Int32)) [(.int ((1 : Int32) &&& (1 : Int32)))]))
        rw [show ((1 : Int32) &&& (1 : Int32)) = (1 : Int32) from by decide]
        show OwnEnd _ _ _ _ _ _ _ (T56.setTop (mkF m 45 (fL3 p0 cv (4 : Int32) w4 (1 : Int32)) [(.int (1 : Int32))]))
        refine go (fun _ k => by refine XS.ifNo X56.here hx rfl (hb hby at_45) rfl ((if0 _ _).trans (feq (by decide)).1) ?_; exact k) ?_
        refine go (fun _ k => by refine XS.iconst X56.here hx rfl (hb hby at_48) ?_; exact k) ?_
        refine go (fun _ k => by refine XS.goto X56.here hx rfl (pc0 := 49) (pc' := 53) rfl (hb hby at_49) (by decide) (by decide) ?_; exact k) ?_
        refine go (fun _ k => by refine XS.istore X56.here hx rfl (hb hby at_53) rfl (l' := (fL4 p0 cv (4 : Int32) w4 (1 : Int32) (1 : Int32))) rfl ?_; exact k) ?_
        show OwnEnd _ _ _ _ _ _ _ (T56.setTop (mkF m 55 (fL4 p0 cv (4 : Int32) w4 (1 : Int32) (1 : Int32)) []))
        refine go (fun _ k => by refine XS.aloadN X56.here hx rfl (hb hby at_55) rfl rfl ?_; exact k) ?_
        refine go (fun _ k => by refine XS.iloadN X56.here hx rfl (hb hby at_56) rfl ?_; exact k) ?_
        show OwnEnd _ _ _ _ _ _ _ (T56.setTop (mkF m 57 (fL4 p0 cv (4 : Int32) w4 (1 : Int32) (1 : Int32)) [(.int cv), (.ref w4)]))
        obtain ⟨_, T57, L57, X57, hQ57, st57⟩ := callVirt X56 hx hZ hown (hw _ (List.mem_of_getElem? (i := 11) rfl)) (hw _ (List.mem_of_getElem? (i := 12) rfl)) (notFace_of_selects (args := #[]) (mvT hZ (hw _ (List.mem_of_getElem? (i := 14) rfl)))) (hw _ (List.mem_of_getElem? (i := 14) rfl)) (hw _ (List.mem_of_getElem? (i := 13) rfl)) (hw _ (List.mem_of_getElem? (i := 6) rfl)) (hw _ (List.mem_of_getElem? (i := 15) rfl)) (by decide) (rm_holds4 l Z a0 hw [] w4 cv h0 n0 FO4 EO4) (W := 0) (by decide) (by decide) eq56 EO4 (g := (mkF m 57 (fL4 p0 cv (4 : Int32) w4 (1 : Int32) (1 : Int32)) [(.int cv), (.ref w4)])) rfl (by rw [hml]; rfl) (argsL := [(.int cv)]) (rest := []) rfl (lenOf pd__I_Z rfl) rfl (by show 2 * 0 + _ ≤ _; exact Nat.le_of_eq rfl) (hb hby at_57) (by decide) (by decide)
        obtain ⟨rfl, Nq57, eq57⟩ := hQ57
        have N57 := Fr.app N56 Nq57
        refine go st57 ?_
        refine go (fun _ k => by refine XS.iload X57.here hx rfl (hb hby at_60) rfl ?_; exact k) ?_
        show OwnEnd _ _ _ _ _ _ _ (T57.setTop (mkF m 62 (fL4 p0 cv (4 : Int32) w4 (1 : Int32) (1 : Int32)) [(.int (1 : Int32)), (.int (if cv = 0 then (1 : Int32) else 0))]))
        by_cases hc62_58 : (if cv = 0 then (1 : Int32) else 0) = (1 : Int32)
        · refine go (fun _ k => by refine XS.icmpNo X57.here hx rfl (hb hby at_62) rfl (teq hc62_58).2 ?_; exact k) ?_
          show OwnEnd _ _ _ _ _ _ _ (T57.setTop (mkF m 65 (fL4 p0 cv (4 : Int32) w4 (1 : Int32) (1 : Int32)) []))
          refine go (fun _ k => by refine XS.iconst X57.here hx rfl (hb hby at_65) ?_; exact k) ?_
          refine go (fun _ k => by refine XS.goto X57.here hx rfl (pc0 := 66) (pc' := 70) rfl (hb hby at_66) (by decide) (by decide) ?_; exact k) ?_
          show OwnEnd _ _ _ _ _ _ _ (T57.setTop (mkF m 70 (fL4 p0 cv (4 : Int32) w4 (1 : Int32) (1 : Int32)) [(.int (1 : Int32))]))
          refine endN X57 hx hlk (t := .boolean) (by simp) Bd.returns (hb hby at_70) eq57 (by decide) (by decide) ?_
          exact ⟨rfl, N57⟩
        · refine go (fun _ k => by refine XS.icmpYes X57.here hx rfl (pc0 := 62) (pc' := 69) rfl (hb hby at_62) rfl (feq hc62_58).2 (by decide) (by decide) ?_; exact k) ?_
          show OwnEnd _ _ _ _ _ _ _ (T57.setTop (mkF m 69 (fL4 p0 cv (4 : Int32) w4 (1 : Int32) (1 : Int32)) []))
          refine go (fun _ k => by refine XS.iconst X57.here hx rfl (hb hby at_69) ?_; exact k) ?_
          show OwnEnd _ _ _ _ _ _ _ (T57.setTop (mkF m 70 (fL4 p0 cv (4 : Int32) w4 (1 : Int32) (1 : Int32)) [(.int (0 : Int32))]))
          refine endN X57 hx hlk (t := .boolean) (by simp) Bd.returns (hb hby at_70) eq57 (by decide) (by decide) ?_
          exact absurd (by rw [if_pos (by simp only [Int32.lt_iff_toInt_lt, ← Int32.toInt_inj, Int32.reduceToInt] at *; omega)]) hc62_58
      · refine go (fun _ k => by refine XS.ifYes X50.here hx rfl (pc0 := 24) (pc' := 33) rfl (hb hby at_24) rfl ((if0 _ _).trans (feq hc24_55).2) (by decide) (by decide) ?_; exact k) ?_
        show OwnEnd _ _ _ _ _ _ _ (T50.setTop (mkF m 33 (fL2 p0 cv (4 : Int32) w4) []))
        refine go (fun _ k => by refine XS.iconst X50.here hx rfl (hb hby at_33) ?_; exact k) ?_
        refine go (fun _ k => by refine XS.istore X50.here hx rfl (hb hby at_34) rfl (l' := (fL3 p0 cv (4 : Int32) w4 (2 : Int32))) rfl ?_; exact k) ?_
        refine go (fun _ k => by refine XS.iloadN X50.here hx rfl (hb hby at_36) rfl ?_; exact k) ?_
        show OwnEnd _ _ _ _ _ _ _ (T50.setTop (mkF m 37 (fL3 p0 cv (4 : Int32) w4 (2 : Int32)) [(.int (4 : Int32))]))
        obtain ⟨_, T59, L59, X59, hQ59, st59⟩ := callStat X50 hx hZ hown (hw _ (List.mem_of_getElem? (i := 8) rfl)) (hw _ (List.mem_of_getElem? (i := 9) rfl)) (hw _ (List.mem_of_getElem? (i := 3) rfl)) (hw _ (List.mem_of_getElem? (i := 10) rfl)) (by decide) (rm_adm4 l Z a0 hw [] h0 n0) (W := 0) (by decide) (by decide) eq50 (g := (mkF m 37 (fL3 p0 cv (4 : Int32) w4 (2 : Int32)) [(.int (4 : Int32))])) rfl (by rw [hml]; rfl) (argsL := [(.int (4 : Int32))]) (rest := []) rfl (lenOf pd__I_I rfl) rfl (by show 2 * 0 + _ ≤ _; exact Nat.le_of_eq rfl) (hb hby at_37) (by decide) (by decide)
        obtain ⟨rfl, Nq59, eq59⟩ := hQ59
        have N59 := Fr.app N50 Nq59
        refine go st59 ?_
        refine go (fun _ k => by refine XS.iload X59.here hx rfl (hb hby at_40) rfl ?_; exact k) ?_
        refine go (fun _ k => by refine XS.ishr X59.here hx rfl (hb hby at_42) rfl ?_; exact k) ?_
        show OwnEnd _ _ _ _ _ _ _ (T59.setTop (mkF m 43 (fL3 p0 cv (4 : Int32) w4 (2 : Int32)) [(.int ((2 : Int32) >>> ((2 : Int32) &&& 31)))]))
        rw [show ((2 : Int32) >>> ((2 : Int32) &&& 31)) = (0 : Int32) from by decide]
        refine go (fun _ k => by refine XS.iconst X59.here hx rfl (hb hby at_43) ?_; exact k) ?_
        show OwnEnd _ _ _ _ _ _ _ (T59.setTop (mkF m 44 (fL3 p0 cv (4 : Int32) w4 (2 : Int32)) [(.int (1 : Int32)), (.int (0 : Int32))]))
        refine go (fun _ k => by refine XS.iand X59.here hx rfl (hb hby at_44) rfl ?_; exact k) ?_
        show OwnEnd _ _ _ _ _ _ _ (T59.setTop (mkF m 45 (fL3 p0 cv (4 : Int32) w4 (2 : Int32)) [(.int ((0 : Int32) &&& (1 : Int32)))]))
        rw [show ((0 : Int32) &&& (1 : Int32)) = (0 : Int32) from by decide]
        show OwnEnd _ _ _ _ _ _ _ (T59.setTop (mkF m 45 (fL3 p0 cv (4 : Int32) w4 (2 : Int32)) [(.int (0 : Int32))]))
        refine go (fun _ k => by refine XS.ifYes X59.here hx rfl (pc0 := 45) (pc' := 52) rfl (hb hby at_45) rfl ((if0 _ _).trans (teq (by decide)).1) (by decide) (by decide) ?_; exact k) ?_
        refine go (fun _ k => by refine XS.iconst X59.here hx rfl (hb hby at_52) ?_; exact k) ?_
        refine go (fun _ k => by refine XS.istore X59.here hx rfl (hb hby at_53) rfl (l' := (fL4 p0 cv (4 : Int32) w4 (2 : Int32) (0 : Int32))) rfl ?_; exact k) ?_
        refine go (fun _ k => by refine XS.aloadN X59.here hx rfl (hb hby at_55) rfl rfl ?_; exact k) ?_
        show OwnEnd _ _ _ _ _ _ _ (T59.setTop (mkF m 56 (fL4 p0 cv (4 : Int32) w4 (2 : Int32) (0 : Int32)) [(.ref w4)]))
        refine go (fun _ k => by refine XS.iloadN X59.here hx rfl (hb hby at_56) rfl ?_; exact k) ?_
        show OwnEnd _ _ _ _ _ _ _ (T59.setTop (mkF m 57 (fL4 p0 cv (4 : Int32) w4 (2 : Int32) (0 : Int32)) [(.int cv), (.ref w4)]))
        obtain ⟨_, T60, L60, X60, hQ60, st60⟩ := callVirt X59 hx hZ hown (hw _ (List.mem_of_getElem? (i := 11) rfl)) (hw _ (List.mem_of_getElem? (i := 12) rfl)) (notFace_of_selects (args := #[]) (mvT hZ (hw _ (List.mem_of_getElem? (i := 14) rfl)))) (hw _ (List.mem_of_getElem? (i := 14) rfl)) (hw _ (List.mem_of_getElem? (i := 13) rfl)) (hw _ (List.mem_of_getElem? (i := 6) rfl)) (hw _ (List.mem_of_getElem? (i := 15) rfl)) (by decide) (rm_holds4 l Z a0 hw [] w4 cv h0 n0 FO4 EO4) (W := 0) (by decide) (by decide) eq59 EO4 (g := (mkF m 57 (fL4 p0 cv (4 : Int32) w4 (2 : Int32) (0 : Int32)) [(.int cv), (.ref w4)])) rfl (by rw [hml]; rfl) (argsL := [(.int cv)]) (rest := []) rfl (lenOf pd__I_Z rfl) rfl (by show 2 * 0 + _ ≤ _; exact Nat.le_of_eq rfl) (hb hby at_57) (by decide) (by decide)
        obtain ⟨rfl, Nq60, eq60⟩ := hQ60
        have N60 := Fr.app N59 Nq60
        refine go st60 ?_
        refine go (fun _ k => by refine XS.iload X60.here hx rfl (hb hby at_60) rfl ?_; exact k) ?_
        show OwnEnd _ _ _ _ _ _ _ (T60.setTop (mkF m 62 (fL4 p0 cv (4 : Int32) w4 (2 : Int32) (0 : Int32)) [(.int (0 : Int32)), (.int (if cv = 0 then (1 : Int32) else 0))]))
        by_cases hc62_61 : (if cv = 0 then (1 : Int32) else 0) = (0 : Int32)
        · refine go (fun _ k => by refine XS.icmpNo X60.here hx rfl (hb hby at_62) rfl (teq hc62_61).2 ?_; exact k) ?_
          show OwnEnd _ _ _ _ _ _ _ (T60.setTop (mkF m 65 (fL4 p0 cv (4 : Int32) w4 (2 : Int32) (0 : Int32)) []))
          refine go (fun _ k => by refine XS.iconst X60.here hx rfl (hb hby at_65) ?_; exact k) ?_
          refine go (fun _ k => by refine XS.goto X60.here hx rfl (pc0 := 66) (pc' := 70) rfl (hb hby at_66) (by decide) (by decide) ?_; exact k) ?_
          show OwnEnd _ _ _ _ _ _ _ (T60.setTop (mkF m 70 (fL4 p0 cv (4 : Int32) w4 (2 : Int32) (0 : Int32)) [(.int (1 : Int32))]))
          refine endN X60 hx hlk (t := .boolean) (by simp) Bd.returns (hb hby at_70) eq60 (by decide) (by decide) ?_
          exact ⟨rfl, N60⟩
        · refine go (fun _ k => by refine XS.icmpYes X60.here hx rfl (pc0 := 62) (pc' := 69) rfl (hb hby at_62) rfl (feq hc62_61).2 (by decide) (by decide) ?_; exact k) ?_
          show OwnEnd _ _ _ _ _ _ _ (T60.setTop (mkF m 69 (fL4 p0 cv (4 : Int32) w4 (2 : Int32) (0 : Int32)) []))
          refine go (fun _ k => by refine XS.iconst X60.here hx rfl (hb hby at_69) ?_; exact k) ?_
          show OwnEnd _ _ _ _ _ _ _ (T60.setTop (mkF m 70 (fL4 p0 cv (4 : Int32) w4 (2 : Int32) (0 : Int32)) [(.int (0 : Int32))]))
          refine endN X60 hx hlk (t := .boolean) (by simp) Bd.returns (hb hby at_70) eq60 (by decide) (by decide) ?_
          exact absurd (by rw [if_neg (by simp only [Int32.lt_iff_toInt_lt, ← Int32.toInt_inj, Int32.reduceToInt] at *; omega)]) hc62_61
  · refine go (fun _ k => by refine XS.iloadN X0.here hx rfl (hb hby at_8) rfl ?_; exact k) ?_
    show OwnEnd _ _ _ _ _ _ _ (s₁.setTop (mkF m 9 (fL1 p0 cv (5 : Int32)) [(.int (5 : Int32))]))
    obtain ⟨_, T62, L62, X62, hQ62, st62⟩ := callStat X0 hx hZ hown (hw _ (List.mem_of_getElem? (i := 1) rfl)) (hw _ (List.mem_of_getElem? (i := 2) rfl)) (hw _ (List.mem_of_getElem? (i := 3) rfl)) (hw _ (List.mem_of_getElem? (i := 4) rfl)) (by decide) (rm_pick5 l Z a0 hw [] w5 h0 n0 SS5) (W := 0) (by decide) (by decide) e0 (g := (mkF m 9 (fL1 p0 cv (5 : Int32)) [(.int (5 : Int32))])) rfl (by rw [hml]; rfl) (argsL := [(.int (5 : Int32))]) (rest := []) rfl (lenOf pd__I_Lcom_example_minder_minder_model_Comparison_ rfl) rfl (by show 2 * 0 + _ ≤ _; exact Nat.le_of_eq rfl) (hb hby at_9) (by decide) (by decide)
    obtain ⟨rfl, Nq62, eq62⟩ := hQ62
    have N62 := Fr.app N0 Nq62
    refine go st62 ?_
    refine go (fun _ k => by refine XS.astoreN X62.here hx rfl (hb hby at_12) rfl rfl (l' := (fL2 p0 cv (5 : Int32) w5)) rfl ?_; exact k) ?_
    refine go (fun _ k => by refine XS.iloadN X62.here hx rfl (hb hby at_13) rfl ?_; exact k) ?_
    show OwnEnd _ _ _ _ _ _ _ (T62.setTop (mkF m 14 (fL2 p0 cv (5 : Int32) w5) [(.int cv)]))
    by_cases hc14_63 : cv < (0 : Int32)
    · refine go (fun _ k => by refine XS.ifNo X62.here hx rfl (hb hby at_14) rfl ((if0 _ _).trans (tlt hc14_63).2.1) ?_; exact k) ?_
      show OwnEnd _ _ _ _ _ _ _ (T62.setTop (mkF m 17 (fL2 p0 cv (5 : Int32) w5) []))
      refine go (fun _ k => by refine XS.iconst X62.here hx rfl (hb hby at_17) ?_; exact k) ?_
      refine go (fun _ k => by refine XS.istore X62.here hx rfl (hb hby at_18) rfl (l' := (fL3 p0 cv (5 : Int32) w5 (0 : Int32))) rfl ?_; exact k) ?_
      refine go (fun _ k => by refine XS.goto X62.here hx rfl (pc0 := 20) (pc' := 36) rfl (hb hby at_20) (by decide) (by decide) ?_; exact k) ?_
      refine go (fun _ k => by refine XS.iloadN X62.here hx rfl (hb hby at_36) rfl ?_; exact k) ?_
      show OwnEnd _ _ _ _ _ _ _ (T62.setTop (mkF m 37 (fL3 p0 cv (5 : Int32) w5 (0 : Int32)) [(.int (5 : Int32))]))
      obtain ⟨_, T64, L64, X64, hQ64, st64⟩ := callStat X62 hx hZ hown (hw _ (List.mem_of_getElem? (i := 8) rfl)) (hw _ (List.mem_of_getElem? (i := 9) rfl)) (hw _ (List.mem_of_getElem? (i := 3) rfl)) (hw _ (List.mem_of_getElem? (i := 10) rfl)) (by decide) (rm_adm5 l Z a0 hw [] h0 n0) (W := 0) (by decide) (by decide) eq62 (g := (mkF m 37 (fL3 p0 cv (5 : Int32) w5 (0 : Int32)) [(.int (5 : Int32))])) rfl (by rw [hml]; rfl) (argsL := [(.int (5 : Int32))]) (rest := []) rfl (lenOf pd__I_I rfl) rfl (by show 2 * 0 + _ ≤ _; exact Nat.le_of_eq rfl) (hb hby at_37) (by decide) (by decide)
      obtain ⟨rfl, Nq64, eq64⟩ := hQ64
      have N64 := Fr.app N62 Nq64
      refine go st64 ?_
      refine go (fun _ k => by refine XS.iload X64.here hx rfl (hb hby at_40) rfl ?_; exact k) ?_
      refine go (fun _ k => by refine XS.ishr X64.here hx rfl (hb hby at_42) rfl ?_; exact k) ?_
      show OwnEnd _ _ _ _ _ _ _ (T64.setTop (mkF m 43 (fL3 p0 cv (5 : Int32) w5 (0 : Int32)) [(.int ((5 : Int32) >>> ((0 : Int32) &&& 31)))]))
      rw [show ((5 : Int32) >>> ((0 : Int32) &&& 31)) = (5 : Int32) from by decide]
      refine go (fun _ k => by refine XS.iconst X64.here hx rfl (hb hby at_43) ?_; exact k) ?_
      show OwnEnd _ _ _ _ _ _ _ (T64.setTop (mkF m 44 (fL3 p0 cv (5 : Int32) w5 (0 : Int32)) [(.int (1 : Int32)), (.int (5 : Int32))]))
      refine go (fun _ k => by refine XS.iand X64.here hx rfl (hb hby at_44) rfl ?_; exact k) ?_
      show OwnEnd _ _ _ _ _ _ _ (T64.setTop (mkF m 45 (fL3 p0 cv (5 : Int32) w5 (0 : Int32)) [(.int ((5 : Int32) &&& (1 : Int32)))]))
      rw [show ((5 : Int32) &&& (1 : Int32)) = (1 : Int32) from by decide]
      show OwnEnd _ _ _ _ _ _ _ (T64.setTop (mkF m 45 (fL3 p0 cv (5 : Int32) w5 (0 : Int32)) [(.int (1 : Int32))]))
      refine go (fun _ k => by refine XS.ifNo X64.here hx rfl (hb hby at_45) rfl ((if0 _ _).trans (feq (by decide)).1) ?_; exact k) ?_
      refine go (fun _ k => by refine XS.iconst X64.here hx rfl (hb hby at_48) ?_; exact k) ?_
      refine go (fun _ k => by refine XS.goto X64.here hx rfl (pc0 := 49) (pc' := 53) rfl (hb hby at_49) (by decide) (by decide) ?_; exact k) ?_
      refine go (fun _ k => by refine XS.istore X64.here hx rfl (hb hby at_53) rfl (l' := (fL4 p0 cv (5 : Int32) w5 (0 : Int32) (1 : Int32))) rfl ?_; exact k) ?_
      show OwnEnd _ _ _ _ _ _ _ (T64.setTop (mkF m 55 (fL4 p0 cv (5 : Int32) w5 (0 : Int32) (1 : Int32)) []))
      refine go (fun _ k => by refine XS.aloadN X64.here hx rfl (hb hby at_55) rfl rfl ?_; exact k) ?_
      refine go (fun _ k => by refine XS.iloadN X64.here hx rfl (hb hby at_56) rfl ?_; exact k) ?_
      show OwnEnd _ _ _ _ _ _ _ (T64.setTop (mkF m 57 (fL4 p0 cv (5 : Int32) w5 (0 : Int32) (1 : Int32)) [(.int cv), (.ref w5)]))
      obtain ⟨_, T65, L65, X65, hQ65, st65⟩ := callVirt X64 hx hZ hown (hw _ (List.mem_of_getElem? (i := 11) rfl)) (hw _ (List.mem_of_getElem? (i := 12) rfl)) (notFace_of_selects (args := #[]) (mvT hZ (hw _ (List.mem_of_getElem? (i := 14) rfl)))) (hw _ (List.mem_of_getElem? (i := 14) rfl)) (hw _ (List.mem_of_getElem? (i := 13) rfl)) (hw _ (List.mem_of_getElem? (i := 6) rfl)) (hw _ (List.mem_of_getElem? (i := 15) rfl)) (by decide) (rm_holds5 l Z a0 hw [] w5 cv h0 n0 FO5 EO5) (W := 0) (by decide) (by decide) eq64 EO5 (g := (mkF m 57 (fL4 p0 cv (5 : Int32) w5 (0 : Int32) (1 : Int32)) [(.int cv), (.ref w5)])) rfl (by rw [hml]; rfl) (argsL := [(.int cv)]) (rest := []) rfl (lenOf pd__I_Z rfl) rfl (by show 2 * 0 + _ ≤ _; exact Nat.le_of_eq rfl) (hb hby at_57) (by decide) (by decide)
      obtain ⟨rfl, Nq65, eq65⟩ := hQ65
      have N65 := Fr.app N64 Nq65
      refine go st65 ?_
      refine go (fun _ k => by refine XS.iload X65.here hx rfl (hb hby at_60) rfl ?_; exact k) ?_
      show OwnEnd _ _ _ _ _ _ _ (T65.setTop (mkF m 62 (fL4 p0 cv (5 : Int32) w5 (0 : Int32) (1 : Int32)) [(.int (1 : Int32)), (.int (if ¬ cv = 0 then (1 : Int32) else 0))]))
      by_cases hc62_66 : (if ¬ cv = 0 then (1 : Int32) else 0) = (1 : Int32)
      · refine go (fun _ k => by refine XS.icmpNo X65.here hx rfl (hb hby at_62) rfl (teq hc62_66).2 ?_; exact k) ?_
        show OwnEnd _ _ _ _ _ _ _ (T65.setTop (mkF m 65 (fL4 p0 cv (5 : Int32) w5 (0 : Int32) (1 : Int32)) []))
        refine go (fun _ k => by refine XS.iconst X65.here hx rfl (hb hby at_65) ?_; exact k) ?_
        refine go (fun _ k => by refine XS.goto X65.here hx rfl (pc0 := 66) (pc' := 70) rfl (hb hby at_66) (by decide) (by decide) ?_; exact k) ?_
        show OwnEnd _ _ _ _ _ _ _ (T65.setTop (mkF m 70 (fL4 p0 cv (5 : Int32) w5 (0 : Int32) (1 : Int32)) [(.int (1 : Int32))]))
        refine endN X65 hx hlk (t := .boolean) (by simp) Bd.returns (hb hby at_70) eq65 (by decide) (by decide) ?_
        exact ⟨rfl, N65⟩
      · refine go (fun _ k => by refine XS.icmpYes X65.here hx rfl (pc0 := 62) (pc' := 69) rfl (hb hby at_62) rfl (feq hc62_66).2 (by decide) (by decide) ?_; exact k) ?_
        show OwnEnd _ _ _ _ _ _ _ (T65.setTop (mkF m 69 (fL4 p0 cv (5 : Int32) w5 (0 : Int32) (1 : Int32)) []))
        refine go (fun _ k => by refine XS.iconst X65.here hx rfl (hb hby at_69) ?_; exact k) ?_
        show OwnEnd _ _ _ _ _ _ _ (T65.setTop (mkF m 70 (fL4 p0 cv (5 : Int32) w5 (0 : Int32) (1 : Int32)) [(.int (0 : Int32))]))
        refine endN X65 hx hlk (t := .boolean) (by simp) Bd.returns (hb hby at_70) eq65 (by decide) (by decide) ?_
        exact absurd (by rw [if_pos (by simp only [Int32.lt_iff_toInt_lt, ← Int32.toInt_inj, Int32.reduceToInt] at *; omega)]) hc62_66
    · refine go (fun _ k => by refine XS.ifYes X62.here hx rfl (pc0 := 14) (pc' := 23) rfl (hb hby at_14) rfl ((if0 _ _).trans (flt hc14_63).2.1) (by decide) (by decide) ?_; exact k) ?_
      show OwnEnd _ _ _ _ _ _ _ (T62.setTop (mkF m 23 (fL2 p0 cv (5 : Int32) w5) []))
      refine go (fun _ k => by refine XS.iloadN X62.here hx rfl (hb hby at_23) rfl ?_; exact k) ?_
      show OwnEnd _ _ _ _ _ _ _ (T62.setTop (mkF m 24 (fL2 p0 cv (5 : Int32) w5) [(.int cv)]))
      by_cases hc24_67 : cv = (0 : Int32)
      · refine go (fun _ k => by refine XS.ifNo X62.here hx rfl (hb hby at_24) rfl ((if0 _ _).trans (teq hc24_67).2) ?_; exact k) ?_
        show OwnEnd _ _ _ _ _ _ _ (T62.setTop (mkF m 27 (fL2 p0 cv (5 : Int32) w5) []))
        refine go (fun _ k => by refine XS.iconst X62.here hx rfl (hb hby at_27) ?_; exact k) ?_
        refine go (fun _ k => by refine XS.istore X62.here hx rfl (hb hby at_28) rfl (l' := (fL3 p0 cv (5 : Int32) w5 (1 : Int32))) rfl ?_; exact k) ?_
        refine go (fun _ k => by refine XS.goto X62.here hx rfl (pc0 := 30) (pc' := 36) rfl (hb hby at_30) (by decide) (by decide) ?_; exact k) ?_
        refine go (fun _ k => by refine XS.iloadN X62.here hx rfl (hb hby at_36) rfl ?_; exact k) ?_
        show OwnEnd _ _ _ _ _ _ _ (T62.setTop (mkF m 37 (fL3 p0 cv (5 : Int32) w5 (1 : Int32)) [(.int (5 : Int32))]))
        obtain ⟨_, T68, L68, X68, hQ68, st68⟩ := callStat X62 hx hZ hown (hw _ (List.mem_of_getElem? (i := 8) rfl)) (hw _ (List.mem_of_getElem? (i := 9) rfl)) (hw _ (List.mem_of_getElem? (i := 3) rfl)) (hw _ (List.mem_of_getElem? (i := 10) rfl)) (by decide) (rm_adm5 l Z a0 hw [] h0 n0) (W := 0) (by decide) (by decide) eq62 (g := (mkF m 37 (fL3 p0 cv (5 : Int32) w5 (1 : Int32)) [(.int (5 : Int32))])) rfl (by rw [hml]; rfl) (argsL := [(.int (5 : Int32))]) (rest := []) rfl (lenOf pd__I_I rfl) rfl (by show 2 * 0 + _ ≤ _; exact Nat.le_of_eq rfl) (hb hby at_37) (by decide) (by decide)
        obtain ⟨rfl, Nq68, eq68⟩ := hQ68
        have N68 := Fr.app N62 Nq68
        refine go st68 ?_
        refine go (fun _ k => by refine XS.iload X68.here hx rfl (hb hby at_40) rfl ?_; exact k) ?_
        refine go (fun _ k => by refine XS.ishr X68.here hx rfl (hb hby at_42) rfl ?_; exact k) ?_
        show OwnEnd _ _ _ _ _ _ _ (T68.setTop (mkF m 43 (fL3 p0 cv (5 : Int32) w5 (1 : Int32)) [(.int ((5 : Int32) >>> ((1 : Int32) &&& 31)))]))
        rw [show ((5 : Int32) >>> ((1 : Int32) &&& 31)) = (2 : Int32) from by decide]
        refine go (fun _ k => by refine XS.iconst X68.here hx rfl (hb hby at_43) ?_; exact k) ?_
        show OwnEnd _ _ _ _ _ _ _ (T68.setTop (mkF m 44 (fL3 p0 cv (5 : Int32) w5 (1 : Int32)) [(.int (1 : Int32)), (.int (2 : Int32))]))
        refine go (fun _ k => by refine XS.iand X68.here hx rfl (hb hby at_44) rfl ?_; exact k) ?_
        show OwnEnd _ _ _ _ _ _ _ (T68.setTop (mkF m 45 (fL3 p0 cv (5 : Int32) w5 (1 : Int32)) [(.int ((2 : Int32) &&& (1 : Int32)))]))
        rw [show ((2 : Int32) &&& (1 : Int32)) = (0 : Int32) from by decide]
        show OwnEnd _ _ _ _ _ _ _ (T68.setTop (mkF m 45 (fL3 p0 cv (5 : Int32) w5 (1 : Int32)) [(.int (0 : Int32))]))
        refine go (fun _ k => by refine XS.ifYes X68.here hx rfl (pc0 := 45) (pc' := 52) rfl (hb hby at_45) rfl ((if0 _ _).trans (teq (by decide)).1) (by decide) (by decide) ?_; exact k) ?_
        refine go (fun _ k => by refine XS.iconst X68.here hx rfl (hb hby at_52) ?_; exact k) ?_
        refine go (fun _ k => by refine XS.istore X68.here hx rfl (hb hby at_53) rfl (l' := (fL4 p0 cv (5 : Int32) w5 (1 : Int32) (0 : Int32))) rfl ?_; exact k) ?_
        refine go (fun _ k => by refine XS.aloadN X68.here hx rfl (hb hby at_55) rfl rfl ?_; exact k) ?_
        show OwnEnd _ _ _ _ _ _ _ (T68.setTop (mkF m 56 (fL4 p0 cv (5 : Int32) w5 (1 : Int32) (0 : Int32)) [(.ref w5)]))
        refine go (fun _ k => by refine XS.iloadN X68.here hx rfl (hb hby at_56) rfl ?_; exact k) ?_
        show OwnEnd _ _ _ _ _ _ _ (T68.setTop (mkF m 57 (fL4 p0 cv (5 : Int32) w5 (1 : Int32) (0 : Int32)) [(.int cv), (.ref w5)]))
        obtain ⟨_, T69, L69, X69, hQ69, st69⟩ := callVirt X68 hx hZ hown (hw _ (List.mem_of_getElem? (i := 11) rfl)) (hw _ (List.mem_of_getElem? (i := 12) rfl)) (notFace_of_selects (args := #[]) (mvT hZ (hw _ (List.mem_of_getElem? (i := 14) rfl)))) (hw _ (List.mem_of_getElem? (i := 14) rfl)) (hw _ (List.mem_of_getElem? (i := 13) rfl)) (hw _ (List.mem_of_getElem? (i := 6) rfl)) (hw _ (List.mem_of_getElem? (i := 15) rfl)) (by decide) (rm_holds5 l Z a0 hw [] w5 cv h0 n0 FO5 EO5) (W := 0) (by decide) (by decide) eq68 EO5 (g := (mkF m 57 (fL4 p0 cv (5 : Int32) w5 (1 : Int32) (0 : Int32)) [(.int cv), (.ref w5)])) rfl (by rw [hml]; rfl) (argsL := [(.int cv)]) (rest := []) rfl (lenOf pd__I_Z rfl) rfl (by show 2 * 0 + _ ≤ _; exact Nat.le_of_eq rfl) (hb hby at_57) (by decide) (by decide)
        obtain ⟨rfl, Nq69, eq69⟩ := hQ69
        have N69 := Fr.app N68 Nq69
        refine go st69 ?_
        refine go (fun _ k => by refine XS.iload X69.here hx rfl (hb hby at_60) rfl ?_; exact k) ?_
        show OwnEnd _ _ _ _ _ _ _ (T69.setTop (mkF m 62 (fL4 p0 cv (5 : Int32) w5 (1 : Int32) (0 : Int32)) [(.int (0 : Int32)), (.int (if ¬ cv = 0 then (1 : Int32) else 0))]))
        by_cases hc62_70 : (if ¬ cv = 0 then (1 : Int32) else 0) = (0 : Int32)
        · refine go (fun _ k => by refine XS.icmpNo X69.here hx rfl (hb hby at_62) rfl (teq hc62_70).2 ?_; exact k) ?_
          show OwnEnd _ _ _ _ _ _ _ (T69.setTop (mkF m 65 (fL4 p0 cv (5 : Int32) w5 (1 : Int32) (0 : Int32)) []))
          refine go (fun _ k => by refine XS.iconst X69.here hx rfl (hb hby at_65) ?_; exact k) ?_
          refine go (fun _ k => by refine XS.goto X69.here hx rfl (pc0 := 66) (pc' := 70) rfl (hb hby at_66) (by decide) (by decide) ?_; exact k) ?_
          show OwnEnd _ _ _ _ _ _ _ (T69.setTop (mkF m 70 (fL4 p0 cv (5 : Int32) w5 (1 : Int32) (0 : Int32)) [(.int (1 : Int32))]))
          refine endN X69 hx hlk (t := .boolean) (by simp) Bd.returns (hb hby at_70) eq69 (by decide) (by decide) ?_
          exact ⟨rfl, N69⟩
        · refine go (fun _ k => by refine XS.icmpYes X69.here hx rfl (pc0 := 62) (pc' := 69) rfl (hb hby at_62) rfl (feq hc62_70).2 (by decide) (by decide) ?_; exact k) ?_
          show OwnEnd _ _ _ _ _ _ _ (T69.setTop (mkF m 69 (fL4 p0 cv (5 : Int32) w5 (1 : Int32) (0 : Int32)) []))
          refine go (fun _ k => by refine XS.iconst X69.here hx rfl (hb hby at_69) ?_; exact k) ?_
          show OwnEnd _ _ _ _ _ _ _ (T69.setTop (mkF m 70 (fL4 p0 cv (5 : Int32) w5 (1 : Int32) (0 : Int32)) [(.int (0 : Int32))]))
          refine endN X69 hx hlk (t := .boolean) (by simp) Bd.returns (hb hby at_70) eq69 (by decide) (by decide) ?_
          exact absurd (by rw [if_neg (by simp only [Int32.lt_iff_toInt_lt, ← Int32.toInt_inj, Int32.reduceToInt] at *; omega)]) hc62_70
      · refine go (fun _ k => by refine XS.ifYes X62.here hx rfl (pc0 := 24) (pc' := 33) rfl (hb hby at_24) rfl ((if0 _ _).trans (feq hc24_67).2) (by decide) (by decide) ?_; exact k) ?_
        show OwnEnd _ _ _ _ _ _ _ (T62.setTop (mkF m 33 (fL2 p0 cv (5 : Int32) w5) []))
        refine go (fun _ k => by refine XS.iconst X62.here hx rfl (hb hby at_33) ?_; exact k) ?_
        refine go (fun _ k => by refine XS.istore X62.here hx rfl (hb hby at_34) rfl (l' := (fL3 p0 cv (5 : Int32) w5 (2 : Int32))) rfl ?_; exact k) ?_
        refine go (fun _ k => by refine XS.iloadN X62.here hx rfl (hb hby at_36) rfl ?_; exact k) ?_
        show OwnEnd _ _ _ _ _ _ _ (T62.setTop (mkF m 37 (fL3 p0 cv (5 : Int32) w5 (2 : Int32)) [(.int (5 : Int32))]))
        obtain ⟨_, T71, L71, X71, hQ71, st71⟩ := callStat X62 hx hZ hown (hw _ (List.mem_of_getElem? (i := 8) rfl)) (hw _ (List.mem_of_getElem? (i := 9) rfl)) (hw _ (List.mem_of_getElem? (i := 3) rfl)) (hw _ (List.mem_of_getElem? (i := 10) rfl)) (by decide) (rm_adm5 l Z a0 hw [] h0 n0) (W := 0) (by decide) (by decide) eq62 (g := (mkF m 37 (fL3 p0 cv (5 : Int32) w5 (2 : Int32)) [(.int (5 : Int32))])) rfl (by rw [hml]; rfl) (argsL := [(.int (5 : Int32))]) (rest := []) rfl (lenOf pd__I_I rfl) rfl (by show 2 * 0 + _ ≤ _; exact Nat.le_of_eq rfl) (hb hby at_37) (by decide) (by decide)
        obtain ⟨rfl, Nq71, eq71⟩ := hQ71
        have N71 := Fr.app N62 Nq71
        refine go st71 ?_
        refine go (fun _ k => by refine XS.iload X71.here hx rfl (hb hby at_40) rfl ?_; exact k) ?_
        refine go (fun _ k => by refine XS.ishr X71.here hx rfl (hb hby at_42) rfl ?_; exact k) ?_
        show OwnEnd _ _ _ _ _ _ _ (T71.setTop (mkF m 43 (fL3 p0 cv (5 : Int32) w5 (2 : Int32)) [(.int ((5 : Int32) >>> ((2 : Int32) &&& 31)))]))
        rw [show ((5 : Int32) >>> ((2 : Int32) &&& 31)) = (1 : Int32) from by decide]
        refine go (fun _ k => by refine XS.iconst X71.here hx rfl (hb hby at_43) ?_; exact k) ?_
        show OwnEnd _ _ _ _ _ _ _ (T71.setTop (mkF m 44 (fL3 p0 cv (5 : Int32) w5 (2 : Int32)) [(.int (1 : Int32)), (.int (1 : Int32))]))
        refine go (fun _ k => by refine XS.iand X71.here hx rfl (hb hby at_44) rfl ?_; exact k) ?_
        show OwnEnd _ _ _ _ _ _ _ (T71.setTop (mkF m 45 (fL3 p0 cv (5 : Int32) w5 (2 : Int32)) [(.int ((1 : Int32) &&& (1 : Int32)))]))
        rw [show ((1 : Int32) &&& (1 : Int32)) = (1 : Int32) from by decide]
        show OwnEnd _ _ _ _ _ _ _ (T71.setTop (mkF m 45 (fL3 p0 cv (5 : Int32) w5 (2 : Int32)) [(.int (1 : Int32))]))
        refine go (fun _ k => by refine XS.ifNo X71.here hx rfl (hb hby at_45) rfl ((if0 _ _).trans (feq (by decide)).1) ?_; exact k) ?_
        refine go (fun _ k => by refine XS.iconst X71.here hx rfl (hb hby at_48) ?_; exact k) ?_
        refine go (fun _ k => by refine XS.goto X71.here hx rfl (pc0 := 49) (pc' := 53) rfl (hb hby at_49) (by decide) (by decide) ?_; exact k) ?_
        refine go (fun _ k => by refine XS.istore X71.here hx rfl (hb hby at_53) rfl (l' := (fL4 p0 cv (5 : Int32) w5 (2 : Int32) (1 : Int32))) rfl ?_; exact k) ?_
        show OwnEnd _ _ _ _ _ _ _ (T71.setTop (mkF m 55 (fL4 p0 cv (5 : Int32) w5 (2 : Int32) (1 : Int32)) []))
        refine go (fun _ k => by refine XS.aloadN X71.here hx rfl (hb hby at_55) rfl rfl ?_; exact k) ?_
        refine go (fun _ k => by refine XS.iloadN X71.here hx rfl (hb hby at_56) rfl ?_; exact k) ?_
        show OwnEnd _ _ _ _ _ _ _ (T71.setTop (mkF m 57 (fL4 p0 cv (5 : Int32) w5 (2 : Int32) (1 : Int32)) [(.int cv), (.ref w5)]))
        obtain ⟨_, T72, L72, X72, hQ72, st72⟩ := callVirt X71 hx hZ hown (hw _ (List.mem_of_getElem? (i := 11) rfl)) (hw _ (List.mem_of_getElem? (i := 12) rfl)) (notFace_of_selects (args := #[]) (mvT hZ (hw _ (List.mem_of_getElem? (i := 14) rfl)))) (hw _ (List.mem_of_getElem? (i := 14) rfl)) (hw _ (List.mem_of_getElem? (i := 13) rfl)) (hw _ (List.mem_of_getElem? (i := 6) rfl)) (hw _ (List.mem_of_getElem? (i := 15) rfl)) (by decide) (rm_holds5 l Z a0 hw [] w5 cv h0 n0 FO5 EO5) (W := 0) (by decide) (by decide) eq71 EO5 (g := (mkF m 57 (fL4 p0 cv (5 : Int32) w5 (2 : Int32) (1 : Int32)) [(.int cv), (.ref w5)])) rfl (by rw [hml]; rfl) (argsL := [(.int cv)]) (rest := []) rfl (lenOf pd__I_Z rfl) rfl (by show 2 * 0 + _ ≤ _; exact Nat.le_of_eq rfl) (hb hby at_57) (by decide) (by decide)
        obtain ⟨rfl, Nq72, eq72⟩ := hQ72
        have N72 := Fr.app N71 Nq72
        refine go st72 ?_
        refine go (fun _ k => by refine XS.iload X72.here hx rfl (hb hby at_60) rfl ?_; exact k) ?_
        show OwnEnd _ _ _ _ _ _ _ (T72.setTop (mkF m 62 (fL4 p0 cv (5 : Int32) w5 (2 : Int32) (1 : Int32)) [(.int (1 : Int32)), (.int (if ¬ cv = 0 then (1 : Int32) else 0))]))
        by_cases hc62_73 : (if ¬ cv = 0 then (1 : Int32) else 0) = (1 : Int32)
        · refine go (fun _ k => by refine XS.icmpNo X72.here hx rfl (hb hby at_62) rfl (teq hc62_73).2 ?_; exact k) ?_
          show OwnEnd _ _ _ _ _ _ _ (T72.setTop (mkF m 65 (fL4 p0 cv (5 : Int32) w5 (2 : Int32) (1 : Int32)) []))
          refine go (fun _ k => by refine XS.iconst X72.here hx rfl (hb hby at_65) ?_; exact k) ?_
          refine go (fun _ k => by refine XS.goto X72.here hx rfl (pc0 := 66) (pc' := 70) rfl (hb hby at_66) (by decide) (by decide) ?_; exact k) ?_
          show OwnEnd _ _ _ _ _ _ _ (T72.setTop (mkF m 70 (fL4 p0 cv (5 : Int32) w5 (2 : Int32) (1 : Int32)) [(.int (1 : Int32))]))
          refine endN X72 hx hlk (t := .boolean) (by simp) Bd.returns (hb hby at_70) eq72 (by decide) (by decide) ?_
          exact ⟨rfl, N72⟩
        · refine go (fun _ k => by refine XS.icmpYes X72.here hx rfl (pc0 := 62) (pc' := 69) rfl (hb hby at_62) rfl (feq hc62_73).2 (by decide) (by decide) ?_; exact k) ?_
          show OwnEnd _ _ _ _ _ _ _ (T72.setTop (mkF m 69 (fL4 p0 cv (5 : Int32) w5 (2 : Int32) (1 : Int32)) []))
          refine go (fun _ k => by refine XS.iconst X72.here hx rfl (hb hby at_69) ?_; exact k) ?_
          show OwnEnd _ _ _ _ _ _ _ (T72.setTop (mkF m 70 (fL4 p0 cv (5 : Int32) w5 (2 : Int32) (1 : Int32)) [(.int (0 : Int32))]))
          refine endN X72 hx hlk (t := .boolean) (by simp) Bd.returns (hb hby at_70) eq72 (by decide) (by decide) ?_
          exact absurd (by rw [if_pos (by simp only [Int32.lt_iff_toInt_lt, ← Int32.toInt_inj, Int32.reduceToInt] at *; omega)]) hc62_73
set_option maxRecDepth 65536 in
set_option maxHeartbeats 40000000 in
theorem comes_1 {Post : Tables → Env → Array Value → State → Outcome → State → Prop} (hpost : ∀ tb e args s v u, (limb_1_1.after args s (.returned v) u = true ∧ limb_1_2.after args s (.returned v) u = true ∧ True) → FrameEnd s (.returned v) u (Jvm.fieldLocs frame_1_writes args s ++ Jvm.arrayLocs frame_1_arrays args s ++ Jvm.staticLocs frame_1_statics s) 0 0 → Post tb e args s (.returned v) u) :
    ArmFor flags0 classFile x code maxLocals ret World_1 tables_1 room_1 Calls_1 rest_1 Pre_1 Post := by
  intro l hfl _ _ p e ha hc hk s m args below hf hA hF happ hP
  obtain ⟨hcalls, hrest, hpre⟩ := hP
  obtain ⟨-, -, -, hnamed, -, -, -, hat⟩ := (Spec.applies_iff hf).mp happ
  obtain ⟨hg, hn⟩ := and_e (Cond.before_iff.mp (show (Jvm.Cond.and given_1 narrow_1).before args s = true from hpre))
  obtain ⟨gv1, gv2⟩ := and_e hg
  obtain ⟨gv3, gv4⟩ := and_e gv2
  obtain ⟨w0, w1, rfl⟩ : ∃ w0 w1 : Value, args = #[w0, w1] := by
    have hs : args.size = 2 := by simpa [Cond.value, given_1] using gv1
    obtain ⟨L⟩ := args
    match L, hs with
    | [w0, w1], _ => exact ⟨w0, w1, rfl⟩
  have hw := fun d (hd : d ∈ tables_1) => atoms_spec (ws := Jvm.Cond.code x code maxLocals ret :: tables_1) hat d (List.mem_cons_of_mem _ hd)
  have hfit : Fit s := fun {y c} hc i hi => by
    obtain ⟨ha, rfl⟩ := Array.getElem?_eq_some_iff.mp hc
    have q := List.all_eq_true.mp ((Array.all_eq_true_iff_forall_mem.mp hF) _ (Array.getElem_mem ha)) i (List.mem_range.mpr hi)
    simpa [Array.getElem?_eq_getElem hi] using q
  obtain ⟨i0, ei0⟩ := is_v gv3
  obtain rfl : w0 = (.int i0) := Option.some.inj ei0
  obtain ⟨i1, ei1⟩ := is_v gv4
  obtain rfl : w1 = (.int i1) := Option.some.inj ei1
  obtain ⟨nx0, hn0⟩ := and_e hn
  obtain ⟨no0, hm0⟩ := and_e hn0
  obtain ⟨w0, tw0⟩ : ∃ w, (Jvm.Term.static "com/example/minder/minder/model/Comparison" "LESS" "Lcom/example/minder/minder/model/Comparison;").eval _ s none [] s = some (.ref w) := exa_v nx0
  have EO0 := Exa.start tw0 nx0
  have SS0 := Sta.start tw0 (Or.inr ⟨hw _ (List.mem_of_getElem? (i := 6) rfl), hw _ (List.mem_of_getElem? (i := 7) rfl)⟩)
  have FO0 := own_fld tw0 no0
  obtain ⟨nx2, hn2⟩ := and_e hm0
  obtain ⟨no2, hm2⟩ := and_e hn2
  obtain ⟨w2, tw2⟩ : ∃ w, (Jvm.Term.static "com/example/minder/minder/model/Comparison" "GREATER" "Lcom/example/minder/minder/model/Comparison;").eval _ s none [] s = some (.ref w) := exa_v nx2
  have EO2 := Exa.start tw2 nx2
  have SS2 := Sta.start tw2 (Or.inr ⟨hw _ (List.mem_of_getElem? (i := 6) rfl), hw _ (List.mem_of_getElem? (i := 26) rfl)⟩)
  have FO2 := own_fld tw2 no2
  obtain ⟨nx4, hn4⟩ := and_e hm2
  obtain ⟨no4, hm4⟩ := and_e hn4
  obtain ⟨w4, tw4⟩ : ∃ w, (Jvm.Term.static "com/example/minder/minder/model/Comparison" "EQUAL" "Lcom/example/minder/minder/model/Comparison;").eval _ s none [] s = some (.ref w) := exa_v nx4
  have EO4 := Exa.start tw4 nx4
  have SS4 := Sta.start tw4 (Or.inr ⟨hw _ (List.mem_of_getElem? (i := 6) rfl), hw _ (List.mem_of_getElem? (i := 28) rfl)⟩)
  have FO4 := own_fld tw4 no4
  obtain ⟨nx1, hn1⟩ := and_e hm4
  obtain ⟨no1, hm1⟩ := and_e hn1
  obtain ⟨w1, tw1⟩ : ∃ w, (Jvm.Term.static "com/example/minder/minder/model/Comparison" "LESS_OR_EQUAL" "Lcom/example/minder/minder/model/Comparison;").eval _ s none [] s = some (.ref w) := exa_v nx1
  have EO1 := Exa.start tw1 nx1
  have SS1 := Sta.start tw1 (Or.inr ⟨hw _ (List.mem_of_getElem? (i := 6) rfl), hw _ (List.mem_of_getElem? (i := 30) rfl)⟩)
  have FO1 := own_fld tw1 no1
  obtain ⟨nx5, hn5⟩ := and_e hm1
  obtain ⟨no5, hm5⟩ := and_e hn5
  obtain ⟨w5, tw5⟩ : ∃ w, (Jvm.Term.static "com/example/minder/minder/model/Comparison" "NOT_EQUAL" "Lcom/example/minder/minder/model/Comparison;").eval _ s none [] s = some (.ref w) := exa_v nx5
  have EO5 := Exa.start tw5 nx5
  have SS5 := Sta.start tw5 (Or.inr ⟨hw _ (List.mem_of_getElem? (i := 6) rfl), hw _ (List.mem_of_getElem? (i := 32) rfl)⟩)
  have FO5 := own_fld tw5 no5
  obtain ⟨nx3, hn3⟩ := and_e hm5
  obtain ⟨w3, tw3⟩ : ∃ w, (Jvm.Term.static "com/example/minder/minder/model/Comparison" "GREATER_OR_EQUAL" "Lcom/example/minder/minder/model/Comparison;").eval _ s none [] s = some (.ref w) := exa_v nx3
  have EO3 := Exa.start tw3 nx3
  have SS3 := Sta.start tw3 (Or.inr ⟨hw _ (List.mem_of_getElem? (i := 6) rfl), hw _ (List.mem_of_getElem? (i := 34) rfl)⟩)
  have FO3 := own_fld tw3 hn3
  obtain ⟨n, o, h1, h2, h3, _, L, rfl, ⟨rfl, N⟩, hq⟩ := rm_law l s _ hw tables_1 i0 i1 w0 w1 w2 w3 w4 w5 s.heap s.heap.size SS0 FO0 EO0 SS1 FO1 EO1 SS2 FO2 EO2 SS3 FO3 EO3 SS4 FO4 EO4 SS5 FO5 EO5 p e ha hc hk s m _ below hf ((Spec.applies_iff_loose hf).mp happ).1 ⟨rfl, State.Warmed39.refl s, rfl⟩ trivial
  refine ⟨n, _, h1, h2, h3, hpost _ _ _ _ _ _ ⟨Cond.after_iff.mpr rfl, Cond.after_iff.mpr (eq_i res_at (Term.int_eval (1)) rfl), trivial⟩ ⟨hq.1, hq.2.1, (hq.2.2.sift fun y hy => Or.inr (N y hy)).mono (by decide) (by decide)⟩⟩
theorem main_1_1 : Claimed_1_1 := comes_1 fun _ _ _ _ _ _ h hF => ⟨h.1, hF⟩
theorem main_1_2 : Claimed_1_2 := comes_1 fun _ _ _ _ _ _ h hF => ⟨h.2.1, hF⟩
end Jvm.Pilot.@@N@@
namespace Jvm.Pilot.@@N@@
open Jvm Jvm.ClassFile Sem Op Lib Jvm.Free Jvm.Stand Jvm.Pilot.@@N@@.Jvm.D
/-! MADE BY PROGRAM (witnessworld.py) out of the Statement's table words and the real class files: 12 classes; the members and pool entries that the words name. The judged class is class 1, her method 3. -/
namespace start1
open Jvm.ClassFile
def u (s : String) : CpInfo := .utf8 (stringToUtf16 s)
/-- a pool by its gaps: so many unusable entries, then the entry; so many at the end -/
def gap : Nat → List CpInfo → List CpInfo
  | 0, r => r
  | n + 1, r => .unusable :: gap n r
def poolList (es : List (Nat × CpInfo)) (last : Nat) : List CpInfo := es.foldr (fun e r => gap e.1 (e.2 :: r)) (gap last [])
def pool (es : List (Nat × CpInfo)) (last : Nat) : Array CpInfo := ⟨poolList es last⟩
def fileOf (pool : Array CpInfo) (this : Nat) (attrs : Array Attribute := #[]) (ms : Array MethodInfo := #[]) (fl : Nat := 33) (sup : Nat := 0) (ifs : Array Nat := #[]) (fds : Array FieldInfo := #[]) : ClassFile where
  minorVersion := 0
  majorVersion := 65
  constantPool := pool
  accessFlags := fl
  thisClass := this
  superClass := sup
  interfaces := ifs
  fields := fds
  methods := ms
  attributes := attrs
def plain (name : String) (sup : Option ClassId) : Class where
  name := name
  kind := .ordinary
  loader := none
  accessFlags := 33
  super := sup
  interfaces := #[]
  cf := none
  fields := #[]
  methods := #[]
  instanceTypes := #[]
  staticTypes := #[]
  resolved := #[]
  callSites := []
  init := .initialized
  statics := none
  mirror := none

def pool0 : Array CpInfo := pool [(5, u "<init>"), (0, u "()V"), (1, .class_ 10), (1, u "java/lang/Object")] 113

def k0m0 : Method := { name := "<init>", desc := "()V", sig := { parameters := [], returnType := none }, accessFlags := 1, code := none }
/-- java/lang/Object -/
def k0 : Class := { plain "java/lang/Object" none with
  accessFlags := 33
  interfaces := #[]
  cf := some (fileOf pool0 8 #[] #[{ accessFlags := 1, nameIndex := 5, descriptorIndex := 6, attributes := #[] }] 33 0 #[] #[])
  fields := #[]
  methods := #[k0m0]
  instanceTypes := #[]
  staticTypes := #[]
  resolved := Array.replicate 124 none
  statics := none }

def pool1 : Array CpInfo := pool [(2, .class_ 4), (1, u "java/lang/Object"), (0, u "<init>"), (0, u "()V"), (0, .fieldref 8 9), (0, .class_ 10), (0, .nameAndType 11 12), (0, u "com/example/minder/minder/model/Comparison"), (0, u "LESS"), (0, u "Lcom/example/minder/minder/model/Comparison;"), (0, .fieldref 8 14), (0, .nameAndType 15 12), (0, u "LESS_OR_EQUAL"), (0, .fieldref 8 17), (0, .nameAndType 18 12), (0, u "GREATER"), (0, .fieldref 8 20), (0, .nameAndType 21 12), (0, u "GREATER_OR_EQUAL"), (0, .fieldref 8 23), (0, .nameAndType 24 12), (0, u "EQUAL"), (0, .fieldref 8 26), (0, .nameAndType 27 12), (0, u "NOT_EQUAL"), (0, .integer 2147483647), (0, .methodref 30 31), (0, .class_ 32), (0, .nameAndType 33 34), (0, u "com/example/minder/minder/model/ComparisonHoldsPinLaw"), (0, u "pick"), (0, u "(I)Lcom/example/minder/minder/model/Comparison;"), (0, .methodref 30 36), (0, .nameAndType 37 38), (0, u "admitted"), (0, u "(I)I"), (0, .methodref 8 40), (0, .nameAndType 41 42), (0, u "holds"), (0, u "(I)Z"), (3, u "law"), (0, u "(II)Z")] 2

def k1m0 : Method := { name := "<init>", desc := "()V", sig := { parameters := [], returnType := none }, accessFlags := 2, code := none }
def k1c1 : Code := { maxStack := 2, maxLocals := 1, code := method_2_code, exceptionTable := #[], attributes := #[] }
def k1m1 : Method := { name := "admitted", desc := "(I)I", sig := { parameters := [.int], returnType := some .int }, accessFlags := 10, code := some k1c1 }
def k1c2 : Code := { maxStack := 2, maxLocals := 1, code := method_3_code, exceptionTable := #[], attributes := #[] }
def k1m2 : Method := { name := "pick", desc := "(I)Lcom/example/minder/minder/model/Comparison;", sig := { parameters := [.int], returnType := some (.object "com/example/minder/minder/model/Comparison") }, accessFlags := 10, code := some k1c2 }
def k1c3 : Code := { maxStack := 2, maxLocals := 6, code := code, exceptionTable := #[], attributes := #[] }
def k1m3 : Method := { name := "law", desc := "(II)Z", sig := { parameters := [.int, .int], returnType := some .boolean }, accessFlags := 9, code := some k1c3 }
/-- com/example/minder/minder/model/ComparisonHoldsPinLaw -/
def k1 : Class := { plain "com/example/minder/minder/model/ComparisonHoldsPinLaw" (some 0) with
  accessFlags := 49
  interfaces := #[]
  cf := some (fileOf pool1 30 #[] #[{ accessFlags := 2, nameIndex := 5, descriptorIndex := 6, attributes := #[] }, { accessFlags := 10, nameIndex := 37, descriptorIndex := 38, attributes := #[] }, { accessFlags := 10, nameIndex := 33, descriptorIndex := 34, attributes := #[] }, { accessFlags := 9, nameIndex := 46, descriptorIndex := 47, attributes := #[] }] 49 2 #[] #[])
  fields := #[]
  methods := #[k1m0, k1m1, k1m2, k1m3]
  instanceTypes := #[]
  staticTypes := #[]
  resolved := Array.replicate 50 none
  statics := none }

def pool2 : Array CpInfo := pool [(1, .class_ 2), (0, u "java/lang/constant/Constable"), (0, .class_ 4), (0, u "java/lang/Object")] 6

/-- java/lang/constant/Constable -/
def k2 : Class := { plain "java/lang/constant/Constable" (some 0) with
  accessFlags := 1537
  interfaces := #[]
  cf := some (fileOf pool2 1 #[] #[] 1537 3 #[] #[])
  fields := #[]
  methods := #[]
  instanceTypes := #[]
  staticTypes := #[]
  resolved := Array.replicate 11 none
  statics := none }

def pool3 : Array CpInfo := pool [(1, .class_ 2), (0, u "java/lang/Comparable"), (0, .class_ 4), (0, u "java/lang/Object")] 7

/-- java/lang/Comparable -/
def k3 : Class := { plain "java/lang/Comparable" (some 0) with
  accessFlags := 1537
  interfaces := #[]
  cf := some (fileOf pool3 1 #[] #[] 1537 3 #[] #[])
  fields := #[]
  methods := #[]
  instanceTypes := #[]
  staticTypes := #[]
  resolved := Array.replicate 12 none
  statics := none }

def pool4 : Array CpInfo := pool [(1, .class_ 2), (0, u "java/io/Serializable"), (0, .class_ 4), (0, u "java/lang/Object")] 2

/-- java/io/Serializable -/
def k4 : Class := { plain "java/io/Serializable" (some 0) with
  accessFlags := 1537
  interfaces := #[]
  cf := some (fileOf pool4 1 #[] #[] 1537 3 #[] #[])
  fields := #[]
  methods := #[]
  instanceTypes := #[]
  staticTypes := #[]
  resolved := Array.replicate 7 none
  statics := none }

def pool5 : Array CpInfo := pool [(2, .class_ 4), (1, u "java/lang/Enum"), (0, u "name"), (0, u "Ljava/lang/String;"), (0, .fieldref 2 8), (0, .nameAndType 9 10), (0, u "ordinal"), (0, u "I"), (1, .class_ 14), (1, u "java/lang/Object"), (4, u "hash"), (86, .class_ 108), (1, u "java/lang/Enum$EnumDesc"), (2, .class_ 112), (0, u "java/lang/constant/Constable"), (0, .class_ 114), (0, u "java/lang/Comparable"), (0, .class_ 116), (0, u "java/io/Serializable"), (9, u "()I")] 77

def k5c0 : Code := { maxStack := 1, maxLocals := 1, code := jdk_37_method_2_code, exceptionTable := #[], attributes := #[] }
def k5m0 : Method := { name := "ordinal", desc := "()I", sig := { parameters := [], returnType := some .int }, accessFlags := 17, code := some k5c0 }
/-- java/lang/Enum -/
def k5 : Class := { plain "java/lang/Enum" (some 0) with
  accessFlags := 1057
  interfaces := #[2, 3, 4]
  cf := some (fileOf pool5 2 #[.nestMembers #[106]] #[{ accessFlags := 17, nameIndex := 9, descriptorIndex := 126, attributes := #[] }] 1057 12 #[111, 113, 115] #[{ accessFlags := 18, nameIndex := 5, descriptorIndex := 6, attributes := #[] }, { accessFlags := 18, nameIndex := 9, descriptorIndex := 10, attributes := #[] }, { accessFlags := 2, nameIndex := 19, descriptorIndex := 10, attributes := #[] }])
  fields := #[{ name := "name", type := (.object "java/lang/String"), accessFlags := 18, slot := 0, constantValue := 0 }, { name := "ordinal", type := .int, accessFlags := 18, slot := 1, constantValue := 0 }, { name := "hash", type := .int, accessFlags := 2, slot := 2, constantValue := 0 }]
  methods := #[k5m0]
  instanceTypes := #[(.object "java/lang/String"), .int, .int]
  staticTypes := #[]
  resolved := Array.replicate 204 none
  statics := none }

def pool6 : Array CpInfo := pool [(1, .class_ 2), (0, u "com/example/minder/minder/model/Comparison"), (2, u "LESS"), (0, u "Lcom/example/minder/minder/model/Comparison;"), (2, u "LESS_OR_EQUAL"), (2, u "GREATER"), (2, u "GREATER_OR_EQUAL"), (2, u "EQUAL"), (2, u "NOT_EQUAL"), (2, u "$VALUES"), (0, u "[Lcom/example/minder/minder/model/Comparison;"), (6, .class_ 34), (1, u "java/lang/Enum"), (8, u "symbol"), (0, u "Ljava/lang/String;"), (10, .methodref 1 56), (0, .nameAndType 57 58), (0, u "ordinal"), (0, u "()I"), (37, u "holds"), (0, u "(I)Z")] 7

def k6c0 : Code := { maxStack := 4, maxLocals := 2, code := prog_22_method_5_code, exceptionTable := #[], attributes := #[] }
def k6m0 : Method := { name := "holds", desc := "(I)Z", sig := { parameters := [.int], returnType := some .boolean }, accessFlags := 1, code := some k6c0 }
/-- com/example/minder/minder/model/Comparison -/
def k6 : Class := { plain "com/example/minder/minder/model/Comparison" (some 5) with
  accessFlags := 16433
  interfaces := #[]
  cf := some (fileOf pool6 1 #[] #[{ accessFlags := 1, nameIndex := 96, descriptorIndex := 97, attributes := #[] }] 16433 32 #[] #[{ accessFlags := 16409, nameIndex := 5, descriptorIndex := 6, attributes := #[] }, { accessFlags := 16409, nameIndex := 9, descriptorIndex := 6, attributes := #[] }, { accessFlags := 16409, nameIndex := 12, descriptorIndex := 6, attributes := #[] }, { accessFlags := 16409, nameIndex := 15, descriptorIndex := 6, attributes := #[] }, { accessFlags := 16409, nameIndex := 18, descriptorIndex := 6, attributes := #[] }, { accessFlags := 16409, nameIndex := 21, descriptorIndex := 6, attributes := #[] }, { accessFlags := 18, nameIndex := 43, descriptorIndex := 44, attributes := #[] }, { accessFlags := 4122, nameIndex := 24, descriptorIndex := 25, attributes := #[] }])
  fields := #[{ name := "LESS", type := (.object "com/example/minder/minder/model/Comparison"), accessFlags := 16409, slot := 0, constantValue := 0 }, { name := "LESS_OR_EQUAL", type := (.object "com/example/minder/minder/model/Comparison"), accessFlags := 16409, slot := 1, constantValue := 0 }, { name := "GREATER", type := (.object "com/example/minder/minder/model/Comparison"), accessFlags := 16409, slot := 2, constantValue := 0 }, { name := "GREATER_OR_EQUAL", type := (.object "com/example/minder/minder/model/Comparison"), accessFlags := 16409, slot := 3, constantValue := 0 }, { name := "EQUAL", type := (.object "com/example/minder/minder/model/Comparison"), accessFlags := 16409, slot := 4, constantValue := 0 }, { name := "NOT_EQUAL", type := (.object "com/example/minder/minder/model/Comparison"), accessFlags := 16409, slot := 5, constantValue := 0 }, { name := "symbol", type := (.object "java/lang/String"), accessFlags := 18, slot := 3, constantValue := 0 }, { name := "$VALUES", type := (.array (.object "com/example/minder/minder/model/Comparison")), accessFlags := 4122, slot := 6, constantValue := 0 }]
  methods := #[k6m0]
  instanceTypes := #[(.object "java/lang/String"), .int, .int, (.object "java/lang/String")]
  staticTypes := #[(.object "com/example/minder/minder/model/Comparison"), (.object "com/example/minder/minder/model/Comparison"), (.object "com/example/minder/minder/model/Comparison"), (.object "com/example/minder/minder/model/Comparison"), (.object "com/example/minder/minder/model/Comparison"), (.object "com/example/minder/minder/model/Comparison"), (.array (.object "com/example/minder/minder/model/Comparison"))]
  resolved := Array.replicate 105 none
  statics := some 0 }

def pool7 : Array CpInfo := pool [(1, u "java/lang/Cloneable"), (0, .class_ 1), (0, u "java/lang/Object"), (0, .class_ 3)] 3

/-- java/lang/Cloneable -/
def k7 : Class := { plain "java/lang/Cloneable" (some 0) with
  accessFlags := 1537
  interfaces := #[]
  cf := some (fileOf pool7 2 #[] #[] 1537 4 #[] #[])
  fields := #[]
  methods := #[]
  instanceTypes := #[]
  staticTypes := #[]
  resolved := Array.replicate 8 none
  statics := none }

/-- the primitive byte -/
def k8 : Class := { plain "byte" none with kind := .primitive 'B', accessFlags := 0x411 }
/-- [B -/
def k9 : Class := { plain "[B" (some 0) with kind := .array 8 .byte, interfaces := #[7, 4], accessFlags := 1041 }

/-- the primitive int -/
def k10 : Class := { plain "int" none with kind := .primitive 'I', accessFlags := 0x411 }
/-- [I -/
def k11 : Class := { plain "[I" (some 0) with kind := .array 10 .int, interfaces := #[7, 4], accessFlags := 1041 }

def heap : Heap := #[{ cls := 6, slots := #[.ref 1, .ref 2, .ref 3, .ref 4, .ref 5, .ref 6, .null], vm := .statics 6 },
  { cls := 6, slots := #[.null, .int 0, .int 0, .null], vm := .none },
  { cls := 6, slots := #[.null, .int 1, .int 0, .null], vm := .none },
  { cls := 6, slots := #[.null, .int 2, .int 0, .null], vm := .none },
  { cls := 6, slots := #[.null, .int 3, .int 0, .null], vm := .none },
  { cls := 6, slots := #[.null, .int 4, .int 0, .null], vm := .none },
  { cls := 6, slots := #[.null, .int 5, .int 0, .null], vm := .none }]
def classes : Array Class := #[k0, k1, k2, k3, k4, k5, k6, k7, k8, k9, k10, k11]
def interned : List (Array UInt16 × Addr) := []
def slotsUsed : Nat := 31
def theMethod : MethodId := ⟨1, 3⟩
def args0 : Array Value := #[.int 5, .int 3]
def aboutOver (below : List Frame) : State where
  vm := { classes := classes, interned := interned.toArray }
  heap := heap
  slotsUsed := slotsUsed
  threads := #[{ frames := .invoking theMethod args0 :: below }]
def below0 : List Frame := [.native { method := ⟨0, 0⟩, args := #[] }]
def about1 : State := aboutOver below0
def p0 : Program := .bare "" "" ""
def e0 : Env := launch0.env 0 0 0
theorem w_frames : about1.frames = Frame.invoking theMethod args0 :: below0 := rfl
set_option maxRecDepth 65536 in
theorem w_args : argsFit about1.vm theMethod args0 = true := by decide +kernel
set_option maxRecDepth 65536 in
theorem w_heap : heapFits about1 = true := by decide +kernel
set_option maxRecDepth 65536 in
theorem w_runnable : about1.curStatus? = some .runnable := by decide +kernel
set_option maxRecDepth 65536 in
theorem w_alone : about1.alone = true := by decide +kernel
set_option maxRecDepth 65536 in
theorem w_named : about1.methodNamed? x = some theMethod := by decide +kernel
set_option maxRecDepth 65536 in
theorem w_hears : about1.hears theMethod below0 = true := by decide +kernel
set_option maxRecDepth 65536 in
theorem w_ripe : about1.ripe theMethod args0 below0 = true := by decide +kernel
theorem w_running : about1.status = .running := rfl
set_option maxRecDepth 65536 in
theorem w_room : about1.hasRoom e0.platform room_1 = true :=
  launch0.hasRoom_least _ room_1 (by decide +kernel) (by decide +kernel) (by decide +kernel) (by decide +kernel) (by decide +kernel) (by decide +kernel)
theorem allAtoms_all (ts : List Jvm.Cond) (a : Array Jvm.Value) (st : Jvm.State) : (allAtoms ts).before a st = ts.all (fun c => c.before a st) := by
  induction ts with
  | nil => rfl
  | cons c t ih =>
    show (Jvm.Cond.and c (allAtoms t)).before a st = _
    rw [Jvm.Cond.before_and, ih, List.all_cons]
def words1 : List Jvm.Cond := Jvm.Cond.code x code maxLocals ret :: tables_1
/-- a 'code' word, met by the world's own term for the bytes: nothing is compared byte by byte -/
theorem code_word {y : MethodName} {bytes : ByteArray} {mx : Nat} {rt : Option FieldType} {a : Array Value} {s : State} {m : MethodId} {meth : Method} {c : Code} (h1 : s.methodNamed? y = some m) (h2 : s.vm.method? m = some meth) (h3 : meth.code = some c) (h4 : c.code = bytes)
    (h5 : (c.maxLocals == mx && c.exceptionTable.isEmpty && decide (c.maxStack ≤ mostOperands) && decide (meth.sig.returnType = rt) && !meth.locks && decide (parseMethodDescriptor y.desc = some meth.sig)) = true) : (Jvm.Cond.code y bytes mx rt).before a s = true := by
  simp only [Bool.and_eq_true, beq_iff_eq, Bool.not_eq_true', decide_eq_true_eq] at h5
  obtain ⟨⟨⟨⟨⟨g1, g2⟩, g3⟩, g4⟩, g5⟩, g6⟩ := h5
  simp [Cond.before, Cond.holds, Cond.value, h1, h2, h3, h4, g1, g2, g3, g4, g5, g6]
def isCode : Jvm.Cond → Bool
  | .code _ _ _ _ => true
  | _ => false
theorem all_split {L : List Jvm.Cond} {P : Jvm.Cond → Bool} (h1 : L.all (fun c => isCode c || P c) = true) (h2 : ∀ c ∈ L.filter isCode, P c = true) : L.all P = true := by
  refine List.all_eq_true.mpr fun c hc => ?_
  have h := List.all_eq_true.mp h1 c hc
  rcases Bool.eq_false_or_eq_true (isCode c) with hi | hi
  · exact h2 c (List.mem_filter.mpr ⟨hc, hi⟩)
  · simpa [hi] using h
set_option maxRecDepth 65536 in
theorem w_c0 : (Jvm.Cond.code x code maxLocals ret).before args0 about1 = true := code_word (m := ⟨1, 3⟩) (meth := k1m3) (c := k1c3) (by decide +kernel) rfl rfl rfl (by decide +kernel)
set_option maxRecDepth 65536 in
theorem w_c1 : (Jvm.Cond.code ({ cls := "com/example/minder/minder/model/ComparisonHoldsPinLaw", name := "pick", desc := "(I)Lcom/example/minder/minder/model/Comparison;" } : Jvm.MethodName) method_3_code (1 : Nat) (Option.some (Jvm.ClassFile.FieldType.object "com/example/minder/minder/model/Comparison"))).before args0 about1 = true := code_word (m := ⟨1, 2⟩) (meth := k1m2) (c := k1c2) (by decide +kernel) rfl rfl rfl (by decide +kernel)
set_option maxRecDepth 65536 in
theorem w_c2 : (Jvm.Cond.code ({ cls := "com/example/minder/minder/model/ComparisonHoldsPinLaw", name := "admitted", desc := "(I)I" } : Jvm.MethodName) method_2_code (1 : Nat) (Option.some Jvm.ClassFile.FieldType.int)).before args0 about1 = true := code_word (m := ⟨1, 1⟩) (meth := k1m1) (c := k1c1) (by decide +kernel) rfl rfl rfl (by decide +kernel)
set_option maxRecDepth 65536 in
theorem w_c3 : (Jvm.Cond.code ({ cls := "com/example/minder/minder/model/Comparison", name := "holds", desc := "(I)Z" } : Jvm.MethodName) prog_22_method_5_code (2 : Nat) (Option.some Jvm.ClassFile.FieldType.boolean)).before args0 about1 = true := code_word (m := ⟨6, 0⟩) (meth := k6m0) (c := k6c0) (by decide +kernel) rfl rfl rfl (by decide +kernel)
set_option maxRecDepth 65536 in
theorem w_c4 : (Jvm.Cond.code ({ cls := "java/lang/Enum", name := "ordinal", desc := "()I" } : Jvm.MethodName) jdk_37_method_2_code (1 : Nat) (Option.some Jvm.ClassFile.FieldType.int)).before args0 about1 = true := code_word (m := ⟨5, 0⟩) (meth := k5m0) (c := k5c0) (by decide +kernel) rfl rfl rfl (by decide +kernel)
def codes1 : List Jvm.Cond := [Jvm.Cond.code x code maxLocals ret, Jvm.Cond.code ({ cls := "com/example/minder/minder/model/ComparisonHoldsPinLaw", name := "pick", desc := "(I)Lcom/example/minder/minder/model/Comparison;" } : Jvm.MethodName) method_3_code (1 : Nat) (Option.some (Jvm.ClassFile.FieldType.object "com/example/minder/minder/model/Comparison")), Jvm.Cond.code ({ cls := "com/example/minder/minder/model/ComparisonHoldsPinLaw", name := "admitted", desc := "(I)I" } : Jvm.MethodName) method_2_code (1 : Nat) (Option.some Jvm.ClassFile.FieldType.int), Jvm.Cond.code ({ cls := "com/example/minder/minder/model/Comparison", name := "holds", desc := "(I)Z" } : Jvm.MethodName) prog_22_method_5_code (2 : Nat) (Option.some Jvm.ClassFile.FieldType.boolean), Jvm.Cond.code ({ cls := "java/lang/Enum", name := "ordinal", desc := "()I" } : Jvm.MethodName) jdk_37_method_2_code (1 : Nat) (Option.some Jvm.ClassFile.FieldType.int)]
set_option maxRecDepth 65536 in
theorem codes_eq : words1.filter isCode = codes1 := rfl
theorem w_codes : ∀ c ∈ words1.filter isCode, c.before args0 about1 = true := by
  rw [codes_eq]
  intro c hc
  simp only [codes1, List.mem_cons, List.not_mem_nil, or_false] at hc
  rcases hc with rfl | rfl | rfl | rfl | rfl
  · exact w_c0
  · exact w_c1
  · exact w_c2
  · exact w_c3
  · exact w_c4
set_option maxRecDepth 65536 in
theorem w_t1 : (words1.take 24).all (fun c => isCode c || c.before args0 about1) = true := by decide +kernel
set_option maxRecDepth 65536 in
theorem w_t2 : (words1.drop 24).all (fun c => isCode c || c.before args0 about1) = true := by decide +kernel
theorem w_tables : (allAtoms (Jvm.Cond.code x code maxLocals ret :: tables_1)).before args0 about1 = true := by
  rw [allAtoms_all]
  show words1.all (fun c => c.before args0 about1) = true
  refine all_split ?_ w_codes
  rw [← List.take_append_drop 24 words1, List.all_append, w_t1, w_t2]
  rfl
set_option maxRecDepth 65536 in
theorem w_case : (Jvm.Cond.and given_1 narrow_1).before args0 about1 = true := by decide +kernel
theorem w_applies : (headSpec (Jvm.Cond.code x code maxLocals ret :: tables_1) room_1).applies x e0.platform about1 = true :=
  (Spec.applies_iff w_frames).mpr ⟨w_running, w_runnable, w_alone, w_named, w_hears, w_ripe, w_room, w_tables⟩
theorem atStart : AtStart classFile x code maxLocals ret World_1 tables_1 room_1 Calls_1 rest_1 Pre_1 launch0 p0 e0 about1 theMethod args0 below0 :=
  ⟨lists_1, trivial, launch0.admits_env _ _ _, launch0.least_env, fairChoices_fair.cas, fairChoices_fair.clock, w_frames, w_args, w_heap, w_applies, trivial, trivial, w_case⟩
end start1
theorem witness_1 : WitnessClaimed_1 := ⟨start1.p0, start1.e0, start1.about1, start1.theMethod, start1.args0, start1.below0, start1.atStart⟩
end Jvm.Pilot.@@N@@
