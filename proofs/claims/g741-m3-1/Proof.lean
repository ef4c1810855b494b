import JvmDerived
import JvmDerived.Pilot.@@N@@Statement
import JvmDerived.Pilot.@@N@@Code
set_option linter.unusedVariables false
set_option linter.unusedSimpArgs false
namespace Jvm.OwnKit
open Sem ClassFile Op Lib Jvm.Stand Jvm.Free Jvm.LawKit Jvm.RoadKit
/-- from the state A the run comes to an end as the contract asks it -/
def OwnEnd (p : Program) (e : Env) (below : List Frame) (s : State) (Q : Option Value → Heap → List Loc → Prop) (kc ks : Nat) (A : State) : Prop :=
  ∃ (s₂ : State) (o : Outcome), Steps p.tables e below A s₂ ∧ s₂.status = .running ∧ Ended s₂ below o ∧ ∃ v L, o = .returned v ∧ Q v s₂.heap L ∧ FrameEnd s o s₂ L kc ks
section Own
variable {p : Program} {l : Launch} {e : Env} {R : Room} {s : State} {m : MethodId} {args : Array Value} {below : List Frame} {meth : Method} {c : Code} {T : State} {locs : List Loc} {cells slots : Nat} {Z : State} {a0 : Array Value} {h : Heap}
variable {Q : Option Value → Heap → List Loc → Prop} {kc ks : Nat}
theorem go {A B : State} (k : ∀ t, Steps p.tables e below B t → Steps p.tables e below A t) (F : OwnEnd p e below s Q kc ks B) : OwnEnd p e below s Q kc ks A := by
  obtain ⟨s₂, o, h1, r⟩ := F; exact ⟨s₂, o, k _ h1, r⟩
theorem up {cells' slots' : Nat} (X : Stand p l e R s m args below meth c T locs cells slots) (h1 : cells ≤ cells') (h2 : slots ≤ slots') : Stand p l e R s m args below meth c T locs cells' slots' :=
  ⟨X.admits, X.cas, X.clock, X.frames, X.room, X.hears, X.method, X.code, X.here, X.tail, X.warmed, X.limits, X.bytes, X.same.mono h1 h2⟩
theorem done (X : Stand p l e R s m args below meth c T locs cells slots) (hlk : meth.locks = false) {v : Option Value} (hv : meth.sig.returnType = none → v = none) {A : State}
    (st : ∀ fs, (∀ (f : JFrame) (acts : List Action), f.method = m → f.locked = none → f.entered = [] → (doReturn e (T.setTop f) acts v).1 = T.setFrames fs) → Steps p.tables e below A (T.setFrames fs))
    (eT : T.heap = h) (hk : cells ≤ kc) (hs : slots ≤ ks) (hQ : Q v h locs) : OwnEnd p e below s Q kc ks A := by
  obtain ⟨fs, hr, hrun, hended, hW, hsame⟩ := X.leave (v := v) hv hlk
  exact ⟨_, _, st fs hr, hrun, hended, _, _, rfl, (by show Q v T.heap locs; rw [eT]; exact hQ), ⟨_, rfl⟩, hW, hsame.mono hk hs⟩
theorem endI (X : Stand p l e R s m args below meth c T locs cells slots) (hx : p.tables.exec = Jvm.exec) (hlk : meth.locks = false) (hret : meth.sig.returnType = some .int) {pc : Nat} {Ls : Array Slot} {z : Int32} {rest : List Value} (hd : decode c.code pc = .ok (.ireturn, 1))
    (eT : T.heap = h) (hk : cells ≤ kc) (hs : slots ≤ ks) (hQ : Q (some (.int z)) h locs) : OwnEnd p e below s Q kc ks (T.setTop (mkF m pc Ls (.int z :: rest))) :=
  done X hlk (fun q => by rw [hret] at q; cases q) (fun fs hr => retOut X hx (w := .int z) hret rfl (Or.inl ⟨rfl, Or.inl rfl, z, rfl⟩) hd hr) eT hk hs hQ
theorem endN (X : Stand p l e R s m args below meth c T locs cells slots) (hx : p.tables.exec = Jvm.exec) (hlk : meth.locks = false) {t : FieldType} (ht : t = .boolean ∨ t = .byte ∨ t = .char ∨ t = .short) (hret : meth.sig.returnType = some t) {pc : Nat} {Ls : Array Slot} {z : Int32} {rest : List Value} (hd : decode c.code pc = .ok (.ireturn, 1))
    (eT : T.heap = h) (hk : cells ≤ kc) (hs : slots ≤ ks) (hQ : Q (some (.int (nar t z))) h locs) : OwnEnd p e below s Q kc ks (T.setTop (mkF m pc Ls (.int z :: rest))) :=
  done X hlk (fun q => by rw [hret] at q; cases q) (fun fs hr => retN X hx hret ht hd hr) eT hk hs hQ
theorem endJ (X : Stand p l e R s m args below meth c T locs cells slots) (hx : p.tables.exec = Jvm.exec) (hlk : meth.locks = false) (hret : meth.sig.returnType = some .long) {pc : Nat} {Ls : Array Slot} {z : Int64} {rest : List Value} (hd : decode c.code pc = .ok (.lreturn, 1))
    (eT : T.heap = h) (hk : cells ≤ kc) (hs : slots ≤ ks) (hQ : Q (some (.long z)) h locs) : OwnEnd p e below s Q kc ks (T.setTop (mkF m pc Ls (.long z :: rest))) :=
  done X hlk (fun q => by rw [hret] at q; cases q) (fun fs hr => retOut X hx (w := .long z) hret rfl (Or.inr (Or.inl ⟨rfl, rfl, z, rfl⟩)) hd hr) eT hk hs hQ
theorem endA (X : Stand p l e R s m args below meth c T locs cells slots) (hx : p.tables.exec = Jvm.exec) (hlk : meth.locks = false) {t : FieldType} (hret : meth.sig.returnType = some t) (ht : t.isReference = true) {pc : Nat} {Ls : Array Slot} {w : Value} (hw : w.isRef = true) {rest : List Value} (hd : decode c.code pc = .ok (.areturn, 1))
    (eT : T.heap = h) (hk : cells ≤ kc) (hs : slots ≤ ks) (hQ : Q (some w) h locs) : OwnEnd p e below s Q kc ks (T.setTop (mkF m pc Ls (w :: rest))) :=
  done X hlk (fun q => by rw [hret] at q; cases q) (fun fs hr => retOut X hx (w := w) hret (by cases t <;> first | rfl | cases ht) (Or.inr (Or.inr (Or.inr (Or.inr ⟨rfl, ht, hw⟩)))) hd hr) eT hk hs hQ
theorem endV (X : Stand p l e R s m args below meth c T locs cells slots) (hx : p.tables.exec = Jvm.exec) (hlk : meth.locks = false) (hret : meth.sig.returnType = none) {pc : Nat} {Ls : Array Slot} (hd : decode c.code pc = .ok (.return_, 1))
    (eT : T.heap = h) (hk : cells ≤ kc) (hs : slots ≤ ks) (hQ : Q none h locs) : OwnEnd p e below s Q kc ks (T.setTop (mkF m pc Ls [])) :=
  done X hlk (fun _ => rfl) (fun fs hr => X.returnOut hx hret hd hr) eT hk hs hQ
theorem nar01 {P : Prop} [Decidable P] : nar .boolean (if P then (1 : Int32) else 0) = if P then (1 : Int32) else 0 := by split <;> rfl
section Call
variable {own : String} {index : Nat} {y z : MethodName} {bytes : ByteArray} {maxL W : Nat} {ret : Option FieldType} {rm : Room} {as' : Array Value} {Qc : Option Value → Heap → List Loc → Prop} {g : JFrame} {argsL rest : List Value}
theorem callStat (X : Stand p l e R s m args below meth c T locs cells slots) (hx : p.tables.exec = Jvm.exec) (hZ : Z.Warmed39 s.vm) (hown : s.vm.findClass own = some m.cls)
    (w1 : (Cond.methodLink own index y).before a0 Z = true) (w2 : (Cond.static y).before a0 Z = true) (w3 : (Cond.initialized y.cls).before a0 Z = true) (w4 : (Cond.code y bytes maxL ret).before a0 Z = true)
    (hy : y.cls ≠ "java/lang/invoke/MethodHandle" ∧ y.cls ≠ "java/lang/invoke/VarHandle")
    (hM : MetFree l y (head1 [Cond.code y bytes maxL ret] rm) (fun a U => a = as' ∧ Z.Warmed39 U.vm ∧ U.heap = h) (fun _ _ _ _ _ => True) (fun _ U o U' => ∃ v L, o = .returned v ∧ Qc v U'.heap L ∧ FrameEnd U o U' L rm.cells rm.slots))
    (hf : rm.frames + 1 ≤ R.frames) (hl : W + (maxL + 11) + rm.locals ≤ R.locals) (eT : T.heap = h) (hg : g.method = m) (hsize : g.locals.size = c.maxLocals) (ha : argsL.toArray = as')
    (hlen : ∀ sig, parseMethodDescriptor y.desc = some sig → argsL.length = sig.parameters.length) (hstack : g.stack = argsL.reverse ++ rest) (hW : 2 * g.monitorRoom + (rest.map fun v => v.category).sum ≤ W) (hdg : decode c.code g.pc = .ok (.invokestatic index, 3))
    (hc : cells + rm.cells ≤ R.cells) (hs : slots + rm.slots ≤ R.slots) :
    ∃ (v : Option Value) (T' : State) (L : List Loc), Stand p l e R s m args below meth c T' (locs ++ L) (cells + rm.cells) (slots + rm.slots) ∧ Qc v T'.heap L ∧ ∀ target, Steps p.tables e below (T'.setTop { g with pc := g.pc + 3, stack := v.toList ++ rest }) target → Steps p.tables e below (T.setTop g) target := by
  obtain ⟨v, _, ⟨T', L', k', n'⟩, -, X', ⟨L, hQ, l1, l2, l3⟩, st⟩ := Jvm.LawKit.callS X hx hown (mvT hZ w1) (mvT hZ w2) (mvT hZ w3) (mvT hZ w4) hy (backOf (W := W) hM hZ w4 w3 hf hl) (g := g) hg hsize (argsL := argsL) (rest := rest) hlen hstack hW hdg (fun _ _ => ⟨ha, eT, hc, hs⟩)
  dsimp only [Pt.U, Pt.locs, Pt.cells, Pt.slots] at X' l1 l2 l3 st hQ
  subst l1 l2 l3
  exact ⟨v, T', L, X', hQ, st⟩
theorem callInit (X : Stand p l e R s m args below meth c T locs cells slots) (hx : p.tables.exec = Jvm.exec) (hZ : Z.Warmed39 s.vm) (hown : s.vm.findClass own = some m.cls) (hy1 : y.name = "<init>")
    (w1 : (Cond.methodLink own index y).before a0 Z = true) (w2 : (Cond.instanceMethod y).before a0 Z = true) (w3 : (Cond.initialized y.cls).before a0 Z = true) (w4 : (Cond.code y bytes maxL none).before a0 Z = true)
    (hy : y.cls ≠ "java/lang/invoke/MethodHandle" ∧ y.cls ≠ "java/lang/invoke/VarHandle")
    (hM : MetFree l y (head1 [Cond.code y bytes maxL none] rm) (fun a U => a = as' ∧ Z.Warmed39 U.vm ∧ U.heap = h) (fun _ _ _ _ _ => True) (fun _ U o U' => ∃ v L, o = .returned v ∧ Qc v U'.heap L ∧ FrameEnd U o U' L rm.cells rm.slots))
    (hf : rm.frames + 1 ≤ R.frames) (hl : W + (maxL + 11) + rm.locals ≤ R.locals) (eT : T.heap = h) (hg : g.method = m) (hsize : g.locals.size = c.maxLocals) {a : Addr} (ha : (Value.ref a :: argsL).toArray = as')
    (hlen : ∀ sig, parseMethodDescriptor y.desc = some sig → argsL.length = sig.parameters.length) (hstack : g.stack = argsL.reverse ++ .ref a :: rest) (hW : 2 * g.monitorRoom + (rest.map fun v => v.category).sum ≤ W) (hdg : decode c.code g.pc = .ok (.invokespecial index, 3))
    (hc : cells + rm.cells ≤ R.cells) (hs : slots + rm.slots ≤ R.slots) :
    ∃ (v : Option Value) (T' : State) (L : List Loc), Stand p l e R s m args below meth c T' (locs ++ L) (cells + rm.cells) (slots + rm.slots) ∧ Qc v T'.heap L ∧ ∀ target, Steps p.tables e below (T'.setTop { g with pc := g.pc + 3, stack := v.toList ++ rest }) target → Steps p.tables e below (T.setTop g) target := by
  obtain ⟨v, _, ⟨T', L', k', n'⟩, -, X', ⟨L, hQ, l1, l2, l3⟩, st⟩ := X.specialBack hx hy1 hown (mvT hZ w1) (mvT hZ w2) (mvT hZ w4) hy (backOf (W := W) hM hZ w4 w3 hf hl) (g := g) hg hsize (Steps.refl _) (a := a) (argsL := argsL) (rest := rest) hlen hstack hW hdg (fun _ _ => ⟨ha, eT, hc, hs⟩)
  dsimp only [Pt.U, Pt.locs, Pt.cells, Pt.slots] at X' l1 l2 l3 st hQ
  subst l1 l2 l3
  exact ⟨v, T', L, X', hQ, fun _ k => st.trans k⟩
theorem callVirt (X : Stand p l e R s m args below meth c T locs cells slots) (hx : p.tables.exec = Jvm.exec) (hZ : Z.Warmed39 s.vm) (hown : s.vm.findClass own = some m.cls) {C : String}
    (w1 : (Cond.methodLink own index y).before a0 Z = true) (w2 : (Cond.declares y).before a0 Z = true) (hnf : NotFace s y) (w3 : (Cond.selects C y z).before a0 Z = true) (w5 : (Cond.instanceMethod z).before a0 Z = true) (w6 : (Cond.initialized z.cls).before a0 Z = true) (w4 : (Cond.code z bytes maxL ret).before a0 Z = true)
    (hy : y.cls ≠ "java/lang/invoke/MethodHandle" ∧ y.cls ≠ "java/lang/invoke/VarHandle")
    (hM : MetFree l z (head1 [Cond.code z bytes maxL ret] rm) (fun a U => a = as' ∧ Z.Warmed39 U.vm ∧ U.heap = h) (fun _ _ _ _ _ => True) (fun _ U o U' => ∃ v L, o = .returned v ∧ Qc v U'.heap L ∧ FrameEnd U o U' L rm.cells rm.slots))
    (hf : rm.frames + 1 ≤ R.frames) (hl : W + (maxL + 11) + rm.locals ≤ R.locals) (eT : T.heap = h) {a : Addr} (E : Exa Z h a C) (hg : g.method = m) (hsize : g.locals.size = c.maxLocals) (ha : (Value.ref a :: argsL).toArray = as')
    (hlen : ∀ sig, parseMethodDescriptor y.desc = some sig → argsL.length = sig.parameters.length) (hstack : g.stack = argsL.reverse ++ .ref a :: rest) (hW : 2 * g.monitorRoom + (rest.map fun v => v.category).sum ≤ W) (hdg : decode c.code g.pc = .ok (.invokevirtual index, 3))
    (hc : cells + rm.cells ≤ R.cells) (hs : slots + rm.slots ≤ R.slots) :
    ∃ (v : Option Value) (T' : State) (L : List Loc), Stand p l e R s m args below meth c T' (locs ++ L) (cells + rm.cells) (slots + rm.slots) ∧ Qc v T'.heap L ∧ ∀ target, Steps p.tables e below (T'.setTop { g with pc := g.pc + 3, stack := v.toList ++ rest }) target → Steps p.tables e below (T.setTop g) target := by
  obtain ⟨cq, kq, q1, q2, q3⟩ := isOf hZ eT E
  obtain ⟨v, _, ⟨T', L', k', n'⟩, -, X', ⟨L, hQ, l1, l2, l3⟩, st⟩ := X.virtualBack hx hown (mvT hZ w1) (mvT hZ w2) hnf (mvT hZ w3) (mvT hZ w5) hy (backOf (W := W) hM hZ w4 w6 hf hl) q1 q3 (g := g) hg hsize (Steps.refl _) (argsL := argsL) (rest := rest) hlen hstack hW hdg (fun _ _ => ⟨ha, eT, hc, hs⟩)
  dsimp only [Pt.U, Pt.locs, Pt.cells, Pt.slots] at X' l1 l2 l3 st hQ
  subst l1 l2 l3
  exact ⟨v, T', L, X', hQ, fun _ k => st.trans k⟩
theorem callUp (X : Stand p l e R s m args below meth c T locs cells slots) (hx : p.tables.exec = Jvm.exec) (hZ : Z.Warmed39 s.vm) (hown : s.vm.findClass own = some m.cls) {C owner : String}
    (w1 : (Cond.methodLink own index y).before a0 Z = true) (w0 : (Cond.sameMethod y.cls owner y.name y.desc).before a0 Z = true) (w2 : (Cond.declares ⟨owner, y.name, y.desc⟩).before a0 Z = true) (ho : owner ≠ "java/lang/invoke/MethodHandle" ∧ owner ≠ "java/lang/invoke/VarHandle")
    (w3 : (Cond.selects C y z).before a0 Z = true) (w5 : (Cond.instanceMethod z).before a0 Z = true) (w6 : (Cond.initialized z.cls).before a0 Z = true) (w4 : (Cond.code z bytes maxL ret).before a0 Z = true)
    (hM : MetFree l z (head1 [Cond.code z bytes maxL ret] rm) (fun a U => a = as' ∧ Z.Warmed39 U.vm ∧ U.heap = h) (fun _ _ _ _ _ => True) (fun _ U o U' => ∃ v L, o = .returned v ∧ Qc v U'.heap L ∧ FrameEnd U o U' L rm.cells rm.slots))
    (hf : rm.frames + 1 ≤ R.frames) (hl : W + (maxL + 11) + rm.locals ≤ R.locals) (eT : T.heap = h) {a : Addr} (E : Exa Z h a C) (hg : g.method = m) (hsize : g.locals.size = c.maxLocals) (ha : (Value.ref a :: argsL).toArray = as')
    (hlen : ∀ sig, parseMethodDescriptor y.desc = some sig → argsL.length = sig.parameters.length) (hstack : g.stack = argsL.reverse ++ .ref a :: rest) (hW : 2 * g.monitorRoom + (rest.map fun v => v.category).sum ≤ W) (hdg : decode c.code g.pc = .ok (.invokevirtual index, 3))
    (hc : cells + rm.cells ≤ R.cells) (hs : slots + rm.slots ≤ R.slots) :
    ∃ (v : Option Value) (T' : State) (L : List Loc), Stand p l e R s m args below meth c T' (locs ++ L) (cells + rm.cells) (slots + rm.slots) ∧ Qc v T'.heap L ∧ ∀ target, Steps p.tables e below (T'.setTop { g with pc := g.pc + 3, stack := v.toList ++ rest }) target → Steps p.tables e below (T.setTop g) target := by
  obtain ⟨cq, kq, q1, q2, q3⟩ := isOf hZ eT E
  obtain ⟨v, _, ⟨T', L', k', n'⟩, -, X', ⟨L, hQ, l1, l2, l3⟩, st⟩ := X.virtualBackUp hx hown (mvT hZ w1) (mvT hZ w0) (mvT hZ w2) ho (mvT hZ w3) (mvT hZ w5) (backOf (W := W) hM hZ w4 w6 hf hl) q1 q3 (g := g) hg hsize (Steps.refl _) (argsL := argsL) (rest := rest) hlen hstack hW hdg (fun _ _ => ⟨ha, eT, hc, hs⟩)
  dsimp only [Pt.U, Pt.locs, Pt.cells, Pt.slots] at X' l1 l2 l3 st hQ
  subst l1 l2 l3
  exact ⟨v, T', L, X', hQ, fun _ k => st.trans k⟩
theorem callPriv (X : Stand p l e R s m args below meth c T locs cells slots) (hx : p.tables.exec = Jvm.exec) (hZ : Z.Warmed39 s.vm) (hown : s.vm.findClass own = some m.cls) {C : String} {kk : Nat}
    (w1 : (Cond.methodLink own index y).before a0 Z = true) (w2 : (Cond.instanceMethod y).before a0 Z = true) (wp : (Cond.privateMethod y).before a0 Z = true) (wi : (Cond.instantiable y.cls kk).before a0 Z = true) (w6 : (Cond.initialized y.cls).before a0 Z = true) (w4 : (Cond.code y bytes maxL ret).before a0 Z = true)
    (hy : y.cls ≠ "java/lang/invoke/MethodHandle" ∧ y.cls ≠ "java/lang/invoke/VarHandle")
    (hM : MetFree l y (head1 [Cond.code y bytes maxL ret] rm) (fun a U => a = as' ∧ Z.Warmed39 U.vm ∧ U.heap = h) (fun _ _ _ _ _ => True) (fun _ U o U' => ∃ v L, o = .returned v ∧ Qc v U'.heap L ∧ FrameEnd U o U' L rm.cells rm.slots))
    (hf : rm.frames + 1 ≤ R.frames) (hl : W + (maxL + 11) + rm.locals ≤ R.locals) (eT : T.heap = h) {a : Addr} (E : Exa Z h a C) (hg : g.method = m) (hsize : g.locals.size = c.maxLocals) (ha : (Value.ref a :: argsL).toArray = as')
    (hlen : ∀ sig, parseMethodDescriptor y.desc = some sig → argsL.length = sig.parameters.length) (hstack : g.stack = argsL.reverse ++ .ref a :: rest) (hW : 2 * g.monitorRoom + (rest.map fun v => v.category).sum ≤ W) (hdg : decode c.code g.pc = .ok (.invokevirtual index, 3))
    (hc : cells + rm.cells ≤ R.cells) (hs : slots + rm.slots ≤ R.slots) :
    ∃ (v : Option Value) (T' : State) (L : List Loc), Stand p l e R s m args below meth c T' (locs ++ L) (cells + rm.cells) (slots + rm.slots) ∧ Qc v T'.heap L ∧ ∀ target, Steps p.tables e below (T'.setTop { g with pc := g.pc + 3, stack := v.toList ++ rest }) target → Steps p.tables e below (T.setTop g) target := by
  obtain ⟨c2, k2, i1, i2, -, i4, -⟩ := Cond.instantiable_spec (mvT hZ wi (args := args))
  simp only [Bool.or_eq_false_iff] at i4
  have hpriv := Cond.privateMethod_at (mvP hZ wp (args := args))
  have hsel := selects_self_of_private (args := args) i1 i2 i4.1 hpriv (mvT hZ w2) hy
  obtain ⟨cl, q1, q2⟩ := E.cell
  obtain ⟨v, _, ⟨T', L', k', n'⟩, -, X', ⟨L, hQ, l1, l2, l3⟩, st⟩ := X.privateBack hx hown (mvT hZ w1) (mvT hZ w2) hsel hpriv (mvT hZ w4) hy (backOf (W := W) hM hZ w4 w6 hf hl) (g := g) hg hsize (Steps.refl _) (a := a) (cell := cl) (by rw [eT]; exact q1) q2 (argsL := argsL) (rest := rest) hlen hstack hW hdg (fun _ _ => ⟨ha, eT, hc, hs⟩)
  dsimp only [Pt.U, Pt.locs, Pt.cells, Pt.slots] at X' l1 l2 l3 st hQ
  subst l1 l2 l3
  exact ⟨v, T', L, X', hQ, fun _ k => st.trans k⟩
theorem callFace (X : Stand p l e R s m args below meth c T locs cells slots) (hx : p.tables.exec = Jvm.exec) (hZ : Z.Warmed39 s.vm) (hown : s.vm.findClass own = some m.cls) {C : String} {count : Nat}
    (w1 : (Cond.methodLink own index y).before a0 Z = true) (w2 : (Cond.declares y).before a0 Z = true) (wf : (Cond.interfaceMethod y.cls y.cls y.name y.desc).before args s = true) (w3 : (Cond.selects C y z).before a0 Z = true) (w5 : (Cond.instanceMethod z).before a0 Z = true) (wu : (Cond.publicMethod z).before a0 Z = true) (wh : (Cond.unhidden C y.name y.desc).before a0 Z = true) (wk : (Cond.castable C y.cls).before a0 Z = true) (w6 : (Cond.initialized z.cls).before a0 Z = true) (w4 : (Cond.code z bytes maxL ret).before a0 Z = true)
    (hy : y.cls ≠ "java/lang/invoke/MethodHandle" ∧ y.cls ≠ "java/lang/invoke/VarHandle")
    (hM : MetFree l z (head1 [Cond.code z bytes maxL ret] rm) (fun a U => a = as' ∧ Z.Warmed39 U.vm ∧ U.heap = h) (fun _ _ _ _ _ => True) (fun _ U o U' => ∃ v L, o = .returned v ∧ Qc v U'.heap L ∧ FrameEnd U o U' L rm.cells rm.slots))
    (hf : rm.frames + 1 ≤ R.frames) (hl : W + (maxL + 11) + rm.locals ≤ R.locals) (eT : T.heap = h) {a : Addr} (E : Exa Z h a C) (hg : g.method = m) (hsize : g.locals.size = c.maxLocals) (ha : (Value.ref a :: argsL).toArray = as')
    (hlen : ∀ sig, parseMethodDescriptor y.desc = some sig → argsL.length = sig.parameters.length) (hstack : g.stack = argsL.reverse ++ .ref a :: rest) (hW : 2 * g.monitorRoom + (rest.map fun v => v.category).sum ≤ W) (hdg : decode c.code g.pc = .ok (.invokeinterface index count, 5))
    (hc : cells + rm.cells ≤ R.cells) (hs : slots + rm.slots ≤ R.slots) :
    ∃ (v : Option Value) (T' : State) (L : List Loc), Stand p l e R s m args below meth c T' (locs ++ L) (cells + rm.cells) (slots + rm.slots) ∧ Qc v T'.heap L ∧ ∀ target, Steps p.tables e below (T'.setTop { g with pc := g.pc + 5, stack := v.toList ++ rest }) target → Steps p.tables e below (T.setTop g) target := by
  obtain ⟨cq, kq, q1, q2, q3⟩ := isOf hZ eT E
  obtain ⟨v, _, ⟨T', L', k', n'⟩, -, X', ⟨L, hQ, l1, l2, l3⟩, st⟩ := X.interfaceBack hx hown (mvT hZ w1) (mvT hZ w2) wf (mvT hZ w3) (mvT hZ w5) (mvT hZ wu) (mvT hZ wh) (mvT hZ wk) hy (backOf (W := W) hM hZ w4 w6 hf hl) q1 q2 q3 (g := g) hg hsize (Steps.refl _) (argsL := argsL) (rest := rest) hlen hstack hW hdg (fun _ _ => ⟨ha, eT, hc, hs⟩)
  dsimp only [Pt.U, Pt.locs, Pt.cells, Pt.slots] at X' l1 l2 l3 st hQ
  subst l1 l2 l3
  exact ⟨v, T', L, X', hQ, fun _ k => st.trans k⟩
end Call
/-- an object of C is none of K (K a class that can be made) -/
theorem NSroot {O K : String} {kk : Nat} (w : (Cond.noSuperclass O).before a0 Z = true) (wk : (Cond.instantiable K kk).before a0 Z = true) (hn : O ≠ K) : NS Z O K := by
  obtain ⟨c, k, h1, h2, h3, -, -⟩ := Cond.noSuperclass_spec w
  obtain ⟨t, kt, g1, -⟩ := Cond.instantiable_spec wk
  have ne := ids_ne h1 g1 hn
  refine ⟨c, t, h1, g1, fun fuel => ?_⟩
  cases fuel with
  | zero => rfl
  | succ f => simp [Vm.isSubclassAux, ne, h2, h3]
theorem NSno {C S K : String} {kk : Nat} (w : (Cond.superclass C S).before a0 Z = true) (wk : (Cond.instantiable K kk).before a0 Z = true) (n : NS Z C K) (hn : C ≠ K) : ∃ c t, Z.vm.findClass C = some c ∧ Z.vm.findClass K = some t ∧ Z.vm.assignable c t = false := by
  obtain ⟨c, t, h0, g0, n3⟩ := n
  obtain ⟨p, k, kp, h1, h2, h3, h4, h5, -, h7⟩ := Cond.superclass_spec h0 w
  obtain ⟨t', k', g1, g2, g5, g7, -⟩ := Cond.instantiable_spec wk
  cases g0.symm.trans g1
  simp only [Bool.or_eq_false_iff] at g7
  have ne := ids_ne h0 g0 hn
  refine ⟨c, t, h0, g0, ?_⟩
  show Z.vm.assignableAux (255 + 1) c t = false
  simp [Vm.assignableAux, ne, h2, g2, h5, g5, g7.1, Vm.isSubclass, n3]
end Own
end Jvm.OwnKit
namespace Jvm.OwnKit
open Sem ClassFile Op Lib Jvm.Stand Jvm.Free Jvm.LawKit Jvm.RoadKit
section Arrays
variable {p : Program} {l : Launch} {e : Env} {R : Room} {s : State} {m : MethodId} {args : Array Value} {below : List Frame} {meth : Method} {c : Code} {T : State} {locs : List Loc} {cells slots : Nat} {Z : State} {h : Heap}
variable {a : Addr} {k : ClassId} {z j : Int32} {vs : List Value} {dv : Value} {i : Nat} {g : JFrame} {rest : List Value}
theorem stBv (X : Stand p l e R s m args below meth c T locs cells slots) (hx : p.tables.exec = Jvm.exec) (hZ : Z.Warmed39 s.vm) (eT : T.heap = h) (F : Arv Z h a k .byte z vs dv) {x : Int32} (h1 : ¬ j < 0) (h2 : j < z) (h3 : j.toNatClampNeg = i) (h4 : i < vs.length)
    (hg : g.method = m) (hs : g.stack = .int x :: .int j :: .ref a :: rest) (hd : decode c.code g.pc = .ok (.bastore, 1)) :
    ∃ T' h', Stand p l e R s m args below meth c T' (locs ++ [⟨a, i⟩]) cells slots ∧ T'.heap = h' ∧ Wr h h' a i (.int (nar .byte x)) ∧ Arv Z h' a k .byte z (vs.set i (.int (nar .byte x))) dv ∧ ∀ target, Steps p.tables e below (T'.setTop { g with pc := g.pc + 1, stack := rest }) target → Steps p.tables e below (T.setTop g) target := by
  obtain ⟨cl, A, q1, S, q3, H, G⟩ := F
  subst h3
  obtain ⟨T', h', X', e', W, st⟩ := stB X hx hZ eT A (inb_of S ⟨h1, h2⟩) hg hs hd
  exact ⟨T', h', X', e', W, Arv.set A q1 S q3 H G (fits_nar_byte _) W _ rfl h4, st⟩
theorem stIv (X : Stand p l e R s m args below meth c T locs cells slots) (hx : p.tables.exec = Jvm.exec) (hZ : Z.Warmed39 s.vm) (eT : T.heap = h) (F : Arv Z h a k .int z vs dv) {x : Int32} (h1 : ¬ j < 0) (h2 : j < z) (h3 : j.toNatClampNeg = i) (h4 : i < vs.length)
    (hg : g.method = m) (hs : g.stack = .int x :: .int j :: .ref a :: rest) (hd : decode c.code g.pc = .ok (.iastore, 1)) :
    ∃ T' h', Stand p l e R s m args below meth c T' (locs ++ [⟨a, i⟩]) cells slots ∧ T'.heap = h' ∧ Wr h h' a i (.int x) ∧ Arv Z h' a k .int z (vs.set i (.int x)) dv ∧ ∀ target, Steps p.tables e below (T'.setTop { g with pc := g.pc + 1, stack := rest }) target → Steps p.tables e below (T.setTop g) target := by
  obtain ⟨cl, A, q1, S, q3, H, G⟩ := F
  subst h3
  obtain ⟨T', h', X', e', W, st⟩ := stI X hx hZ eT A (inb_of S ⟨h1, h2⟩) hg hs hd
  exact ⟨T', h', X', e', W, Arv.set A q1 S q3 H G rfl W _ rfl h4, st⟩
theorem stCv (X : Stand p l e R s m args below meth c T locs cells slots) (hx : p.tables.exec = Jvm.exec) (hZ : Z.Warmed39 s.vm) (eT : T.heap = h) (F : Arv Z h a k .char z vs dv) {x : Int32} (h1 : ¬ j < 0) (h2 : j < z) (h3 : j.toNatClampNeg = i) (h4 : i < vs.length)
    (hg : g.method = m) (hs : g.stack = .int x :: .int j :: .ref a :: rest) (hd : decode c.code g.pc = .ok (.castore, 1)) :
    ∃ T' h', Stand p l e R s m args below meth c T' (locs ++ [⟨a, i⟩]) cells slots ∧ T'.heap = h' ∧ Wr h h' a i (.int (nar .char x)) ∧ Arv Z h' a k .char z (vs.set i (.int (nar .char x))) dv ∧ ∀ target, Steps p.tables e below (T'.setTop { g with pc := g.pc + 1, stack := rest }) target → Steps p.tables e below (T.setTop g) target := by
  obtain ⟨cl, A, q1, S, q3, H, G⟩ := F
  subst h3
  obtain ⟨T', h', X', e', W, st⟩ := stC X hx hZ eT A (inb_of S ⟨h1, h2⟩) hg hs hd
  exact ⟨T', h', X', e', W, Arv.set A q1 S q3 H G (fits_nar_char _) W _ rfl h4, st⟩
theorem ldBv (X : Stand p l e R s m args below meth c T locs cells slots) (hx : p.tables.exec = Jvm.exec) (hZ : Z.Warmed39 s.vm) (eT : T.heap = h) (F : Arv Z h a k .byte z vs dv) {w : Int32} (h1 : ¬ j < 0) (h2 : j < z) (h3 : j.toNatClampNeg = i) (hv : vs.getD i dv = .int w)
    (hg : g.method = m) (hs : g.stack = .int j :: .ref a :: rest) (hd : decode c.code g.pc = .ok (.baload, 1)) : ∀ target, Steps p.tables e below (T.setTop { g with pc := g.pc + 1, stack := .int w :: rest }) target → Steps p.tables e below (T.setTop g) target := by
  obtain ⟨cl, A, q1, S, q3, H, G⟩ := F
  subst h3
  exact X.baloadBytes hx (by rw [eT]; exact A.1) (State.isArrayOf_alike hZ.alike A.2.1) A.2.2 (inb_of S ⟨h1, h2⟩) (H.at (inb_of S ⟨h1, h2⟩) hv) hg hs hd
theorem ldIv (X : Stand p l e R s m args below meth c T locs cells slots) (hx : p.tables.exec = Jvm.exec) (hZ : Z.Warmed39 s.vm) (eT : T.heap = h) (F : Arv Z h a k .int z vs dv) {w : Int32} (h1 : ¬ j < 0) (h2 : j < z) (h3 : j.toNatClampNeg = i) (hv : vs.getD i dv = .int w)
    (hg : g.method = m) (hs : g.stack = .int j :: .ref a :: rest) (hd : decode c.code g.pc = .ok (.iaload, 1)) : ∀ target, Steps p.tables e below (T.setTop { g with pc := g.pc + 1, stack := .int w :: rest }) target → Steps p.tables e below (T.setTop g) target := by
  obtain ⟨cl, A, q1, S, q3, H, G⟩ := F
  subst h3
  exact X.iaload hx (by rw [eT]; exact A.1) (State.isArrayOf_alike hZ.alike A.2.1) A.2.2 (inb_of S ⟨h1, h2⟩) (H.at (inb_of S ⟨h1, h2⟩) hv) hg hs hd
theorem ldCv (X : Stand p l e R s m args below meth c T locs cells slots) (hx : p.tables.exec = Jvm.exec) (hZ : Z.Warmed39 s.vm) (eT : T.heap = h) (F : Arv Z h a k .char z vs dv) {w : Int32} (h1 : ¬ j < 0) (h2 : j < z) (h3 : j.toNatClampNeg = i) (hv : vs.getD i dv = .int w)
    (hg : g.method = m) (hs : g.stack = .int j :: .ref a :: rest) (hd : decode c.code g.pc = .ok (.caload, 1)) : ∀ target, Steps p.tables e below (T.setTop { g with pc := g.pc + 1, stack := .int w :: rest }) target → Steps p.tables e below (T.setTop g) target := by
  obtain ⟨cl, A, q1, S, q3, H, G⟩ := F
  subst h3
  exact X.caload hx (by rw [eT]; exact A.1) (State.isArrayOf_alike hZ.alike A.2.1) A.2.2 (inb_of S ⟨h1, h2⟩) (H.at (inb_of S ⟨h1, h2⟩) hv) hg hs hd
theorem stRv {ty : FieldType} {y : Addr} {C : String} (X : Stand p l e R s m args below meth c T locs cells slots) (hx : p.tables.exec = Jvm.exec) (hZ : Z.Warmed39 s.vm) (eT : T.heap = h) (F : Arv Z h a k ty z vs dv) (O : Ovr Z k C) (I : Ins Z h y C true) (hty : ty.isReference = true) (hfit : fits ty (.ref y) = true) (h1 : ¬ j < 0) (h2 : j < z) (h3 : j.toNatClampNeg = i) (h4 : i < vs.length)
    (hg : g.method = m) (hs : g.stack = .ref y :: .int j :: .ref a :: rest) (hd : decode c.code g.pc = .ok (.aastore, 1)) :
    ∃ T' h', Stand p l e R s m args below meth c T' (locs ++ [⟨a, i⟩]) cells slots ∧ T'.heap = h' ∧ Wr h h' a i (.ref y) ∧ Arv Z h' a k ty z (vs.set i (.ref y)) dv ∧ ∀ target, Steps p.tables e below (T'.setTop { g with pc := g.pc + 1, stack := rest }) target → Steps p.tables e below (T.setTop g) target := by
  obtain ⟨cl, A, q1, S, q3, H, G⟩ := F
  subst h3
  obtain ⟨T', h', X', e', W, st⟩ := stR X hx hZ eT A (inb_of S ⟨h1, h2⟩) hty (Sto.ofV A q1 O I) hg hs hd
  exact ⟨T', h', X', e', W, Arv.set A q1 S q3 H G hfit W _ rfl h4, st⟩
theorem stNv {ty : FieldType} (X : Stand p l e R s m args below meth c T locs cells slots) (hx : p.tables.exec = Jvm.exec) (hZ : Z.Warmed39 s.vm) (eT : T.heap = h) (F : Arv Z h a k ty z vs dv) (hty : ty.isReference = true) (hfit : fits ty .null = true) (h1 : ¬ j < 0) (h2 : j < z) (h3 : j.toNatClampNeg = i) (h4 : i < vs.length)
    (hg : g.method = m) (hs : g.stack = .null :: .int j :: .ref a :: rest) (hd : decode c.code g.pc = .ok (.aastore, 1)) :
    ∃ T' h', Stand p l e R s m args below meth c T' (locs ++ [⟨a, i⟩]) cells slots ∧ T'.heap = h' ∧ Wr h h' a i .null ∧ Arv Z h' a k ty z (vs.set i .null) dv ∧ ∀ target, Steps p.tables e below (T'.setTop { g with pc := g.pc + 1, stack := rest }) target → Steps p.tables e below (T.setTop g) target := by
  obtain ⟨cl, A, q1, S, q3, H, G⟩ := F
  subst h3
  obtain ⟨T', h', X', e', W, st⟩ := stR X hx hZ eT A (inb_of S ⟨h1, h2⟩) hty (Or.inl rfl) hg hs hd
  exact ⟨T', h', X', e', W, Arv.set A q1 S q3 H G hfit W _ rfl h4, st⟩
theorem lenV {ty : FieldType} (X : Stand p l e R s m args below meth c T locs cells slots) (hx : p.tables.exec = Jvm.exec) (hZ : Z.Warmed39 s.vm) (eT : T.heap = h) (F : Arv Z h a k ty z vs dv) (hg : g.method = m) (hs : g.stack = .ref a :: rest) (hd : decode c.code g.pc = .ok (.arraylength, 1)) :
    ∀ target, Steps p.tables e below (T.setTop { g with pc := g.pc + 1, stack := .int z :: rest }) target → Steps p.tables e below (T.setTop g) target := by
  obtain ⟨cl, A, q1, S, q3, H, G⟩ := F
  intro target kk
  rw [← len_of S q3] at kk
  exact X.arraylength hx (by rw [eT]; exact A.1) (State.isArrayOf_alike hZ.alike A.2.1) hg hs hd target kk
end Arrays
end Jvm.OwnKit
namespace Jvm.OwnKit
open Sem ClassFile Op Lib Jvm.Stand Jvm.Free Jvm.LawKit Jvm.RoadKit
section ArraysD
variable {p : Program} {l : Launch} {e : Env} {R : Room} {s : State} {m : MethodId} {args : Array Value} {below : List Frame} {meth : Method} {c : Code} {T : State} {locs : List Loc} {cells slots : Nat} {Z : State} {h : Heap} {a0 : Array Value}
variable {a : Addr} {k : ClassId} {z j : Int32} {vs : List Value} {dv : Value} {i : Nat} {g : JFrame} {rest : List Value}
theorem stDv (X : Stand p l e R s m args below meth c T locs cells slots) (hx : p.tables.exec = Jvm.exec) (hZ : Z.Warmed39 s.vm) (eT : T.heap = h) (F : Arv Z h a k .double z vs dv) {x : UInt64} (h1 : ¬ j < 0) (h2 : j < z) (h3 : j.toNatClampNeg = i) (h4 : i < vs.length)
    (hg : g.method = m) (hs : g.stack = .double x :: .int j :: .ref a :: rest) (hd : decode c.code g.pc = .ok (.dastore, 1)) :
    ∃ T' h', Stand p l e R s m args below meth c T' (locs ++ [⟨a, i⟩]) cells slots ∧ T'.heap = h' ∧ Wr h h' a i (.double x) ∧ Arv Z h' a k .double z (vs.set i (.double x)) dv ∧ ∀ target, Steps p.tables e below (T'.setTop { g with pc := g.pc + 1, stack := rest }) target → Steps p.tables e below (T.setTop g) target := by
  obtain ⟨cl, A, q1, S, q3, H, G⟩ := F
  subst h3
  obtain ⟨T', h', X', e', W, st⟩ := stD X hx hZ eT A (inb_of S ⟨h1, h2⟩) hg hs hd
  exact ⟨T', h', X', e', W, Arv.set A q1 S q3 H G rfl W _ rfl h4, st⟩
theorem stJv (X : Stand p l e R s m args below meth c T locs cells slots) (hx : p.tables.exec = Jvm.exec) (hZ : Z.Warmed39 s.vm) (eT : T.heap = h) (F : Arv Z h a k .long z vs dv) {x : Int64} (h1 : ¬ j < 0) (h2 : j < z) (h3 : j.toNatClampNeg = i) (h4 : i < vs.length)
    (hg : g.method = m) (hs : g.stack = .long x :: .int j :: .ref a :: rest) (hd : decode c.code g.pc = .ok (.lastore, 1)) :
    ∃ T' h', Stand p l e R s m args below meth c T' (locs ++ [⟨a, i⟩]) cells slots ∧ T'.heap = h' ∧ Wr h h' a i (.long x) ∧ Arv Z h' a k .long z (vs.set i (.long x)) dv ∧ ∀ target, Steps p.tables e below (T'.setTop { g with pc := g.pc + 1, stack := rest }) target → Steps p.tables e below (T.setTop g) target := by
  obtain ⟨cl, A, q1, S, q3, H, G⟩ := F
  subst h3
  obtain ⟨T', h', X', e', W, st⟩ := stJ X hx hZ eT A (inb_of S ⟨h1, h2⟩) hg hs hd
  exact ⟨T', h', X', e', W, Arv.set A q1 S q3 H G rfl W _ rfl h4, st⟩
theorem ldDv (X : Stand p l e R s m args below meth c T locs cells slots) (hx : p.tables.exec = Jvm.exec) (hZ : Z.Warmed39 s.vm) (eT : T.heap = h) (F : Arv Z h a k .double z vs dv) {w : UInt64} (h1 : ¬ j < 0) (h2 : j < z) (h3 : j.toNatClampNeg = i) (hv : vs.getD i dv = .double w)
    (hg : g.method = m) (hs : g.stack = .int j :: .ref a :: rest) (hd : decode c.code g.pc = .ok (.daload, 1)) : ∀ target, Steps p.tables e below (T.setTop { g with pc := g.pc + 1, stack := .double w :: rest }) target → Steps p.tables e below (T.setTop g) target := by
  obtain ⟨cl, A, q1, S, q3, H, G⟩ := F
  subst h3
  exact X.daload hx (by rw [eT]; exact A.1) (State.isArrayOf_alike hZ.alike A.2.1) A.2.2 (inb_of S ⟨h1, h2⟩) (H.at (inb_of S ⟨h1, h2⟩) hv) hg hs hd
theorem ldJv (X : Stand p l e R s m args below meth c T locs cells slots) (hx : p.tables.exec = Jvm.exec) (hZ : Z.Warmed39 s.vm) (eT : T.heap = h) (F : Arv Z h a k .long z vs dv) {w : Int64} (h1 : ¬ j < 0) (h2 : j < z) (h3 : j.toNatClampNeg = i) (hv : vs.getD i dv = .long w)
    (hg : g.method = m) (hs : g.stack = .int j :: .ref a :: rest) (hd : decode c.code g.pc = .ok (.laload, 1)) : ∀ target, Steps p.tables e below (T.setTop { g with pc := g.pc + 1, stack := .long w :: rest }) target → Steps p.tables e below (T.setTop g) target := by
  obtain ⟨cl, A, q1, S, q3, H, G⟩ := F
  subst h3
  exact X.laload hx (by rw [eT]; exact A.1) (State.isArrayOf_alike hZ.alike A.2.1) A.2.2 (inb_of S ⟨h1, h2⟩) (H.at (inb_of S ⟨h1, h2⟩) hv) hg hs hd
theorem ldJw {x0 x1 x2 : Int64} (X : Stand p l e R s m args below meth c T locs cells slots) (hx : p.tables.exec = Jvm.exec) (hZ : Z.Warmed39 s.vm) (eT : T.heap = h) (F : Arv Z h a k .long 3 [.long x0, .long x1, .long x2] dv) (hj : j = 0 ∨ j = 1 ∨ j = 2)
    (hg : g.method = m) (hs : g.stack = .int j :: .ref a :: rest) (hd : decode c.code g.pc = .ok (.laload, 1)) : ∀ target, Steps p.tables e below (T.setTop { g with pc := g.pc + 1, stack := .long (if j = 0 then x0 else if j = 1 then x1 else x2) :: rest }) target → Steps p.tables e below (T.setTop g) target := by
  rcases hj with rfl | rfl | rfl
  · exact ldJv X hx hZ eT F (i := 0) (by decide) (by decide) (by decide) rfl hg hs hd
  · exact ldJv X hx hZ eT F (i := 1) (by decide) (by decide) (by decide) rfl hg hs hd
  · exact ldJv X hx hZ eT F (i := 2) (by decide) (by decide) (by decide) rfl hg hs hd
theorem stJw {x0 x1 x2 x : Int64} (X : Stand p l e R s m args below meth c T locs cells slots) (hx : p.tables.exec = Jvm.exec) (hZ : Z.Warmed39 s.vm) (eT : T.heap = h) (F : Arv Z h a k .long 3 [.long x0, .long x1, .long x2] dv) (hj : j = 0 ∨ j = 1 ∨ j = 2)
    (hg : g.method = m) (hs : g.stack = .long x :: .int j :: .ref a :: rest) (hd : decode c.code g.pc = .ok (.lastore, 1)) :
    ∃ T' h' i, Stand p l e R s m args below meth c T' (locs ++ [⟨a, i⟩]) cells slots ∧ T'.heap = h' ∧ Wr h h' a i (.long x) ∧ Arv Z h' a k .long 3 [.long (if j = 0 then x else x0), .long (if j = 1 then x else x1), .long (if j = 2 then x else x2)] dv ∧ ∀ target, Steps p.tables e below (T'.setTop { g with pc := g.pc + 1, stack := rest }) target → Steps p.tables e below (T.setTop g) target := by
  rcases hj with rfl | rfl | rfl
  · obtain ⟨T', h', X', e', W, V, st⟩ := stJv X hx hZ eT F (i := 0) (by decide) (by decide) (by decide) (Nat.le_of_ble_eq_true rfl) hg hs hd
    exact ⟨T', h', 0, X', e', W, V, st⟩
  · obtain ⟨T', h', X', e', W, V, st⟩ := stJv X hx hZ eT F (i := 1) (by decide) (by decide) (by decide) (Nat.le_of_ble_eq_true rfl) hg hs hd
    exact ⟨T', h', 1, X', e', W, V, st⟩
  · obtain ⟨T', h', X', e', W, V, st⟩ := stJv X hx hZ eT F (i := 2) (by decide) (by decide) (by decide) (Nat.le_of_ble_eq_true rfl) hg hs hd
    exact ⟨T', h', 2, X', e', W, V, st⟩
theorem cloneV {own ad : String} {index : Nat} {ty : FieldType} (X : Stand p l e R s m args below meth c T locs cells slots) (hx : p.tables.exec = Jvm.exec) (hZ : Z.Warmed39 s.vm) (hown : s.vm.findClass own = some m.cls)
    (w1 : (Cond.methodLink own index ⟨ad, "clone", "()Ljava/lang/Object;"⟩).before a0 Z = true) (w2 : (Cond.sameMethod ad "java/lang/Object" "clone" "()Ljava/lang/Object;").before a0 Z = true) (w3 : (Cond.native ⟨"java/lang/Object", "clone", "()Ljava/lang/Object;"⟩).before a0 Z = true)
    (w4 : (Cond.instanceMethod ⟨"java/lang/Object", "clone", "()Ljava/lang/Object;"⟩).before a0 Z = true) (w5 : (Cond.selects ad ⟨ad, "clone", "()Ljava/lang/Object;"⟩ ⟨"java/lang/Object", "clone", "()Ljava/lang/Object;"⟩).before a0 Z = true) (w6 : (Cond.castable ad "java/lang/Cloneable").before a0 Z = true)
    (eT : T.heap = h) (F : Arv Z h a k ty z vs dv) (E : Exa Z h a ad) (hg : g.method = m) (hsize : g.locals.size = c.maxLocals) (hst : g.stack = .ref a :: rest) (hd : decode c.code g.pc = .ok (.invokevirtual index, 3))
    (hf : 1 ≤ R.frames) {W cap : Nat} (hW : 2 * g.monitorRoom + (rest.map fun v => v.category).sum ≤ W) (hl : W + 14 ≤ R.locals) (hcap : z.toNatClampNeg ≤ cap) (hc : cells + 1 ≤ R.cells) (hsl : slots + cap ≤ R.slots) :
    ∃ T' h', Stand p l e R s m args below meth c T' locs (cells + 1) (slots + cap) ∧ T'.heap = h' ∧ Ext h h' ∧ Arv Z h' h.size k ty z vs dv ∧ Exa Z h' h.size ad ∧
      ∀ target, Steps p.tables e below (T'.setTop { g with pc := g.pc + 3, stack := .ref h.size :: rest }) target → Steps p.tables e below (T.setTop g) target := by
  obtain ⟨cl, A, q1, S, q3, H, G⟩ := F
  have FC : FitC Z cl := fitC_of A fun i hi v hv => by rw [H i hi] at hv; cases hv; exact G i hi
  obtain ⟨T', h', X', e', ex, A', E', st⟩ := cloneA X hx hZ hown w1 w2 w3 w4 w5 w6 eT A E FC hg hsize hst hd hf hW hl (by rw [S]; exact hcap) hc hsl
  exact ⟨T', h', X', e', ex, ⟨cloneOf cl, A', q1, S, q3, H, G⟩, E', st⟩
end ArraysD
section EndD
variable {p : Program} {l : Launch} {e : Env} {R : Room} {s : State} {m : MethodId} {args : Array Value} {below : List Frame} {meth : Method} {c : Code} {T : State} {locs : List Loc} {cells slots : Nat} {h : Heap} {Q : Option Value → Heap → List Loc → Prop} {kc ks : Nat}
theorem endD (X : Stand p l e R s m args below meth c T locs cells slots) (hx : p.tables.exec = Jvm.exec) (hlk : meth.locks = false) (hret : meth.sig.returnType = some .double) {pc : Nat} {Ls : Array Slot} {z : UInt64} {rest : List Value} (hd : decode c.code pc = .ok (.dreturn, 1))
    (eT : T.heap = h) (hk : cells ≤ kc) (hs : slots ≤ ks) (hQ : Q (some (.double z)) h locs) : OwnEnd p e below s Q kc ks (T.setTop (mkF m pc Ls (.double z :: rest))) :=
  done X hlk (fun q => by rw [hret] at q; cases q) (fun fs hr => retOut X hx (w := .double z) hret rfl (Or.inr (Or.inr (Or.inl ⟨rfl, rfl, z, rfl⟩))) hd hr) eT hk hs hQ
end EndD
end Jvm.OwnKit
namespace Jvm.OwnKit
open Sem ClassFile Op Lib Jvm.Stand Jvm.Free Jvm.LawKit Jvm.RoadKit
section Nest
variable {p : Program} {l : Launch} {e : Env} {R : Room} {s : State} {m : MethodId} {args : Array Value} {below : List Frame} {meth : Method} {c : Code} {T : State} {locs : List Loc} {cells slots : Nat} {Z : State} {h : Heap} {a0 : Array Value}
variable {own host : String} {index : Nat} {y z : MethodName} {bytes : ByteArray} {maxL W : Nat} {ret : Option FieldType} {rm : Room} {as' : Array Value} {Qc : Option Value → Heap → List Loc → Prop} {g : JFrame} {argsL rest : List Value}
theorem callInitN (X : Stand p l e R s m args below meth c T locs cells slots) (hx : p.tables.exec = Jvm.exec) (hZ : Z.Warmed39 s.vm) (hown : s.vm.findClass own = some m.cls) (hy1 : y.name = "<init>")
    (w1 : (Cond.methodLinkNest own index y host).before a0 Z = true) (w2 : (Cond.instanceMethod y).before a0 Z = true) (w3 : (Cond.initialized y.cls).before a0 Z = true) (w4 : (Cond.code y bytes maxL none).before a0 Z = true)
    (hy : y.cls ≠ "java/lang/invoke/MethodHandle" ∧ y.cls ≠ "java/lang/invoke/VarHandle")
    (hM : MetFree l y (head1 [Cond.code y bytes maxL none] rm) (fun a U => a = as' ∧ Z.Warmed39 U.vm ∧ U.heap = h) (fun _ _ _ _ _ => True) (fun _ U o U' => ∃ v L, o = .returned v ∧ Qc v U'.heap L ∧ FrameEnd U o U' L rm.cells rm.slots))
    (hf : rm.frames + 1 ≤ R.frames) (hl : W + (maxL + 11) + rm.locals ≤ R.locals) (eT : T.heap = h) (hg : g.method = m) (hsize : g.locals.size = c.maxLocals) {a : Addr} (ha : (Value.ref a :: argsL).toArray = as')
    (hlen : ∀ sig, parseMethodDescriptor y.desc = some sig → argsL.length = sig.parameters.length) (hstack : g.stack = argsL.reverse ++ .ref a :: rest) (hW : 2 * g.monitorRoom + (rest.map fun v => v.category).sum ≤ W) (hdg : decode c.code g.pc = .ok (.invokespecial index, 3))
    (hc : cells + rm.cells ≤ R.cells) (hs : slots + rm.slots ≤ R.slots) :
    ∃ (v : Option Value) (T' : State) (L : List Loc), Stand p l e R s m args below meth c T' (locs ++ L) (cells + rm.cells) (slots + rm.slots) ∧ Qc v T'.heap L ∧ ∀ target, Steps p.tables e below (T'.setTop { g with pc := g.pc + 3, stack := v.toList ++ rest }) target → Steps p.tables e below (T.setTop g) target := by
  obtain ⟨v, _, ⟨T', L', k', n'⟩, -, X', ⟨L, hQ, l1, l2, l3⟩, st⟩ := X.specialBackNest hx hy1 hown (Cond.methodLinkNest_wide hZ w1 :) (mvT hZ w2) (mvT hZ w4) hy (backOf (W := W) hM hZ w4 w3 hf hl) (g := g) hg hsize (Steps.refl _) (a := a) (argsL := argsL) (rest := rest) hlen hstack hW hdg (fun _ _ => ⟨ha, eT, hc, hs⟩)
  dsimp only [Pt.U, Pt.locs, Pt.cells, Pt.slots] at X' l1 l2 l3 st hQ
  subst l1 l2 l3
  exact ⟨v, T', L, X', hQ, fun _ k => st.trans k⟩
end Nest
end Jvm.OwnKit
namespace Jvm.OwnKit
open Sem ClassFile Op Lib Jvm.Stand Jvm.Free Jvm.LawKit Jvm.RoadKit
theorem ldRv {p : Program} {l : Launch} {e : Env} {R : Room} {s : State} {m : MethodId} {args : Array Value} {below : List Frame} {meth : Method} {c : Code} {T : State} {locs : List Loc} {cells slots : Nat} {Z : State} {h : Heap} {a : Addr} {k : ClassId} {z j : Int32} {vs : List Value} {dv : Value} {i : Nat} {g : JFrame} {rest : List Value} {ty : FieldType}
    (X : Stand p l e R s m args below meth c T locs cells slots) (hx : p.tables.exec = Jvm.exec) (hZ : Z.Warmed39 s.vm) (eT : T.heap = h) (F : Arv Z h a k ty z vs dv) {w : Value} (hty : ty.isReference = true) (h1 : ¬ j < 0) (h2 : j < z) (h3 : j.toNatClampNeg = i) (hv : vs.getD i dv = w)
    (hg : g.method = m) (hs : g.stack = .int j :: .ref a :: rest) (hd : decode c.code g.pc = .ok (.aaload, 1)) : ∀ target, Steps p.tables e below (T.setTop { g with pc := g.pc + 1, stack := w :: rest }) target → Steps p.tables e below (T.setTop g) target := by
  obtain ⟨cl, A, q1, S, q3, H, G⟩ := F
  subst h3
  exact X.aaload hx (by rw [eT]; exact A.1) (State.isArrayOf_alike hZ.alike A.2.1) hty A.2.2 (inb_of S ⟨h1, h2⟩) (H.at (inb_of S ⟨h1, h2⟩) hv) hg hs hd
end Jvm.OwnKit
namespace Jvm.OwnKit
open Sem ClassFile Op Lib Jvm.Stand Jvm.Free Jvm.LawKit Jvm.RoadKit
section CallB
variable {p : Program} {l : Launch} {e : Env} {R : Room} {s : State} {m : MethodId} {args : Array Value} {below : List Frame} {meth : Method} {c : Code} {T : State} {locs : List Loc} {cells slots : Nat} {Z : State} {a0 : Array Value} {h : Heap}
variable {own : String} {index : Nat} {y z : MethodName} {bytes : ByteArray} {maxL W kc ks : Nat} {as' : Array Value} {Qc : Option Value → Heap → List Loc → Prop} {g : JFrame} {argsL rest : List Value}
theorem callInitB (X : Stand p l e R s m args below meth c T locs cells slots) (hx : p.tables.exec = Jvm.exec) (hZ : Z.Warmed39 s.vm) (hown : s.vm.findClass own = some m.cls) (hy1 : y.name = "<init>")
    (w1 : (Cond.methodLink own index y).before a0 Z = true) (w2 : (Cond.instanceMethod y).before a0 Z = true) (w4 : (Cond.code y bytes maxL none).before a0 Z = true)
    (hy : y.cls ≠ "java/lang/invoke/MethodHandle" ∧ y.cls ≠ "java/lang/invoke/VarHandle")
    (hK : Back l R p e below s args y 3 W (fun A a => a = as' ∧ A.U.heap = h ∧ A.cells + kc ≤ R.cells ∧ A.slots + ks ≤ R.slots) (fun A _ v B => ∃ L, Qc v B.U.heap L ∧ B.locs = A.locs ++ L ∧ B.cells = A.cells + kc ∧ B.slots = A.slots + ks))
    (eT : T.heap = h) (hg : g.method = m) (hsize : g.locals.size = c.maxLocals) {a : Addr} (ha : (Value.ref a :: argsL).toArray = as')
    (hlen : ∀ sig, parseMethodDescriptor y.desc = some sig → argsL.length = sig.parameters.length) (hstack : g.stack = argsL.reverse ++ .ref a :: rest) (hW : 2 * g.monitorRoom + (rest.map fun v => v.category).sum ≤ W) (hdg : decode c.code g.pc = .ok (.invokespecial index, 3))
    (hc : cells + kc ≤ R.cells) (hs : slots + ks ≤ R.slots) :
    ∃ (v : Option Value) (T' : State) (L : List Loc), Stand p l e R s m args below meth c T' (locs ++ L) (cells + kc) (slots + ks) ∧ Qc v T'.heap L ∧ ∀ target, Steps p.tables e below (T'.setTop { g with pc := g.pc + 3, stack := v.toList ++ rest }) target → Steps p.tables e below (T.setTop g) target := by
  obtain ⟨v, _, ⟨T', L', k', n'⟩, -, X', ⟨L, hQ, l1, l2, l3⟩, st⟩ := X.specialBack hx hy1 hown (mvT hZ w1) (mvT hZ w2) (mvT hZ w4) hy hK (g := g) hg hsize (Steps.refl _) (a := a) (argsL := argsL) (rest := rest) hlen hstack hW hdg (fun _ _ => ⟨ha, eT, hc, hs⟩)
  dsimp only [Pt.U, Pt.locs, Pt.cells, Pt.slots] at X' l1 l2 l3 st hQ
  subst l1 l2 l3
  exact ⟨v, T', L, X', hQ, fun _ k => st.trans k⟩
theorem callVirtB (X : Stand p l e R s m args below meth c T locs cells slots) (hx : p.tables.exec = Jvm.exec) (hZ : Z.Warmed39 s.vm) (hown : s.vm.findClass own = some m.cls) {C : String}
    (w1 : (Cond.methodLink own index y).before a0 Z = true) (w2 : (Cond.declares y).before a0 Z = true) (hnf : NotFace s y) (w3 : (Cond.selects C y z).before a0 Z = true) (w5 : (Cond.instanceMethod z).before a0 Z = true)
    (hy : y.cls ≠ "java/lang/invoke/MethodHandle" ∧ y.cls ≠ "java/lang/invoke/VarHandle")
    (hK : Back l R p e below s args z 3 W (fun A a => a = as' ∧ A.U.heap = h ∧ A.cells + kc ≤ R.cells ∧ A.slots + ks ≤ R.slots) (fun A _ v B => ∃ L, Qc v B.U.heap L ∧ B.locs = A.locs ++ L ∧ B.cells = A.cells + kc ∧ B.slots = A.slots + ks))
    (eT : T.heap = h) {a : Addr} (E : Exa Z h a C) (hg : g.method = m) (hsize : g.locals.size = c.maxLocals) (ha : (Value.ref a :: argsL).toArray = as')
    (hlen : ∀ sig, parseMethodDescriptor y.desc = some sig → argsL.length = sig.parameters.length) (hstack : g.stack = argsL.reverse ++ .ref a :: rest) (hW : 2 * g.monitorRoom + (rest.map fun v => v.category).sum ≤ W) (hdg : decode c.code g.pc = .ok (.invokevirtual index, 3))
    (hc : cells + kc ≤ R.cells) (hs : slots + ks ≤ R.slots) :
    ∃ (v : Option Value) (T' : State) (L : List Loc), Stand p l e R s m args below meth c T' (locs ++ L) (cells + kc) (slots + ks) ∧ Qc v T'.heap L ∧ ∀ target, Steps p.tables e below (T'.setTop { g with pc := g.pc + 3, stack := v.toList ++ rest }) target → Steps p.tables e below (T.setTop g) target := by
  obtain ⟨cq, kq, q1, q2, q3⟩ := isOf hZ eT E
  obtain ⟨v, _, ⟨T', L', k', n'⟩, -, X', ⟨L, hQ, l1, l2, l3⟩, st⟩ := X.virtualBack hx hown (mvT hZ w1) (mvT hZ w2) hnf (mvT hZ w3) (mvT hZ w5) hy hK q1 q3 (g := g) hg hsize (Steps.refl _) (argsL := argsL) (rest := rest) hlen hstack hW hdg (fun _ _ => ⟨ha, eT, hc, hs⟩)
  dsimp only [Pt.U, Pt.locs, Pt.cells, Pt.slots] at X' l1 l2 l3 st hQ
  subst l1 l2 l3
  exact ⟨v, T', L, X', hQ, fun _ k => st.trans k⟩
end CallB
end Jvm.OwnKit
namespace Jvm.OwnKit
open Sem ClassFile Op Lib Jvm.Stand Jvm.Free Jvm.LawKit Jvm.RoadKit
/-- as OwnEnd, where String constants may be loaded on the road -/
def OwnEndW (p : Program) (e : Env) (below : List Frame) (s : State) (Q : Option Value → Heap → List Loc → Prop) (kc ks : Nat) (A : State) : Prop :=
  ∃ (s₂ : State) (o : Outcome), Steps p.tables e below A s₂ ∧ s₂.status = .running ∧ Ended s₂ below o ∧ ∃ v L, o = .returned v ∧ Q v s₂.heap L ∧ ReturnedEndW s o s₂ L kc ks
section Cold
variable {p : Program} {l : Launch} {e : Env} {R : Room} {s : State} {m : MethodId} {args : Array Value} {below : List Frame} {meth : Method} {c : Code} {T : State} {locs : List Loc} {cells slots : Nat} {Z : State} {a0 : Array Value} {h : Heap}
variable {Q : Option Value → Heap → List Loc → Prop} {kc ks : Nat}
theorem goW {A B : State} (k : ∀ t, Steps p.tables e below B t → Steps p.tables e below A t) (F : OwnEndW p e below s Q kc ks B) : OwnEndW p e below s Q kc ks A := by
  obtain ⟨s₂, o, h1, r⟩ := F; exact ⟨s₂, o, k _ h1, r⟩
theorem doneW {vm₁ : Vm} (X : Stand p l e R (s.setVm vm₁) m args below meth c T locs cells slots) {n : Nat} (hS : s.Since vm₁ n) (hn : n ≤ h.size) (hlk : meth.locks = false) {v : Option Value} (hv : meth.sig.returnType = none → v = none) {A : State}
    (st : ∀ fs, (∀ (f : JFrame) (acts : List Action), f.method = m → f.locked = none → f.entered = [] → (doReturn e (T.setTop f) acts v).1 = T.setFrames fs) → Steps p.tables e below A (T.setFrames fs))
    (eT : T.heap = h) (hk : cells ≤ kc) (hs : slots ≤ ks) (hQ : Q v h locs) : OwnEndW p e below s Q kc ks A := by
  obtain ⟨fs, hr, hrun, hended, h1, h2, h3, h4⟩ := X.leaveW hS (by rw [eT]; exact hn) (v := v) hv hlk
  exact ⟨_, _, st fs hr, hrun, hended, _, _, rfl, (by show Q v T.heap locs; rw [eT]; exact hQ), h1, h2, h3, h4.mono hk hs⟩
theorem endNW {vm₁ : Vm} (X : Stand p l e R (s.setVm vm₁) m args below meth c T locs cells slots) {n : Nat} (hS : s.Since vm₁ n) (hn : n ≤ h.size) (hx : p.tables.exec = Jvm.exec) (hlk : meth.locks = false) {t : FieldType} (ht : t = .boolean ∨ t = .byte ∨ t = .char ∨ t = .short) (hret : meth.sig.returnType = some t) {pc : Nat} {Ls : Array Slot} {z : Int32} {rest : List Value} (hd : decode c.code pc = .ok (.ireturn, 1))
    (eT : T.heap = h) (hk : cells ≤ kc) (hs : slots ≤ ks) (hQ : Q (some (.int (nar t z))) h locs) : OwnEndW p e below s Q kc ks (T.setTop (mkF m pc Ls (.int z :: rest))) :=
  doneW X hS hn hlk (fun q => by rw [hret] at q; cases q) (fun fs hr => retN X hx hret ht hd hr) eT hk hs hQ
end Cold
end Jvm.OwnKit
namespace Jvm.OwnKit
open Sem ClassFile Op Lib Jvm.Stand Jvm.Free Jvm.LawKit Jvm.RoadKit
/-- as OwnEndW, and the booked String constants of EL still say their texts -/
def OwnEndH (Z : State) (EL : List (String × Nat)) (p : Program) (e : Env) (below : List Frame) (s : State) (Q : Option Value → Heap → List Loc → Prop) (kc ks : Nat) (A : State) : Prop :=
  ∃ (s₂ : State) (o : Outcome), Steps p.tables e below A s₂ ∧ s₂.status = .running ∧ Ended s₂ below o ∧ ∃ v L, o = .returned v ∧ Q v s₂.heap L ∧ CHr Z EL s.vm s.heap s₂.vm s₂.heap ∧ ReturnedEndW s o s₂ L kc ks
theorem own_safe {Z : State} {EL : List (String × Nat)} {vm : Vm} {h : Heap} {x : Addr} (hal : Z.vm.Alike vm) (E : Exa Z h x "java/lang/String") (F : Fld Z h x "java/lang/String" "value" "[B" .null) : Safe Z EL vm h x := fun B => by
  obtain ⟨p, -, u, a, -, q, -, G, rfl | rfl⟩ := B
  · obtain ⟨cell, cf, k, i, f, e1, e2, -, -, -, -, e7⟩ := F
    obtain ⟨cS, ⟨⟨s1, -, -, ⟨cv, kv, iv, s4, -⟩, -, -, -, s8, -⟩, -⟩, -⟩ := G
    obtain ⟨kv', z4⟩ := ff_back (U := Wst Z vm h) hal s4
    cases (show h[q.sa]? = some q.sC from s1).symm.trans e1
    have e := e2.symm.trans z4
    simp only [Option.some.injEq, Prod.mk.injEq] at e
    rw [e.2.2.2] at e7
    cases e7.symm.trans s8
  · obtain ⟨cell, k, e1, e2, -⟩ := E
    cases (show h[q.sd]? = some q.SA from G.hd).symm.trans e1
    obtain ⟨cS, -, -, f, -⟩ := G
    have f' : vm.findClass "[B" = some q.SA.cls := f
    rw [hal.findClass] at f'
    obtain ⟨k1, q1, q2⟩ := Vm.findClass_spec f'
    obtain ⟨k2, q3, q4⟩ := Vm.findClass_spec e2
    cases q1.symm.trans q3
    exact absurd (q2.symm.trans q4) (by decide)
section ColdH
variable {p : Program} {l : Launch} {e : Env} {R : Room} {s : State} {m : MethodId} {args : Array Value} {below : List Frame} {meth : Method} {c : Code} {T : State} {locs : List Loc} {cells slots : Nat} {Z : State} {a0 : Array Value} {h h0 : Heap} {EL : List (String × Nat)}
variable {Q : Option Value → Heap → List Loc → Prop} {kc ks : Nat}
theorem goH {A B : State} (k : ∀ t, Steps p.tables e below B t → Steps p.tables e below A t) (F : OwnEndH Z EL p e below s Q kc ks B) : OwnEndH Z EL p e below s Q kc ks A := by
  obtain ⟨s₂, o, h1, r⟩ := F; exact ⟨s₂, o, k _ h1, r⟩
theorem doneH {vm₁ : Vm} (X : Stand p l e R (s.setVm vm₁) m args below meth c T locs cells slots) {n : Nat} (hS : s.Since vm₁ n) (hn : n ≤ h.size) (hZ : Z.Warmed39 vm₁) (hEL : EW Z a0 EL) (hh : s.heap = h0) (HC : CHr Z EL s.vm h0 vm₁ h) (hlk : meth.locks = false) {v : Option Value} (hv : meth.sig.returnType = none → v = none) {A : State}
    (st : ∀ fs, (∀ (f : JFrame) (acts : List Action), f.method = m → f.locked = none → f.entered = [] → (doReturn e (T.setTop f) acts v).1 = T.setFrames fs) → Steps p.tables e below A (T.setFrames fs))
    (eT : T.heap = h) (hk : cells ≤ kc) (hs : slots ≤ ks) (hQ : Q v h locs) : OwnEndH Z EL p e below s Q kc ks A := by
  obtain ⟨fs, hr, hrun, hended, h1, h2, h3, h4⟩ := X.leaveW hS (by rw [eT]; exact hn) (v := v) hv hlk
  refine ⟨_, _, st fs hr, hrun, hended, _, _, rfl, (by show Q v T.heap locs; rw [eT]; exact hQ), ?_, h1, h2, h3, h4.mono hk hs⟩
  show CHr Z EL s.vm s.heap T.vm T.heap
  rw [eT, hh]
  exact HC.trans (CHv.at X hZ hEL HC.1)
theorem endAH {vm₁ : Vm} (X : Stand p l e R (s.setVm vm₁) m args below meth c T locs cells slots) {n : Nat} (hS : s.Since vm₁ n) (hn : n ≤ h.size) (hZ : Z.Warmed39 vm₁) (hEL : EW Z a0 EL) (hh : s.heap = h0) (HC : CHr Z EL s.vm h0 vm₁ h) (hx : p.tables.exec = Jvm.exec) (hlk : meth.locks = false) {t : FieldType} (hret : meth.sig.returnType = some t) (ht : t.isReference = true) {pc : Nat} {Ls : Array Slot} {w : Value} (hw : w.isRef = true) {rest : List Value} (hd : decode c.code pc = .ok (.areturn, 1))
    (eT : T.heap = h) (hk : cells ≤ kc) (hs : slots ≤ ks) (hQ : Q (some w) h locs) : OwnEndH Z EL p e below s Q kc ks (T.setTop (mkF m pc Ls (w :: rest))) :=
  doneH X hS hn hZ hEL hh HC hlk (fun q => by rw [hret] at q; cases q) (fun fs hr => retOut X hx (w := w) hret (by cases t <;> first | rfl | cases ht) (Or.inr (Or.inr (Or.inr (Or.inr ⟨rfl, ht, hw⟩)))) hd hr) eT hk hs hQ
theorem endVH {vm₁ : Vm} (X : Stand p l e R (s.setVm vm₁) m args below meth c T locs cells slots) {n : Nat} (hS : s.Since vm₁ n) (hn : n ≤ h.size) (hZ : Z.Warmed39 vm₁) (hEL : EW Z a0 EL) (hh : s.heap = h0) (HC : CHr Z EL s.vm h0 vm₁ h) (hx : p.tables.exec = Jvm.exec) (hlk : meth.locks = false) (hret : meth.sig.returnType = none) {pc : Nat} {Ls : Array Slot} (hd : decode c.code pc = .ok (.return_, 1))
    (eT : T.heap = h) (hk : cells ≤ kc) (hs : slots ≤ ks) (hQ : Q none h locs) : OwnEndH Z EL p e below s Q kc ks (T.setTop (mkF m pc Ls [])) :=
  doneH X hS hn hZ hEL hh HC hlk (fun _ => rfl) (fun fs hr => X.returnOut hx hret hd hr) eT hk hs hQ
variable {own : String} {index : Nat} {y z : MethodName} {bytes : ByteArray} {maxL W : Nat} {ret : Option FieldType} {rm : Room} {as' : Array Value} {Qc : Option Value → Heap → List Loc → Prop} {g : JFrame} {argsL rest : List Value} {vm0 : Vm} {k0 : Nat}
theorem callInitS (X : Stand p l e R (s.setVm vm0) m args below meth c T locs cells slots) (hx : p.tables.exec = Jvm.exec) (hZ : Z.Warmed39 vm0) (hown : vm0.findClass own = some m.cls) (hy1 : y.name = "<init>")
    (w1 : (Cond.methodLink own index y).before a0 Z = true) (w2 : (Cond.instanceMethod y).before a0 Z = true) (w3 : (Cond.initialized y.cls).before a0 Z = true) (w4 : (Cond.code y bytes maxL none).before a0 Z = true)
    (hy : y.cls ≠ "java/lang/invoke/MethodHandle" ∧ y.cls ≠ "java/lang/invoke/VarHandle")
    (hM : MetFree l y (head1 [Cond.code y bytes maxL none] rm) (fun a U => a = as' ∧ Z.Warmed39 U.vm ∧ U.heap = h ∧ CHv Z EL U.vm h) (fun _ _ _ _ _ => True) (fun _ U o U' => ∃ v L, o = .returned v ∧ Qc v U'.heap L ∧ CHr Z EL U.vm U.heap U'.vm U'.heap ∧ ReturnedEndW U o U' L rm.cells rm.slots))
    (hEL : EW Z a0 EL) (HC : CHr Z EL s.vm h0 vm0 h) (hS : s.Since vm0 k0) (hk : k0 ≤ h.size)
    (hf : rm.frames + 1 ≤ R.frames) (hl : W + (maxL + 11) + rm.locals ≤ R.locals) (eT : T.heap = h) (hg : g.method = m) (hsize : g.locals.size = c.maxLocals) {a : Addr} (ha : (Value.ref a :: argsL).toArray = as')
    (hlen : ∀ sig, parseMethodDescriptor y.desc = some sig → argsL.length = sig.parameters.length) (hstack : g.stack = argsL.reverse ++ .ref a :: rest) (hW : 2 * g.monitorRoom + (rest.map fun v => v.category).sum ≤ W) (hdg : decode c.code g.pc = .ok (.invokespecial index, 3))
    (hc : cells + rm.cells ≤ R.cells) (hs : slots + rm.slots ≤ R.slots) :
    ∃ (v : Option Value) (T' : State) (L : List Loc) (k1 : Nat), Stand p l e R (s.setVm T'.vm) m args below meth c T' (locs ++ L) (cells + rm.cells) (slots + rm.slots) ∧ Qc v T'.heap L ∧ CHr Z EL vm0 h T'.vm T'.heap ∧ s.Since T'.vm k1 ∧ k1 ≤ T'.heap.size ∧ Z.Warmed39 (s.setVm T'.vm).vm ∧ (s.setVm T'.vm).vm.findClass own = some m.cls ∧
      ∀ target, Steps p.tables e below (T'.setTop { g with pc := g.pc + 3, stack := v.toList ++ rest }) target → Steps p.tables e below (T.setTop g) target := by
  have hZ' : Z.Warmed39 (s.setVm vm0).vm := hZ
  obtain ⟨v, vm₁, ⟨T', L', k', n'⟩, -, X', hS', hgr, ⟨L, hQ, l1, l2, l3, hC⟩, st⟩ := X.specialBackS hx hy1 (own := own) hown (mvT hZ' w1) (mvT hZ' w2) (mvT hZ' w4) hy (backOfSH (W := W) hM hZ w4 w3 hf hl hEL HC.1) (g := g) hg hsize (Steps.refl _) (a := a) (argsL := argsL) (rest := rest) hlen hstack hW hdg (fun _ _ => ⟨ha, eT, hc, hs⟩)
  dsimp only [Pt.U, Pt.locs, Pt.cells, Pt.slots] at X' l1 l2 l3 st hQ hS' hgr hC
  subst l1 l2 l3
  rw [eT] at hgr
  exact ⟨v, T', L, _, X', hQ, hC, hS.trans hS' (Nat.le_trans hk hgr), Nat.le_refl _, State.Warmed39.trans (t := s.setVm vm0) hZ hS'.1, (by rw [show (s.setVm T'.vm).vm = T'.vm from rfl, hS'.1.alike.findClass]; exact hown), fun _ k => st.trans k⟩
theorem callStatS (X : Stand p l e R (s.setVm vm0) m args below meth c T locs cells slots) (hx : p.tables.exec = Jvm.exec) (hZ : Z.Warmed39 vm0) (hown : vm0.findClass own = some m.cls)
    (w1 : (Cond.methodLink own index y).before a0 Z = true) (w2 : (Cond.static y).before a0 Z = true) (w3 : (Cond.initialized y.cls).before a0 Z = true) (w4 : (Cond.code y bytes maxL ret).before a0 Z = true)
    (hy : y.cls ≠ "java/lang/invoke/MethodHandle" ∧ y.cls ≠ "java/lang/invoke/VarHandle")
    (hM : MetFree l y (head1 [Cond.code y bytes maxL ret] rm) (fun a U => a = as' ∧ Z.Warmed39 U.vm ∧ U.heap = h ∧ CHv Z EL U.vm h) (fun _ _ _ _ _ => True) (fun _ U o U' => ∃ v L, o = .returned v ∧ Qc v U'.heap L ∧ CHr Z EL U.vm U.heap U'.vm U'.heap ∧ ReturnedEndW U o U' L rm.cells rm.slots))
    (hEL : EW Z a0 EL) (HC : CHr Z EL s.vm h0 vm0 h) (hS : s.Since vm0 k0) (hk : k0 ≤ h.size)
    (hf : rm.frames + 1 ≤ R.frames) (hl : W + (maxL + 11) + rm.locals ≤ R.locals) (eT : T.heap = h) (hg : g.method = m) (hsize : g.locals.size = c.maxLocals) (ha : argsL.toArray = as')
    (hlen : ∀ sig, parseMethodDescriptor y.desc = some sig → argsL.length = sig.parameters.length) (hstack : g.stack = argsL.reverse ++ rest) (hW : 2 * g.monitorRoom + (rest.map fun v => v.category).sum ≤ W) (hdg : decode c.code g.pc = .ok (.invokestatic index, 3))
    (hc : cells + rm.cells ≤ R.cells) (hs : slots + rm.slots ≤ R.slots) :
    ∃ (v : Option Value) (T' : State) (L : List Loc) (k1 : Nat), Stand p l e R (s.setVm T'.vm) m args below meth c T' (locs ++ L) (cells + rm.cells) (slots + rm.slots) ∧ Qc v T'.heap L ∧ CHr Z EL vm0 h T'.vm T'.heap ∧ s.Since T'.vm k1 ∧ k1 ≤ T'.heap.size ∧ Z.Warmed39 (s.setVm T'.vm).vm ∧ (s.setVm T'.vm).vm.findClass own = some m.cls ∧
      ∀ target, Steps p.tables e below (T'.setTop { g with pc := g.pc + 3, stack := v.toList ++ rest }) target → Steps p.tables e below (T.setTop g) target := by
  have hZ' : Z.Warmed39 (s.setVm vm0).vm := hZ
  obtain ⟨v, vm₁, ⟨T', L', k', n'⟩, -, X', hS', hgr, ⟨L, hQ, l1, l2, l3, hC⟩, st⟩ := callSS X hx (own := own) hown (mvT hZ' w1) (mvT hZ' w2) (mvT hZ' w3) (mvT hZ' w4) hy (backOfSH (W := W) hM hZ w4 w3 hf hl hEL HC.1) (g := g) hg hsize (argsL := argsL) (rest := rest) hlen hstack hW hdg (fun _ _ => ⟨ha, eT, hc, hs⟩)
  dsimp only [Pt.U, Pt.locs, Pt.cells, Pt.slots] at X' l1 l2 l3 st hQ hS' hgr hC
  subst l1 l2 l3
  rw [eT] at hgr
  exact ⟨v, T', L, _, X', hQ, hC, hS.trans hS' (Nat.le_trans hk hgr), Nat.le_refl _, State.Warmed39.trans (t := s.setVm vm0) hZ hS'.1, (by rw [show (s.setVm T'.vm).vm = T'.vm from rfl, hS'.1.alike.findClass]; exact hown), fun _ k => st.trans k⟩
end ColdH
end Jvm.OwnKit
/- laws to paste: Road.backV, Road.lenW, Road.chN, Road.eqW, Road.codOf (cut by pick.py; bodies as the Statement names them) -/
namespace Jvm.Pilot.@@N@@
namespace StrChars
open Jvm Sem ClassFile Op Lib Jvm.Stand Jvm.Free.XT Jvm.Free.ALB Jvm.Free.JM Jvm.Free
open Jvm.Lib.Cold (StaticIs)
/-- a char array whose places are chars -/
def Ch (a : Addr) (A : Cell) (U : State) : Prop := Arr .char a A U ∧ Typed .char A
theorem Ch.mv {a : Addr} {A : Cell} {U U' : State} (h : Ch a A U) (hal : U.vm.Alike U'.vm) (hh : U'.heap = U.heap) : Ch a A U' := ⟨h.1.mv hal hh, h.2⟩
theorem Ch.keep {a : Addr} {A : Cell} {U U' : State} (h : Ch a A U) (hal : U.vm.Alike U'.vm) (hk : U'.heap[a]? = some A) : Ch a A U' := ⟨h.1.keep hal hk, h.2⟩
/-- what place i of a char[]'s cell holds -/
def cv (A : Cell) (i : Nat) : Int32 := match A.slots[i]? with | some (.int x) => x | _ => 0
theorem Ch.get {a : Addr} {A : Cell} {U : State} (h : Ch a A U) {i : Nat} (hi : i < A.slots.size) : A.slots[i]? = some (.int (cv A i)) := by
  have e := Array.getElem?_eq_getElem hi
  have f := h.2 i _ e
  unfold cv; rw [e]
  generalize A.slots[i] = v at f
  cases v <;> simp [fits] at f ⊢
/-- the byte that i2b leaves of a char -/
def lo8 (x : Int32) : Int32 := x.toInt8.toInt32
theorem fits_lo8 (y : Int32) : fits .byte (.int (lo8 y)) = true := by
  have h1 := y.toInt8.le_toInt
  have h2 := y.toInt8.toInt_lt
  simp only [lo8, fits, Bool.and_eq_true, decide_eq_true_eq, Int32.le_iff_toInt_le, Int8.toInt_toInt32, show (-128 : Int32).toInt = -128 from by decide, show (127 : Int32).toInt = 127 from by decide]
  omega
/-- A' is A but that each place j of lo .. hi - 1 holds f j -/
def Laid (A A' : Cell) (lo hi : Nat) (f : Nat → Value) : Prop := A'.cls = A.cls ∧ A'.vm = A.vm ∧ A'.slots.size = A.slots.size ∧ ∀ i, A'.slots[i]? = if lo ≤ i ∧ i < hi then some (f i) else A.slots[i]?
theorem Laid.zero (A : Cell) (lo : Nat) (f : Nat → Value) : Laid A A lo (lo + 0) f := ⟨rfl, rfl, rfl, fun i => by rw [if_neg (by omega)]⟩
theorem Laid.step {A Ak : Cell} {lo k : Nat} {f : Nat → Value} {v : Value} (h : Laid A Ak lo k f) (hlo : lo ≤ k) (hk : k < Ak.slots.size) (hv : v = f k) : Laid A (Ak.setSlot k v) lo (k + 1) f := by
  refine ⟨h.1, h.2.1, by simpa [Cell.setSlot] using h.2.2.1, fun i => ?_⟩
  by_cases e : k = i
  · subst e; rw [Cell.slots_setSlot_self v hk, if_pos (by omega), hv]
  · rw [Cell.slots_setSlot_ne v e, h.2.2.2 i]
    by_cases q : lo ≤ i ∧ i < k
    · rw [if_pos q, if_pos (by omega)]
    · rw [if_neg q, if_neg (by omega)]
def U16 : String := "java/lang/StringUTF16"
namespace Cmp5
def yN : MethodName := ⟨"java/lang/StringUTF16", "compress", "([CI[BII)I"⟩
abbrev yB : ByteArray := jdk_52_method_21_code
theorem d0 : decode yB 0 = .ok (.iconst 0, 1) := by decide +kernel
theorem d1 : decode yB 1 = .ok (.istore 5, 2) := by decide +kernel
theorem d3 : decode yB 3 = .ok (.iload 5, 2) := by decide +kernel
theorem d5 : decode yB 5 = .ok (.iload 4, 2) := by decide +kernel
theorem d7 : decode yB 7 = .ok (.if_icmp (.ge) 37, 3) := by decide +kernel
theorem d10 : decode yB 10 = .ok (.aload_n 0, 1) := by decide +kernel
theorem d11 : decode yB 11 = .ok (.iload_n 1, 1) := by decide +kernel
theorem d12 : decode yB 12 = .ok (.caload, 1) := by decide +kernel
theorem d13 : decode yB 13 = .ok (.istore 6, 2) := by decide +kernel
theorem d15 : decode yB 15 = .ok (.iload 6, 2) := by decide +kernel
theorem d17 : decode yB 17 = .ok (.sipush 255, 3) := by decide +kernel
theorem d20 : decode yB 20 = .ok (.if_icmp (.le) 6, 3) := by decide +kernel
theorem d26 : decode yB 26 = .ok (.aload_n 2, 1) := by decide +kernel
theorem d27 : decode yB 27 = .ok (.iload_n 3, 1) := by decide +kernel
theorem d28 : decode yB 28 = .ok (.iload 6, 2) := by decide +kernel
theorem d30 : decode yB 30 = .ok (.i2b, 1) := by decide +kernel
theorem d31 : decode yB 31 = .ok (.bastore, 1) := by decide +kernel
theorem d32 : decode yB 32 = .ok (.iinc 1 1, 3) := by decide +kernel
theorem d35 : decode yB 35 = .ok (.iinc 3 1, 3) := by decide +kernel
theorem d38 : decode yB 38 = .ok (.iinc 5 1, 3) := by decide +kernel
theorem d41 : decode yB 41 = .ok (.goto (-38), 3) := by decide +kernel
theorem d44 : decode yB 44 = .ok (.iload 4, 2) := by decide +kernel
theorem d46 : decode yB 46 = .ok (.ireturn, 1) := by decide +kernel
def site : List Cond := []
def tab : Cond := tabOf yN yB 7 (some .int) site
def P (b : Addr) (A : Cell) (d : Addr) (B : Cell) (o q len : Nat) (args : Array Value) (s : State) : Prop := args = #[.ref b, .int (Int32.ofNat o), .ref d, .int (Int32.ofNat q), .int (Int32.ofNat len)] ∧ Ch b A s ∧ Arr .byte d B s ∧ b ≠ d ∧ o + len ≤ A.slots.size ∧ q + len ≤ B.slots.size ∧ ∀ i, i < len → ¬ 255 < cv A (o + i)
def E (b : Addr) (A : Cell) (d : Addr) (B : Cell) (o q len : Nat) (r : Option Value) (s u : State) : Prop := r = some (.int (Int32.ofNat len)) ∧ ∃ B', Put d B' s u ∧ Laid B B' q (q + len) (fun j => Value.int (lo8 (cv A (o + (j - q)))))
/-- no char of the range above 255: len; the places written hold each char's low byte -/
theorem law (l : Launch) (b : Addr) (A : Cell) (d : Addr) (B : Cell) (o q len : Nat) : Law l yN 5 5 0 0 yB 7 (some .int) site (P b A d B o q len) (E b A d B o q len) (copyLocs d q len) 0 0 := by
  refine Law.of_walk (plainFor_of_name (by decide +kernel)) (by decide +kernel) (by decide +kernel) (by decide) (fun _ _ h => by rw [h.1]; rfl) (fun _ U U' hal hh h => ⟨h.1, h.2.1.mv hal hh, h.2.2.1.mv hal hh, h.2.2.2⟩) (fun r U U' V V' h1 hal h2 h => ⟨h.1, h.2.elim fun B' q => ⟨B', q.1.mv h1 h2, q.2⟩⟩) ?_
  intro p e s m args below meth c s₁ X0 hexec hbytes hml hret hlk hnm hown hh0 W hP
  obtain ⟨rfl, hA, hB, hne, l1, l2, hp⟩ := hP
  have c1 : Steps p.tables e below (s₁.setTop (entryFrame m #[.ref b, .int (Int32.ofNat o), .ref d, .int (Int32.ofNat q), .int (Int32.ofNat len)] 7)) (s₁.setTop (mkF m 0 #[.val (.ref b), .val (.int (Int32.ofNat o)), .val (.ref d), .val (.int (Int32.ofNat q)), .val (.int (Int32.ofNat len)), .unset, .unset] [])) := entry rfl
  have hA0 := hA.1.mv X0.warmed.alike hh0
  have hB0 := hB.mv X0.warmed.alike hh0
  have a31 := hA.1.2.2.2
  have c2 : Steps p.tables e below (s₁.setTop (entryFrame m #[.ref b, .int (Int32.ofNat o), .ref d, .int (Int32.ofNat q), .int (Int32.ofNat len)] 7)) (s₁.setTop (mkF m 3 #[.val (.ref b), .val (.int (Int32.ofNat o)), .val (.ref d), .val (.int (Int32.ofNat q)), .val (.int (Int32.ofNat len)), .val (.int 0), .unset] [])) := c1.trans (by
    refine iconstV X0.here hexec rfl 0 (hb hbytes d0) (by decide) ?_
    refine XS.istore X0.here hexec rfl (hb hbytes d1) rfl rfl ?_
    exact Steps.refl _)
  have loop : ∀ (r i : Nat), i + r = len → ∀ (z : Slot), (z = .unset ∨ ∃ w, z = .val w ∧ w.category = 1) → ∀ (Tl : State) (Bk : Cell), Stand p l e { frames := 0, locals := 0, cells := 0, slots := 0 } s m #[.ref b, .int (Int32.ofNat o), .ref d, .int (Int32.ofNat q), .int (Int32.ofNat len)] below meth c Tl ([] ++ copyLocs d q i) 0 0 → Put d Bk s₁ Tl → Laid B Bk q (q + i) (fun j => Value.int (lo8 (cv A (o + (j - q))))) →
      Steps p.tables e below (s₁.setTop (entryFrame m #[.ref b, .int (Int32.ofNat o), .ref d, .int (Int32.ofNat q), .int (Int32.ofNat len)] 7)) (Tl.setTop (mkF m 3 #[.val (.ref b), .val (.int (Int32.ofNat (o + i))), .val (.ref d), .val (.int (Int32.ofNat (q + i))), .val (.int (Int32.ofNat len)), .val (.int (Int32.ofNat i)), z] [])) → ∃ (T' : State) (B' : Cell) (z' : Slot), Stand p l e { frames := 0, locals := 0, cells := 0, slots := 0 } s m #[.ref b, .int (Int32.ofNat o), .ref d, .int (Int32.ofNat q), .int (Int32.ofNat len)] below meth c T' ([] ++ copyLocs d q len) 0 0 ∧ Put d B' s₁ T' ∧ Laid B B' q (q + len) (fun j => Value.int (lo8 (cv A (o + (j - q))))) ∧
      Steps p.tables e below (s₁.setTop (entryFrame m #[.ref b, .int (Int32.ofNat o), .ref d, .int (Int32.ofNat q), .int (Int32.ofNat len)] 7)) (T'.setTop (mkF m 3 #[.val (.ref b), .val (.int (Int32.ofNat (o + len))), .val (.ref d), .val (.int (Int32.ofNat (q + len))), .val (.int (Int32.ofNat len)), .val (.int (Int32.ofNat len)), z'] [])) := by
    intro r
    induction r with
    | zero =>
      intro i hi z hz Tl Bk Xl pl fl cl
      have hil : i = len := by omega
      rw [hil] at Xl fl cl
      exact ⟨Tl, Bk, z, Xl, pl, fl, cl⟩
    | succ r ih =>
      intro i hi z hz Tl Bk Xl pl fl cl
      have all := X0.warmed.alike.symm.trans Xl.warmed.alike
      have hAl := hA0.keep all (pl.other hne hA0.1)
      have hBk := hB0.like all pl.1 fl.1 fl.2.1 fl.2.2.1
      have hlt : q + i < Bk.slots.size := by rw [fl.2.2.1]; omega
      have c3 : Steps p.tables e below (s₁.setTop (entryFrame m #[.ref b, .int (Int32.ofNat o), .ref d, .int (Int32.ofNat q), .int (Int32.ofNat len)] 7)) (Tl.setTop (mkF m 12 #[.val (.ref b), .val (.int (Int32.ofNat (o + i))), .val (.ref d), .val (.int (Int32.ofNat (q + i))), .val (.int (Int32.ofNat len)), .val (.int (Int32.ofNat i)), z] [.int (Int32.ofNat (o + i)), .ref b])) := cl.trans (by
        refine XS.iload Xl.here hexec rfl (hb hbytes d3) rfl ?_
        refine XS.iload Xl.here hexec rfl (hb hbytes d5) rfl ?_
        refine XS.icmpNo Xl.here hexec rfl (hb hbytes d7) rfl (ii_ge_f (lt32 (by omega) (by omega))) ?_
        refine XS.aloadN Xl.here hexec rfl (hb hbytes d10) rfl rfl ?_
        refine XS.iloadN Xl.here hexec rfl (hb hbytes d11) rfl ?_
        exact Steps.refl _)
      have c4 : Steps p.tables e below (s₁.setTop (entryFrame m #[.ref b, .int (Int32.ofNat o), .ref d, .int (Int32.ofNat q), .int (Int32.ofNat len)] 7)) (Tl.setTop (mkF m 13 #[.val (.ref b), .val (.int (Int32.ofNat (o + i))), .val (.ref d), .val (.int (Int32.ofNat (q + i))), .val (.int (Int32.ofNat len)), .val (.int (Int32.ofNat i)), z] [.int (cv A (o + i))])) := c3.trans (by
        refine Xl.aget hexec hAl rfl (hA.get (i := o + i) (by omega)) rfl rfl (hb hbytes d12) ?_
        exact Steps.refl _)
      have c5 : Steps p.tables e below (s₁.setTop (entryFrame m #[.ref b, .int (Int32.ofNat o), .ref d, .int (Int32.ofNat q), .int (Int32.ofNat len)] 7)) (Tl.setTop (mkF m 15 #[.val (.ref b), .val (.int (Int32.ofNat (o + i))), .val (.ref d), .val (.int (Int32.ofNat (q + i))), .val (.int (Int32.ofNat len)), .val (.int (Int32.ofNat i)), .val (.int (cv A (o + i)))] [])) := c4.trans (by
        refine XS.istoreS Xl.here hexec rfl (hb hbytes d13) rfl rfl hz ?_
        exact Steps.refl _)
      have c6 : Steps p.tables e below (s₁.setTop (entryFrame m #[.ref b, .int (Int32.ofNat o), .ref d, .int (Int32.ofNat q), .int (Int32.ofNat len)] 7)) (Tl.setTop (mkF m 31 #[.val (.ref b), .val (.int (Int32.ofNat (o + i))), .val (.ref d), .val (.int (Int32.ofNat (q + i))), .val (.int (Int32.ofNat len)), .val (.int (Int32.ofNat i)), .val (.int (cv A (o + i)))] [.int (lo8 (cv A (o + i))), .int (Int32.ofNat (q + i)), .ref d])) := c5.trans (by
        refine XS.iload Xl.here hexec rfl (hb hbytes d15) rfl ?_
        refine sipushV Xl.here hexec rfl 255 (hb hbytes d17) (by decide) ?_
        refine XS.icmpYes Xl.here hexec rfl (pc0 := 20) rfl (hb hbytes d20) rfl (ii_le_t (hp i (by omega))) (by decide) rfl ?_
        refine XS.aloadN Xl.here hexec rfl (hb hbytes d26) rfl rfl ?_
        refine XS.iloadN Xl.here hexec rfl (hb hbytes d27) rfl ?_
        refine XS.iload Xl.here hexec rfl (hb hbytes d28) rfl ?_
        refine i2b Xl.here hexec rfl (hb hbytes d30) rfl ?_
        exact Steps.refl _)
      obtain ⟨T7, X7, p7, st7⟩ := Xl.aput hexec hBk rfl hlt rfl (fits_lo8 (cv A (o + i))) (g := (mkF m 31 #[.val (.ref b), .val (.int (Int32.ofNat (o + i))), .val (.ref d), .val (.int (Int32.ofNat (q + i))), .val (.int (Int32.ofNat len)), .val (.int (Int32.ofNat i)), .val (.int (cv A (o + i)))] [.int (lo8 (cv A (o + i))), .int (Int32.ofNat (q + i)), .ref d])) rfl (rest := []) rfl (hb hbytes d31)
      have c8 : Steps p.tables e below (s₁.setTop (entryFrame m #[.ref b, .int (Int32.ofNat o), .ref d, .int (Int32.ofNat q), .int (Int32.ofNat len)] 7)) (T7.setTop (mkF m 32 #[.val (.ref b), .val (.int (Int32.ofNat (o + i))), .val (.ref d), .val (.int (Int32.ofNat (q + i))), .val (.int (Int32.ofNat len)), .val (.int (Int32.ofNat i)), .val (.int (cv A (o + i)))] [])) := c6.trans (st7 _ (Steps.refl _))
      have c9 : Steps p.tables e below (s₁.setTop (entryFrame m #[.ref b, .int (Int32.ofNat o), .ref d, .int (Int32.ofNat q), .int (Int32.ofNat len)] 7)) (T7.setTop (mkF m 3 #[.val (.ref b), .val (.int (Int32.ofNat (o + i) + 1)), .val (.ref d), .val (.int (Int32.ofNat (q + i) + 1)), .val (.int (Int32.ofNat len)), .val (.int (Int32.ofNat i + 1)), .val (.int (cv A (o + i)))] [])) := c8.trans (by
        refine iincV X7.here hexec rfl 1 (hb hbytes d32) (by decide) rfl rfl ?_
        refine iincV X7.here hexec rfl 1 (hb hbytes d35) (by decide) rfl rfl ?_
        refine iincV X7.here hexec rfl 1 (hb hbytes d38) (by decide) rfl rfl ?_
        refine XS.goto X7.here hexec rfl (pc0 := 41) rfl (hb hbytes d41) (by decide) rfl ?_
        exact Steps.refl _)
      have c10 : Steps p.tables e below (s₁.setTop (entryFrame m #[.ref b, .int (Int32.ofNat o), .ref d, .int (Int32.ofNat q), .int (Int32.ofNat len)] 7)) (T7.setTop (mkF m 3 #[.val (.ref b), .val (.int (Int32.ofNat (o + (i + 1)))), .val (.ref d), .val (.int (Int32.ofNat (q + (i + 1)))), .val (.int (Int32.ofNat len)), .val (.int (Int32.ofNat (i + 1))), .val (.int (cv A (o + i)))] [])) := by
        have := c9
        rw [succ32, succ32, succ32] at this
        exact this
      exact ih (i + 1) (by omega) _ (Or.inr ⟨_, rfl, rfl⟩) T7 _ (by rw [copyLocs_step, ← List.append_assoc]; exact X7) (pl.trans p7) (fl.step (by omega) hlt (by simp)) c10
  obtain ⟨T9, B9, z9, X9, p9, f9, g9⟩ := loop len 0 (by omega) .unset (Or.inl rfl) s₁ B (by simpa [copyLocs] using X0) ⟨hB0.1, fun _ _ => rfl, rfl⟩ (Laid.zero _ _ _) c2
  have c11 : Steps p.tables e below (s₁.setTop (entryFrame m #[.ref b, .int (Int32.ofNat o), .ref d, .int (Int32.ofNat q), .int (Int32.ofNat len)] 7)) (T9.setTop (mkF m 46 #[.val (.ref b), .val (.int (Int32.ofNat (o + len))), .val (.ref d), .val (.int (Int32.ofNat (q + len))), .val (.int (Int32.ofNat len)), .val (.int (Int32.ofNat len)), z9] [.int (Int32.ofNat len)])) := g9.trans (by
    refine XS.iload X9.here hexec rfl (hb hbytes d3) rfl ?_
    refine XS.iload X9.here hexec rfl (hb hbytes d5) rfl ?_
    refine XS.icmpYes X9.here hexec rfl (pc0 := 7) rfl (hb hbytes d7) rfl (ii_ge_t (nlt32 (by omega) (Nat.le_refl _))) (by decide) rfl ?_
    refine XS.iload X9.here hexec rfl (hb hbytes d44) rfl ?_
    exact Steps.refl _)
  exact ⟨T9, some (.int (Int32.ofNat len)), _, _, _, X9, by simp, rfl, rfl, (fun h => by cases h), ⟨rfl, B9, p9.from hh0, f9⟩, fun fs hl => c11.trans (X9.ireturnOut hexec hret rfl (Or.inl rfl) (hb hbytes d46) hl)⟩
end Cmp5
namespace Cmp3
def yN : MethodName := ⟨"java/lang/StringUTF16", "compress", "([CII)[B"⟩
abbrev yB : ByteArray := jdk_52_method_16_code
theorem d0 : decode yB 0 = .ok (.iload_n 2, 1) := by decide +kernel
theorem d1 : decode yB 1 = .ok (.newarray .byte, 2) := by decide +kernel
theorem d3 : decode yB 3 = .ok (.astore_n 3, 1) := by decide +kernel
theorem d4 : decode yB 4 = .ok (.aload_n 0, 1) := by decide +kernel
theorem d5 : decode yB 5 = .ok (.iload_n 1, 1) := by decide +kernel
theorem d6 : decode yB 6 = .ok (.aload_n 3, 1) := by decide +kernel
theorem d7 : decode yB 7 = .ok (.iconst 0, 1) := by decide +kernel
theorem d8 : decode yB 8 = .ok (.iload_n 2, 1) := by decide +kernel
theorem d9 : decode yB 9 = .ok (.invokestatic 115, 3) := by decide +kernel
theorem d12 : decode yB 12 = .ok (.istore 4, 2) := by decide +kernel
theorem d14 : decode yB 14 = .ok (.iload 4, 2) := by decide +kernel
theorem d16 : decode yB 16 = .ok (.iload_n 2, 1) := by decide +kernel
theorem d17 : decode yB 17 = .ok (.if_icmp (.eq) 40, 3) := by decide +kernel
theorem d57 : decode yB 57 = .ok (.aload_n 3, 1) := by decide +kernel
theorem d58 : decode yB 58 = .ok (.areturn, 1) := by decide +kernel
def site : List Cond := [.arrayClass .byte, Cmp5.tab] ++ staticW U16 115 Cmp5.yN
def tab : Cond := tabOf yN yB 6 (some (.array .byte)) site
def P (b : Addr) (A : Cell) (o len : Nat) (args : Array Value) (s : State) : Prop := args = #[.ref b, .int (Int32.ofNat o), .int (Int32.ofNat len)] ∧ Ch b A s ∧ o + len ≤ A.slots.size ∧ len ≤ 536870912 ∧ ∀ i, i < len → ¬ 255 < cv A (o + i)
def E (b : Addr) (A : Cell) (o len : Nat) (r : Option Value) (s u : State) : Prop := NewArr .byte "[B" len (fun j => .int (lo8 (cv A (o + j)))) r s u ∧ u.heap.size = s.heap.size + 1
/-- no char of the range above 255: a new byte[] of their low bytes -/
theorem law (l : Launch) (b : Addr) (A : Cell) (o len : Nat) : Law l yN 3 3 1 18 yB 6 (some (.array .byte)) site (P b A o len) (E b A o len) [] 1 len := by
  refine Law.of_walk (plainFor_of_name (by decide +kernel)) (by decide +kernel) (by decide +kernel) (by decide) (fun _ _ h => by rw [h.1]; rfl) (fun _ U U' hal hh h => ⟨h.1, h.2.1.mv hal hh, h.2.2⟩) (fun r U U' V V' h1 hal h2 h => ⟨NewArr.mv r U U' V V' h1 hal h2 h.1, by rw [h1, h2]; exact h.2⟩) ?_
  intro p e s m args below meth c s₁ X0 hexec hbytes hml hret hlk hnm hown hh0 W hP
  obtain ⟨rfl, hA, l1, l2, hp⟩ := hP
  have a31 := hA.1.2.2.2
  have c1 : Steps p.tables e below (s₁.setTop (entryFrame m #[.ref b, .int (Int32.ofNat o), .int (Int32.ofNat len)] 6)) (s₁.setTop (mkF m 0 #[.val (.ref b), .val (.int (Int32.ofNat o)), .val (.int (Int32.ofNat len)), .unset, .unset, .unset] [])) := entry rfl
  have c2 : Steps p.tables e below (s₁.setTop (entryFrame m #[.ref b, .int (Int32.ofNat o), .int (Int32.ofNat len)] 6)) (s₁.setTop (mkF m 1 #[.val (.ref b), .val (.int (Int32.ofNat o)), .val (.int (Int32.ofNat len)), .unset, .unset, .unset] [.int (Int32.ofNat len)])) := c1.trans (by
    refine XS.iloadN X0.here hexec rfl (hb hbytes d0) rfl ?_
    exact Steps.refl _)
  obtain ⟨T3, B3, X3, ba3, bs3, bv3, bh3, bf3, st3⟩ := X0.anew hexec (atype := .byte) (wk W (.arrayClass .byte)) rfl (by show len * 1 ≤ _; omega) (by omega) (g := (mkF m 1 #[.val (.ref b), .val (.int (Int32.ofNat o)), .val (.int (Int32.ofNat len)), .unset, .unset, .unset] [.int (Int32.ofNat len)])) rfl (hb hbytes d1) (rest := []) rfl (Nat.le_refl _) (by show 0 + len ≤ len; omega)
  rw [hh0] at ba3 st3
  have kp3 : XT.Kept s T3 := (XT.Kept.of_eq hh0).push bh3
  have hA3 := hA.keep X3.warmed.alike (kp3 _ _ hA.1.1)
  have hne : b ≠ s.heap.size := hA.1.ne
  have c4 : Steps p.tables e below (s₁.setTop (entryFrame m #[.ref b, .int (Int32.ofNat o), .int (Int32.ofNat len)] 6)) (T3.setTop (mkF m 3 #[.val (.ref b), .val (.int (Int32.ofNat o)), .val (.int (Int32.ofNat len)), .unset, .unset, .unset] [.ref s.heap.size])) := c2.trans (st3 _ (Steps.refl _))
  have c5 : Steps p.tables e below (s₁.setTop (entryFrame m #[.ref b, .int (Int32.ofNat o), .int (Int32.ofNat len)] 6)) (T3.setTop (mkF m 9 #[.val (.ref b), .val (.int (Int32.ofNat o)), .val (.int (Int32.ofNat len)), .val (.ref s.heap.size), .unset, .unset] [.int (Int32.ofNat len), .int 0, .ref s.heap.size, .int (Int32.ofNat o), .ref b])) := c4.trans (by
    refine XS.astoreN X3.here hexec rfl (hb hbytes d3) rfl rfl rfl ?_
    refine XS.aloadN X3.here hexec rfl (hb hbytes d4) rfl rfl ?_
    refine XS.iloadN X3.here hexec rfl (hb hbytes d5) rfl ?_
    refine XS.aloadN X3.here hexec rfl (hb hbytes d6) rfl rfl ?_
    refine iconstV X3.here hexec rfl 0 (hb hbytes d7) (by decide) ?_
    refine XS.iloadN X3.here hexec rfl (hb hbytes d8) rfl ?_
    exact Steps.refl _)
  obtain ⟨v6, T6, X6, E6, g6⟩ := X3.callS hexec (Cmp5.law l b A s.heap.size B3 o 0 len) hown (wks W (staticW U16 115 Cmp5.yN)) (wk W Cmp5.tab) (W := 0) (Nat.le_of_ble_eq_true rfl) (Nat.le_of_ble_eq_true rfl) (Nat.le_refl _) (by show 0 + len + 0 ≤ len; omega) (g := (mkF m 9 #[.val (.ref b), .val (.int (Int32.ofNat o)), .val (.int (Int32.ofNat len)), .val (.ref s.heap.size), .unset, .unset] [.int (Int32.ofNat len), .int (Int32.ofNat 0), .ref s.heap.size, .int (Int32.ofNat o), .ref b])) rfl (by rw [hml]; rfl) c5 (argsL := [.ref b, .int (Int32.ofNat o), .ref s.heap.size, .int (Int32.ofNat 0), .int (Int32.ofNat len)]) (rest := []) rfl rfl (by show 2 * 0 + 0 ≤ _; decide) (hb hbytes d9) (⟨rfl, hA3, ba3, hne, l1, by rw [bs3]; simp, hp⟩)
  obtain ⟨rfl, B6, p6, f6⟩ := E6
  have c7 : Steps p.tables e below (s₁.setTop (entryFrame m #[.ref b, .int (Int32.ofNat o), .int (Int32.ofNat len)] 6)) (T6.setTop (mkF m 12 #[.val (.ref b), .val (.int (Int32.ofNat o)), .val (.int (Int32.ofNat len)), .val (.ref s.heap.size), .unset, .unset] [.int (Int32.ofNat len)])) := g6
  have c8 : Steps p.tables e below (s₁.setTop (entryFrame m #[.ref b, .int (Int32.ofNat o), .int (Int32.ofNat len)] 6)) (T6.setTop (mkF m 58 #[.val (.ref b), .val (.int (Int32.ofNat o)), .val (.int (Int32.ofNat len)), .val (.ref s.heap.size), .val (.int (Int32.ofNat len)), .unset] [.ref s.heap.size])) := c7.trans (by
    refine XS.istore X6.here hexec rfl (hb hbytes d12) rfl rfl ?_
    refine XS.iload X6.here hexec rfl (hb hbytes d14) rfl ?_
    refine XS.iloadN X6.here hexec rfl (hb hbytes d16) rfl ?_
    refine XS.icmpYes X6.here hexec rfl (pc0 := 17) rfl (hb hbytes d17) rfl (ii_eq_t rfl) (by decide) rfl ?_
    refine XS.aloadN X6.here hexec rfl (hb hbytes d57) rfl rfl ?_
    exact Steps.refl _)
  have X8 := X6.wide (L' := []) (cells' := 1) (slots' := len) (fun x hx hlt => by
    simp only [List.nil_append, copyLocs, List.mem_map, List.mem_range] at hx
    obtain ⟨i, -, rfl⟩ := hx
    exact absurd hlt (Nat.lt_irrefl _)) (Nat.le_refl _) (by omega)
  exact ⟨T6, some (.ref s.heap.size), _, _, _, X8, rfl, rfl, rfl, (fun h => by cases h), ⟨⟨rfl, B6, ba3.like (X3.warmed.alike.symm.trans X6.warmed.alike) p6.1 f6.1 f6.2.1 f6.2.2.1, f6.2.1.trans bv3, by rw [X6.warmed.alike.findClass, f6.1]; exact bf3, by rw [f6.2.2.1, bs3]; simp, fun j hj => by rw [f6.2.2.2 j, if_pos (by omega)]; rfl, kp3.put p6 (Nat.le_refl _)⟩, by rw [p6.2.2, bh3, hh0]; simp⟩, fun fs hl => c8.trans (X8.areturnOut hexec rfl hret rfl (hb hbytes d58) hl)⟩
end Cmp3
namespace CodL
def yN : MethodName := ⟨"java/lang/StringUTF16", "coderFromArrayLen", "([BI)B"⟩
abbrev yB : ByteArray := jdk_52_method_15_code
theorem d0 : decode yB 0 = .ok (.iload_n 1, 1) := by decide +kernel
theorem d1 : decode yB 1 = .ok (.aload_n 0, 1) := by decide +kernel
theorem d2 : decode yB 2 = .ok (.arraylength, 1) := by decide +kernel
theorem d3 : decode yB 3 = .ok (.isub, 1) := by decide +kernel
theorem d4 : decode yB 4 = .ok (.bipush 31, 2) := by decide +kernel
theorem d6 : decode yB 6 = .ok (.iushr, 1) := by decide +kernel
theorem d7 : decode yB 7 = .ok (.i2b, 1) := by decide +kernel
theorem d8 : decode yB 8 = .ok (.ireturn, 1) := by decide +kernel
def site : List Cond := []
def tab : Cond := tabOf yN yB 2 (some .byte) site
def P (d : Addr) (B : Cell) (args : Array Value) (s : State) : Prop := args = #[.ref d, .int (Int32.ofNat B.slots.size)] ∧ Arr .byte d B s
def E (r : Option Value) (s u : State) : Prop := XT.PureE (some (.int 0)) r s u
/-- an array as long as the number of chars: LATIN1 -/
theorem law (l : Launch) (d : Addr) (B : Cell) : Law l yN 2 2 0 0 yB 2 (some .byte) site (P d B) E [] 0 0 := by
  refine Law.of_walk (plainFor_of_name (by decide +kernel)) (by decide +kernel) (by decide +kernel) (by decide) (fun _ _ h => by rw [h.1]; rfl) (fun _ U U' hal hh h => ⟨h.1, h.2.mv hal hh⟩) (fun r U U' V V' h1 hal h2 h => XT.PureE.mv r U U' V V' h1 hal h2 h) ?_
  intro p e s m args below meth c s₁ X0 hexec hbytes hml hret hlk hnm hown hh0 W hP
  obtain ⟨rfl, hB⟩ := hP
  have hB0 := hB.mv X0.warmed.alike hh0
  have c1 : Steps p.tables e below (s₁.setTop (entryFrame m #[.ref d, .int (Int32.ofNat B.slots.size)] 2)) (s₁.setTop (mkF m 0 #[.val (.ref d), .val (.int (Int32.ofNat B.slots.size))] [])) := entry rfl
  have c2 : Steps p.tables e below (s₁.setTop (entryFrame m #[.ref d, .int (Int32.ofNat B.slots.size)] 2)) (s₁.setTop (mkF m 2 #[.val (.ref d), .val (.int (Int32.ofNat B.slots.size))] [.ref d, .int (Int32.ofNat B.slots.size)])) := c1.trans (by
    refine XS.iloadN X0.here hexec rfl (hb hbytes d0) rfl ?_
    refine XS.aloadN X0.here hexec rfl (hb hbytes d1) rfl rfl ?_
    exact Steps.refl _)
  have c3 : Steps p.tables e below (s₁.setTop (entryFrame m #[.ref d, .int (Int32.ofNat B.slots.size)] 2)) (s₁.setTop (mkF m 8 #[.val (.ref d), .val (.int (Int32.ofNat B.slots.size))] [.int (lo8 (ushr (Int32.ofNat B.slots.size - Int32.ofNat B.slots.size) 31))])) := c2.trans (by
    refine X0.alen hexec hB0 rfl rfl (hb hbytes d2) ?_
    refine XS.isub X0.here hexec rfl (hb hbytes d3) rfl ?_
    refine bipushV X0.here hexec rfl 31 (hb hbytes d4) (by decide) ?_
    refine iushr X0.here hexec rfl (hb hbytes d6) rfl ?_
    refine i2b X0.here hexec rfl (hb hbytes d7) rfl ?_
    exact Steps.refl _)
  have e0 : lo8 (ushr (Int32.ofNat B.slots.size - Int32.ofNat B.slots.size) 31) = 0 := by rw [Int32.sub_self]; decide
  rw [e0] at c3
  exact ⟨s₁, some (.int 0), _, _, _, X0, rfl, rfl, rfl, (fun h => by cases h), ⟨rfl, hh0⟩, fun fs hl => c3.trans (X0.ireturnOut hexec hret rfl (Or.inr (Or.inr (Or.inl rfl))) (hb hbytes d8) hl)⟩
end CodL
/-- the String at a is Latin-1 over a new byte[] (the heap's one new cell): the low bytes of the len chars of A from o on; every cell but a is kept -/
def Got (a : Addr) (D : Cell) (fV fC : Field) (A : Cell) (o len : Nat) (r : Option Value) (s u : State) : Prop := r = none ∧ ∃ D' V : Cell, Blank "java/lang/String" a D' u ∧ Same D D' [fV.slot, fC.slot] ∧ D'.slots[fV.slot]? = some (.ref s.heap.size) ∧ D'.slots[fC.slot]? = some (.int 0) ∧ Arr .byte s.heap.size V u ∧ V.vm = .none ∧ u.vm.findClass "[B" = some V.cls ∧ V.slots.size = len ∧ (∀ j, j < len → V.slots[j]? = some (.int (lo8 (cv A (o + j))))) ∧ (∀ (y : Addr) (c : Cell), y ≠ a → s.heap[y]? = some c → u.heap[y]? = some c) ∧ u.heap.size = s.heap.size + 1
theorem Got.mv {a : Addr} {D A : Cell} {fV fC : Field} {o len : Nat} : ∀ r (U U' V V' : State), U'.heap = U.heap → V.vm.Alike V'.vm → V'.heap = V.heap → Got a D fV fC A o len r U V → Got a D fV fC A o len r U' V' :=
  fun r U U' V V' h1 hal h2 ⟨e0, D', X, a1, a2, a3, a4, a5, a6, a7, a8, a9, a10, a11⟩ => ⟨e0, D', X, a1.mv hal h2, a2, by rw [h1]; exact a3, a4, by rw [h1]; exact a5.mv hal h2, a6, by rw [hal.findClass]; exact a7, a8, a9, by rw [h1, h2]; exact a10, by rw [h1, h2]; exact a11⟩
namespace New4
def yN : MethodName := ⟨"java/lang/String", "<init>", "([CIILjava/lang/Void;)V"⟩
abbrev yB : ByteArray := jdk_42_method_149_code
theorem d0 : decode yB 0 = .ok (.aload_n 0, 1) := by decide +kernel
theorem d1 : decode yB 1 = .ok (.invokespecial 1, 3) := by decide +kernel
theorem d4 : decode yB 4 = .ok (.iload_n 3, 1) := by decide +kernel
theorem d5 : decode yB 5 = .ok (.ifCond (.ne) 22, 3) := by decide +kernel
theorem d27 : decode yB 27 = .ok (.getstatic 38, 3) := by decide +kernel
theorem d30 : decode yB 30 = .ok (.ifCond (.eq) 28, 3) := by decide +kernel
theorem d33 : decode yB 33 = .ok (.aload_n 1, 1) := by decide +kernel
theorem d34 : decode yB 34 = .ok (.iload_n 2, 1) := by decide +kernel
theorem d35 : decode yB 35 = .ok (.iload_n 3, 1) := by decide +kernel
theorem d36 : decode yB 36 = .ok (.invokestatic 177, 3) := by decide +kernel
theorem d39 : decode yB 39 = .ok (.astore 5, 2) := by decide +kernel
theorem d41 : decode yB 41 = .ok (.aload_n 0, 1) := by decide +kernel
theorem d42 : decode yB 42 = .ok (.aload 5, 2) := by decide +kernel
theorem d44 : decode yB 44 = .ok (.iload_n 3, 1) := by decide +kernel
theorem d45 : decode yB 45 = .ok (.invokestatic 47, 3) := by decide +kernel
theorem d48 : decode yB 48 = .ok (.putfield 15, 3) := by decide +kernel
theorem d51 : decode yB 51 = .ok (.aload_n 0, 1) := by decide +kernel
theorem d52 : decode yB 52 = .ok (.aload 5, 2) := by decide +kernel
theorem d54 : decode yB 54 = .ok (.putfield 9, 3) := by decide +kernel
theorem d57 : decode yB 57 = .ok (.return_, 1) := by decide +kernel
def site : List Cond := [.fieldLink "java/lang/String" 38 "java/lang/String" "COMPACT_STRINGS" "Z", Cmp3.tab, CodL.tab, .laysFinal "java/lang/String" "java/lang/String" "value" "[B", .fieldLink "java/lang/String" 9 "java/lang/String" "value" "[B", .laysFinal "java/lang/String" "java/lang/String" "coder" "B", .fieldLink "java/lang/String" 15 "java/lang/String" "coder" "B"] ++ objW "java/lang/String" 1 ++ staticW "java/lang/String" 177 Cmp3.yN ++ staticW "java/lang/String" 47 CodL.yN
def tab : Cond := tabOf yN yB 6 none site
def P (a : Addr) (D : Cell) (fV fC : Field) (b : Addr) (A : Cell) (z : Int32) (o len : Nat) (args : Array Value) (s : State) : Prop := args = #[.ref a, .ref b, .int (Int32.ofNat o), .int (Int32.ofNat len), .null] ∧ Blank "java/lang/String" a D s ∧ Found "java/lang/String" "value" "[B" fV s ∧ Found "java/lang/String" "coder" "B" fC s ∧ Ch b A s ∧ StaticIs s "java/lang/String" "COMPACT_STRINGS" "Z" (.int z) ∧ ¬ z = 0 ∧ 0 < len ∧ o + len ≤ A.slots.size ∧ len ≤ 536870912 ∧ ∀ i, i < len → ¬ 255 < cv A (o + i)
def E (a : Addr) (D : Cell) (fV fC : Field) (A : Cell) (o len : Nat) (r : Option Value) (s u : State) : Prop := Got a D fV fC A o len r s u
/-- len > 0, no char of the range above 255: a Latin-1 String of their low bytes -/
theorem law (l : Launch) (a : Addr) (D : Cell) (fV fC : Field) (b : Addr) (A : Cell) (z : Int32) (o len : Nat) : Law l yN 5 4 2 35 yB 6 none site (P a D fV fC b A z o len) (E a D fV fC A o len) [⟨a, fC.slot⟩, ⟨a, fV.slot⟩] 1 len := by
  refine Law.of_walk (plainFor_of_name (by decide +kernel)) (by decide +kernel) (by decide +kernel) (by decide) (fun _ _ h => by rw [h.1]; rfl) (fun _ U U' hal hh h => ⟨h.1, h.2.1.mv hal hh, h.2.2.1.al hal, h.2.2.2.1.al hal, h.2.2.2.2.1.mv hal hh, h.2.2.2.2.2.1.there hal hh, h.2.2.2.2.2.2⟩) (fun r U U' V V' h1 hal h2 h => Got.mv r U U' V V' h1 hal h2 h) ?_
  intro p e s m args below meth c s₁ X0 hexec hbytes hml hret hlk hnm hown hh0 W hP
  obtain ⟨rfl, hB, f1, f2, hA, s1, hz, l0, l1, l2, hp⟩ := hP
  have a31 := hA.1.2.2.2
  have c1 : Steps p.tables e below (s₁.setTop (entryFrame m #[.ref a, .ref b, .int (Int32.ofNat o), .int (Int32.ofNat len), .null] 6)) (s₁.setTop (mkF m 0 #[.val (.ref a), .val (.ref b), .val (.int (Int32.ofNat o)), .val (.int (Int32.ofNat len)), .val .null, .unset] [])) := entry rfl
  have c2 : Steps p.tables e below (s₁.setTop (entryFrame m #[.ref a, .ref b, .int (Int32.ofNat o), .int (Int32.ofNat len), .null] 6)) (s₁.setTop (mkF m 1 #[.val (.ref a), .val (.ref b), .val (.int (Int32.ofNat o)), .val (.int (Int32.ofNat len)), .val .null, .unset] [.ref a])) := c1.trans (by
    refine XS.aloadN X0.here hexec rfl (hb hbytes d0) rfl rfl ?_
    exact Steps.refl _)
  obtain ⟨T3, X3, q3, st3⟩ := X0.oinit hexec hown (wks W (objW "java/lang/String" 1)) (g := (mkF m 1 #[.val (.ref a), .val (.ref b), .val (.int (Int32.ofNat o)), .val (.int (Int32.ofNat len)), .val .null, .unset] [.ref a])) rfl (by rw [hml]; rfl) (rest := []) rfl (hb hbytes d1) (W := 0) (by show 2 * 0 + 0 ≤ _; decide) (Nat.le_of_ble_eq_true rfl) (Nat.le_of_ble_eq_true rfl)
  have hh3 := q3.trans hh0
  have c4 : Steps p.tables e below (s₁.setTop (entryFrame m #[.ref a, .ref b, .int (Int32.ofNat o), .int (Int32.ofNat len), .null] 6)) (T3.setTop (mkF m 27 #[.val (.ref a), .val (.ref b), .val (.int (Int32.ofNat o)), .val (.int (Int32.ofNat len)), .val .null, .unset] [])) := (c2.trans (st3 _ (Steps.refl _))).trans (by
    refine XS.iloadN X3.here hexec rfl (hb hbytes d4) rfl ?_
    refine XS.ifYes X3.here hexec rfl (pc0 := 5) rfl (hb hbytes d5) rfl (i0_ne_t (nz32 (by omega) l0)) (by decide) rfl ?_
    exact Steps.refl _)
  obtain ⟨T5, X5, q5, st5⟩ := X3.sget hexec hown (wk W (.fieldLink "java/lang/String" 38 "java/lang/String" "COMPACT_STRINGS" "Z")) s1 (fun _ _ h => by rw [hh3]; exact h) (g := (mkF m 27 #[.val (.ref a), .val (.ref b), .val (.int (Int32.ofNat o)), .val (.int (Int32.ofNat len)), .val .null, .unset] [])) rfl (hb hbytes d27)
  have hh5 := q5.trans hh3
  have c6 : Steps p.tables e below (s₁.setTop (entryFrame m #[.ref a, .ref b, .int (Int32.ofNat o), .int (Int32.ofNat len), .null] 6)) (T5.setTop (mkF m 30 #[.val (.ref a), .val (.ref b), .val (.int (Int32.ofNat o)), .val (.int (Int32.ofNat len)), .val .null, .unset] [.int z])) := c4.trans (st5 _ (Steps.refl _))
  have c7 : Steps p.tables e below (s₁.setTop (entryFrame m #[.ref a, .ref b, .int (Int32.ofNat o), .int (Int32.ofNat len), .null] 6)) (T5.setTop (mkF m 36 #[.val (.ref a), .val (.ref b), .val (.int (Int32.ofNat o)), .val (.int (Int32.ofNat len)), .val .null, .unset] [.int (Int32.ofNat len), .int (Int32.ofNat o), .ref b])) := c6.trans (by
    refine XS.ifNo X5.here hexec rfl (hb hbytes d30) rfl (i0_eq_f hz) ?_
    refine XS.aloadN X5.here hexec rfl (hb hbytes d33) rfl rfl ?_
    refine XS.iloadN X5.here hexec rfl (hb hbytes d34) rfl ?_
    refine XS.iloadN X5.here hexec rfl (hb hbytes d35) rfl ?_
    exact Steps.refl _)
  obtain ⟨v8, T8, X8, E8, g8⟩ := X5.callS hexec (Cmp3.law l b A o len) hown (wks W (staticW "java/lang/String" 177 Cmp3.yN)) (wk W Cmp3.tab) (W := 0) (Nat.le_of_ble_eq_true rfl) (Nat.le_of_ble_eq_true rfl) (Nat.le_refl _) (by show 0 + len ≤ len; omega) (g := (mkF m 36 #[.val (.ref a), .val (.ref b), .val (.int (Int32.ofNat o)), .val (.int (Int32.ofNat len)), .val .null, .unset] [.int (Int32.ofNat len), .int (Int32.ofNat o), .ref b])) rfl (by rw [hml]; rfl) c7 (argsL := [.ref b, .int (Int32.ofNat o), .int (Int32.ofNat len)]) (rest := []) rfl rfl (by show 2 * 0 + 0 ≤ _; decide) (hb hbytes d36) (⟨rfl, hA.mv X5.warmed.alike hh5, l1, l2, hp⟩)
  obtain ⟨e8, z8⟩ := E8
  obtain ⟨rfl, N, n1, n2, n3, n4, n5, n6⟩ := NewArr.mv _ T5 s _ _ hh5.symm (Vm.Alike.refl _) rfl e8
  rw [hh5] at z8
  have hB1 := hB.keep X8.warmed.alike (n6 _ _ hB.1)
  have hne : s.heap.size ≠ a := (Nat.ne_of_lt (Array.getElem?_eq_some_iff.mp hB.1).1).symm
  have c9 : Steps p.tables e below (s₁.setTop (entryFrame m #[.ref a, .ref b, .int (Int32.ofNat o), .int (Int32.ofNat len), .null] 6)) (T8.setTop (mkF m 39 #[.val (.ref a), .val (.ref b), .val (.int (Int32.ofNat o)), .val (.int (Int32.ofNat len)), .val .null, .unset] [.ref s.heap.size])) := g8
  have c10 : Steps p.tables e below (s₁.setTop (entryFrame m #[.ref a, .ref b, .int (Int32.ofNat o), .int (Int32.ofNat len), .null] 6)) (T8.setTop (mkF m 45 #[.val (.ref a), .val (.ref b), .val (.int (Int32.ofNat o)), .val (.int (Int32.ofNat len)), .val .null, .val (.ref s.heap.size)] [.int (Int32.ofNat N.slots.size), .ref s.heap.size, .ref a])) := by
    have hc : Steps p.tables e below (s₁.setTop (entryFrame m #[.ref a, .ref b, .int (Int32.ofNat o), .int (Int32.ofNat len), .null] 6)) (T8.setTop (mkF m 45 #[.val (.ref a), .val (.ref b), .val (.int (Int32.ofNat o)), .val (.int (Int32.ofNat len)), .val .null, .val (.ref s.heap.size)] [.int (Int32.ofNat len), .ref s.heap.size, .ref a])) := c9.trans (by
      refine XS.astore X8.here hexec rfl (hb hbytes d39) rfl rfl rfl ?_
      refine XS.aloadN X8.here hexec rfl (hb hbytes d41) rfl rfl ?_
      refine XS.aload X8.here hexec rfl (hb hbytes d42) rfl rfl ?_
      refine XS.iloadN X8.here hexec rfl (hb hbytes d44) rfl ?_
      exact Steps.refl _)
    rw [n4]; exact hc
  obtain ⟨v11, T11, X11, E11, g11⟩ := X8.callS hexec (CodL.law l s.heap.size N) hown (wks W (staticW "java/lang/String" 47 CodL.yN)) (wk W CodL.tab) (W := 1) (Nat.le_of_ble_eq_true rfl) (Nat.le_of_ble_eq_true rfl) (Nat.le_refl _) (by show 0 + len + 0 ≤ len; omega) (g := (mkF m 45 #[.val (.ref a), .val (.ref b), .val (.int (Int32.ofNat o)), .val (.int (Int32.ofNat len)), .val .null, .val (.ref s.heap.size)] [.int (Int32.ofNat N.slots.size), .ref s.heap.size, .ref a])) rfl (by rw [hml]; rfl) c10 (argsL := [.ref s.heap.size, .int (Int32.ofNat N.slots.size)]) (rest := [.ref a]) rfl rfl (by show 2 * 0 + (1 + 0) ≤ _; decide) (hb hbytes d45) (⟨rfl, n1⟩)
  obtain ⟨rfl, q11⟩ := E11
  have hB11 := hB1.mv (X8.warmed.alike.symm.trans X11.warmed.alike) q11
  have c12 : Steps p.tables e below (s₁.setTop (entryFrame m #[.ref a, .ref b, .int (Int32.ofNat o), .int (Int32.ofNat len), .null] 6)) (T11.setTop (mkF m 48 #[.val (.ref a), .val (.ref b), .val (.int (Int32.ofNat o)), .val (.int (Int32.ofNat len)), .val .null, .val (.ref s.heap.size)] [.int 0, .ref a])) := g11
  obtain ⟨T13, X13, p13, bl13, sl13, st13⟩ := X11.finit hexec hown (wk W (.fieldLink "java/lang/String" 15 "java/lang/String" "coder" "B")) (Or.inr ⟨_, (wk W (.laysFinal "java/lang/String" "java/lang/String" "coder" "B"))⟩) (Or.inl ⟨rfl, hnm⟩) f2 (Or.inl rfl) hB11 (t := .byte) (by decide +kernel) rfl (g := (mkF m 48 #[.val (.ref a), .val (.ref b), .val (.int (Int32.ofNat o)), .val (.int (Int32.ofNat len)), .val .null, .val (.ref s.heap.size)] [.int 0, .ref a])) rfl (rest := []) rfl (hb hbytes d48)
  have c14 : Steps p.tables e below (s₁.setTop (entryFrame m #[.ref a, .ref b, .int (Int32.ofNat o), .int (Int32.ofNat len), .null] 6)) (T13.setTop (mkF m 54 #[.val (.ref a), .val (.ref b), .val (.int (Int32.ofNat o)), .val (.int (Int32.ofNat len)), .val .null, .val (.ref s.heap.size)] [.ref s.heap.size, .ref a])) := (c12.trans (st13 _ (Steps.refl _))).trans (by
    refine XS.aloadN X13.here hexec rfl (hb hbytes d51) rfl rfl ?_
    refine XS.aload X13.here hexec rfl (hb hbytes d52) rfl rfl ?_
    exact Steps.refl _)
  obtain ⟨T15, X15, p15, bl15, sl15, st15⟩ := X13.finit hexec hown (wk W (.fieldLink "java/lang/String" 9 "java/lang/String" "value" "[B")) (Or.inr ⟨_, (wk W (.laysFinal "java/lang/String" "java/lang/String" "value" "[B"))⟩) (Or.inl ⟨rfl, hnm⟩) f1 (Or.inl rfl) bl13 (t := (.array .byte)) (by decide +kernel) rfl (g := (mkF m 54 #[.val (.ref a), .val (.ref b), .val (.int (Int32.ofNat o)), .val (.int (Int32.ofNat len)), .val .null, .val (.ref s.heap.size)] [.ref s.heap.size, .ref a])) rfl (rest := []) rfl (hb hbytes d54)
  have c16 : Steps p.tables e below (s₁.setTop (entryFrame m #[.ref a, .ref b, .int (Int32.ofNat o), .int (Int32.ofNat len), .null] 6)) (T15.setTop (mkF m 57 #[.val (.ref a), .val (.ref b), .val (.int (Int32.ofNat o)), .val (.int (Int32.ofNat len)), .val .null, .val (.ref s.heap.size)] [])) := c14.trans (st15 _ (Steps.refl _))
  have ap := apart (Or.inr ⟨_, (wk W (.laysFinal "java/lang/String" "java/lang/String" "value" "[B"))⟩) (Or.inr ⟨_, (wk W (.laysFinal "java/lang/String" "java/lang/String" "coder" "B"))⟩) f1 f2 (t₁ := .array .byte) (t₂ := .byte) (by decide +kernel) (by decide +kernel) (by decide)
  have al := X8.warmed.alike.symm.trans X15.warmed.alike
  have n7 : T11.heap[s.heap.size]? = some N := by rw [q11]; exact n1.1
  exact ⟨T15, none, _, _, _, X15, by simp, rfl, by omega, (fun _ => rfl), ⟨rfl, _, N, bl15, ((Same.refl D _).set _ (by simp)).set _ (by simp), sl15, (Cell.slots_setSlot_ne _ ap).trans sl13, n1.keep al (p15.other hne (p13.other hne n7)), n2, by rw [al.findClass]; exact n3, n4, n5, fun y c h1 h2 => p15.other h1 (p13.other h1 (by rw [q11]; exact n6 y c h2)), by rw [p15.2.2, p13.2.2, q11]; exact z8⟩, fun fs hl => c16.trans (X15.returnOut hexec hret (hb hbytes d57) hl)⟩
end New4
namespace New1
def yN : MethodName := ⟨"java/lang/String", "<init>", "([C)V"⟩
abbrev yB : ByteArray := jdk_42_method_3_code
theorem d0 : decode yB 0 = .ok (.aload_n 0, 1) := by decide +kernel
theorem d1 : decode yB 1 = .ok (.aload_n 1, 1) := by decide +kernel
theorem d2 : decode yB 2 = .ok (.iconst 0, 1) := by decide +kernel
theorem d3 : decode yB 3 = .ok (.aload_n 1, 1) := by decide +kernel
theorem d4 : decode yB 4 = .ok (.arraylength, 1) := by decide +kernel
theorem d5 : decode yB 5 = .ok (.aconst_null, 1) := by decide +kernel
theorem d6 : decode yB 6 = .ok (.invokespecial 27, 3) := by decide +kernel
theorem d9 : decode yB 9 = .ok (.return_, 1) := by decide +kernel
def site : List Cond := [New4.tab] ++ initW "java/lang/String" 27 New4.yN
def tab : Cond := tabOf yN yB 2 none site
def P (a : Addr) (D : Cell) (fV fC : Field) (b : Addr) (A : Cell) (z : Int32) (args : Array Value) (s : State) : Prop := args = #[.ref a, .ref b] ∧ Blank "java/lang/String" a D s ∧ Found "java/lang/String" "value" "[B" fV s ∧ Found "java/lang/String" "coder" "B" fC s ∧ Ch b A s ∧ StaticIs s "java/lang/String" "COMPACT_STRINGS" "Z" (.int z) ∧ ¬ z = 0 ∧ 0 < A.slots.size ∧ A.slots.size ≤ 536870912 ∧ ∀ i, i < A.slots.size → ¬ 255 < cv A i
def E (a : Addr) (D : Cell) (fV fC : Field) (A : Cell) (r : Option Value) (s u : State) : Prop := Got a D fV fC A 0 A.slots.size r s u
/-- new String(chars), not empty, no char above 255: a Latin-1 String of their low bytes -/
theorem law (l : Launch) (a : Addr) (D : Cell) (fV fC : Field) (b : Addr) (A : Cell) (z : Int32) : Law l yN 2 1 3 52 yB 2 none site (P a D fV fC b A z) (E a D fV fC A) [⟨a, fC.slot⟩, ⟨a, fV.slot⟩] 1 A.slots.size := by
  refine Law.of_walk (plainFor_of_name (by decide +kernel)) (by decide +kernel) (by decide +kernel) (by decide) (fun _ _ h => by rw [h.1]; rfl) (fun _ U U' hal hh h => ⟨h.1, h.2.1.mv hal hh, h.2.2.1.al hal, h.2.2.2.1.al hal, h.2.2.2.2.1.mv hal hh, h.2.2.2.2.2.1.there hal hh, h.2.2.2.2.2.2⟩) (fun r U U' V V' h1 hal h2 h => Got.mv r U U' V V' h1 hal h2 h) ?_
  intro p e s m args below meth c s₁ X0 hexec hbytes hml hret hlk hnm hown hh0 W hP
  obtain ⟨rfl, hB, f1, f2, hA, s1, hz, l0, l2, hp⟩ := hP
  have c1 : Steps p.tables e below (s₁.setTop (entryFrame m #[.ref a, .ref b] 2)) (s₁.setTop (mkF m 0 #[.val (.ref a), .val (.ref b)] [])) := entry rfl
  have c2 : Steps p.tables e below (s₁.setTop (entryFrame m #[.ref a, .ref b] 2)) (s₁.setTop (mkF m 6 #[.val (.ref a), .val (.ref b)] [.null, .int (Int32.ofNat A.slots.size), .int 0, .ref b, .ref a])) := c1.trans (by
    refine XS.aloadN X0.here hexec rfl (hb hbytes d0) rfl rfl ?_
    refine XS.aloadN X0.here hexec rfl (hb hbytes d1) rfl rfl ?_
    refine iconstV X0.here hexec rfl 0 (hb hbytes d2) (by decide) ?_
    refine XS.aloadN X0.here hexec rfl (hb hbytes d3) rfl rfl ?_
    refine X0.alen hexec (hA.1.mv X0.warmed.alike hh0) rfl rfl (hb hbytes d4) ?_
    refine XS.aconstNull X0.here hexec rfl (hb hbytes d5) ?_
    exact Steps.refl _)
  obtain ⟨v3, T3, X3, E3, g3⟩ := X0.callN hexec (New4.law l a D fV fC b A z 0 A.slots.size) rfl hown (wks W (initW "java/lang/String" 27 New4.yN)) (W New4.tab (by simp only [site, List.mem_cons, List.mem_append, true_or, or_true])) (W := 0) (Nat.le_of_ble_eq_true rfl) (Nat.le_of_ble_eq_true rfl) (Nat.le_refl _) (by show 0 + A.slots.size ≤ A.slots.size; omega) (g := (mkF m 6 #[.val (.ref a), .val (.ref b)] [.null, .int (Int32.ofNat A.slots.size), .int (Int32.ofNat 0), .ref b, .ref a])) rfl (by rw [hml]; rfl) c2 (argsL := [.ref b, .int (Int32.ofNat 0), .int (Int32.ofNat A.slots.size), .null]) (rest := []) rfl rfl (by show 2 * 0 + 0 ≤ _; decide) (hb hbytes d6) (⟨rfl, hB.mv X0.warmed.alike hh0, f1.al X0.warmed.alike, f2.al X0.warmed.alike, hA.mv X0.warmed.alike hh0, s1.there X0.warmed.alike hh0, hz, l0, by omega, l2, fun i hi => by rw [Nat.zero_add]; exact hp i hi⟩)
  have e0 := Got.mv _ s₁ s _ _ hh0.symm (Vm.Alike.refl _) rfl E3
  obtain rfl := e0.1
  have c4 : Steps p.tables e below (s₁.setTop (entryFrame m #[.ref a, .ref b] 2)) (T3.setTop (mkF m 9 #[.val (.ref a), .val (.ref b)] [])) := g3
  exact ⟨T3, none, _, _, _, X3, by simp, rfl, by omega, (fun _ => rfl), e0, fun fs hl => c4.trans (X3.returnOut hexec hret (hb hbytes d9) hl)⟩
theorem pays {l : Launch} {R : Room} {p : Program} {e : Env} {below : List Frame} {s : State} {sargs : Array Value} {len W : Nat} (a : Addr) (D : Cell) (fV fC : Field) (b : Addr) (A : Cell) (z : Int32) (htab : tab.before sargs s = true) (hfr : 4 ≤ R.frames) (hlo : W + 65 ≤ R.locals) :
    Back l R p e below s sargs yN len W (fun A₁ a₁ => A₁.cells + 1 ≤ R.cells ∧ A₁.slots + A.slots.size ≤ R.slots ∧ P a D fV fC b A z a₁ A₁.U) (fun A₁ _ v₁ B₁ => E a D fV fC A v₁ A₁.U B₁.U ∧ B₁.locs = A₁.locs ++ [⟨a, fC.slot⟩, ⟨a, fV.slot⟩] ∧ B₁.cells = A₁.cells + 1 ∧ B₁.slots = A₁.slots + A.slots.size) :=
  (law l a D fV fC b A z).pays htab hfr (by omega)
end New1
/-- the byte, read back as charAt reads it, is the char -/
theorem lo8_mask {x : Int32} (h0 : ¬ x < 0) (h1 : ¬ 255 < x) : lo8 x &&& 255 = x := by
  have t : ∀ k : Fin 256, lo8 (Int32.ofNat k.val) &&& 255 = Int32.ofNat k.val := by decide +kernel
  rw [Int32.lt_iff_toInt_lt] at h0 h1
  have e0 : (0 : Int32).toInt = 0 := rfl
  have e1 : (255 : Int32).toInt = 255 := rfl
  obtain ⟨k, hk⟩ : ∃ k : Nat, x.toInt = k := ⟨x.toInt.toNat, by omega⟩
  have hx : x = Int32.ofNat k := Int32.toInt_inj.mp (by rw [hk, Int32.toInt_ofNat_small (by omega)])
  rw [hx]
  exact t ⟨k, by omega⟩
end StrChars
namespace StrChars.Road
open Jvm Sem ClassFile Op Lib Jvm.Stand Jvm.Free Jvm.Free.XT
open Jvm.Lib.Cold (StaticIs)
abbrev ST : String := "java/lang/String"
/-- every table word that New1's law asks, flat -/
abbrev words : List Jvm.Cond := [.code New1.yN New1.yB 2 none, .initialized ST, .methodLink ST 27 New4.yN, .instanceMethod New4.yN,
  .code New4.yN New4.yB 6 none, .fieldLink ST 38 ST "COMPACT_STRINGS" "Z", .laysFinal ST ST "value" "[B", .fieldLink ST 9 ST "value" "[B", .laysFinal ST ST "coder" "B", .fieldLink ST 15 ST "coder" "B",
  .methodLink ST 1 Lib.objectInit, .instanceMethod Lib.objectInit, .code Lib.objectInit ⟨#[0xb1]⟩ 1 none, .methodLink ST 177 Cmp3.yN, .static Cmp3.yN, .methodLink ST 47 CodL.yN, .static CodL.yN,
  .code Cmp3.yN Cmp3.yB 6 (some (.array .byte)), .initialized U16, .arrayClass .byte, .methodLink U16 115 Cmp5.yN, .static Cmp5.yN, .code Cmp5.yN Cmp5.yB 7 (some .int), .code CodL.yN CodL.yB 2 (some .byte)]
theorem tab_of {a : Array Value} {s : State} (h : ∀ w ∈ words, w.before a s = true) : New1.tab.before a s = true := by
  have h5 : Cmp5.tab.before a s = true := unparts (wk h (.code Cmp5.yN Cmp5.yB 7 (some .int))) (wks h (.initialized Cmp5.yN.cls :: Cmp5.site))
  have hc : CodL.tab.before a s = true := unparts (wk h (.code CodL.yN CodL.yB 2 (some .byte))) (wks h (.initialized CodL.yN.cls :: CodL.site))
  have q5 : ∀ w ∈ Cmp5.tab :: words, w.before a s = true := fun w hw => (List.mem_cons.mp hw).elim (fun e => e ▸ h5) (h w)
  have h3 : Cmp3.tab.before a s = true := unparts (wk q5 (.code Cmp3.yN Cmp3.yB 6 (some (.array .byte)))) (wks q5 (.initialized Cmp3.yN.cls :: Cmp3.site))
  have q3 : ∀ w ∈ Cmp3.tab :: CodL.tab :: words, w.before a s = true := fun w hw => (List.mem_cons.mp hw).elim (fun e => e ▸ h3) fun hw => (List.mem_cons.mp hw).elim (fun e => e ▸ hc) (h w)
  have h4 : New4.tab.before a s = true := unparts (wk q3 (.code New4.yN New4.yB 6 none)) (wks q3 (.initialized New4.yN.cls :: New4.site))
  have q4 : ∀ w ∈ New4.tab :: words, w.before a s = true := fun w hw => (List.mem_cons.mp hw).elim (fun e => e ▸ h4) (h w)
  exact unparts (wk q4 (.code New1.yN New1.yB 2 none)) (wks q4 (.initialized New1.yN.cls :: New1.site))
/-- the words ride from the start Z to the walk's own state -/
theorem moved {Z s : State} {a0 args : Array Value} (hZ : Z.Warmed39 s.vm) (hw : ∀ d ∈ words, d.before a0 Z = true) : ∀ d ∈ words, d.before args s = true := fun d hd => by
  have q := hw d hd
  have t : ∀ d ∈ words, d = .arrayClass .byte ∨ (d.onTables && d.keepsFace) = true := by decide +kernel
  rcases t d hd with rfl | t
  · exact RoadKit.mvA hZ q
  · exact RoadKit.mv hZ q t
/-- WHAT COMES BACK, over the tables of the start Z: h the heap at the call, h' behind it -/
def Q (Z : State) (x : Addr) (A : Cell) (h : Heap) (v : Option Value) (h' : Heap) (L : List Loc) : Prop := v = none ∧ (∀ y ∈ L, y.base = x) ∧ RoadKit.Keep h h' [x] ∧ h'.size = h.size + 1 ∧ RoadKit.Exa Z h' x ST ∧ RoadKit.Fld Z h' x ST "value" "[B" (.ref h.size) ∧ RoadKit.Fld Z h' x ST "coder" "B" (.int 0) ∧
  (∃ V : Cell, RoadKit.Arr Z h' h.size V .byte ∧ V.vm = .none ∧ Z.vm.findClass "[B" = some V.cls ∧ V.slots.size = A.slots.size ∧ ∀ j, j < A.slots.size → V.slots[j]? = some (.int (lo8 (cv A j)))) ∧
  ∀ (O n d : String) (w : Value), RoadKit.Fld Z h x O n d w → RoadKit.slotOf Z O n d ≠ RoadKit.slotOf Z ST "value" "[B" → RoadKit.slotOf Z O n d ≠ RoadKit.slotOf Z ST "coder" "B" → RoadKit.Fld Z h' x O n d w
/-- **new String(chars) AT A CALL, IN THE ROAD'S FORM**: for specialBack behind newO: x the fresh String, b the char[] with the cell A -/
theorem back {p : Program} {l : Launch} {e : Env} {R : Room} {s : State} {args : Array Value} {below : List Frame} {len W : Nat} {Z : State} {a0 : Array Value} {h : Heap} (hZ : Z.Warmed39 s.vm) (hw : ∀ d ∈ words, d.before a0 Z = true) {kI : Nat} (wi : (Jvm.Cond.instantiable ST kI).before a0 Z = true)
    {x b : Addr} {A : Cell} {z : Int32} {v0 c0 : Value} (E : RoadKit.Exa Z h x ST) (V : RoadKit.Fld Z h x ST "value" "[B" v0) (C : RoadKit.Fld Z h x ST "coder" "B" c0) (K : RoadKit.Arr Z h b A .char) (hty : Typed .char A) (S : RoadKit.Sta Z h ST "COMPACT_STRINGS" "Z" (.int z)) (hz : ¬ z = 0)
    (l0 : 0 < A.slots.size) (l2 : A.slots.size ≤ 536870912) (hp : ∀ i, i < A.slots.size → ¬ 255 < cv A i) (hfr : 4 ≤ R.frames) (hlo : W + 65 ≤ R.locals) :
    Back l R p e below s args New1.yN len W (fun P a => a = #[.ref x, .ref b] ∧ P.U.heap = h ∧ P.cells + 1 ≤ R.cells ∧ P.slots + A.slots.size ≤ R.slots)
      (fun P _ v B => ∃ L, Q Z x A h v B.U.heap L ∧ B.locs = P.locs ++ L ∧ B.cells = P.cells + 1 ∧ B.slots = P.slots + A.slots.size) := by
  intro m meth c P g ig mk a X hg hsize hdg hW hn hp'
  obtain ⟨rfl, rfl, r1, r2⟩ := hp'
  have al : Z.vm.Alike P.U.vm := hZ.alike.trans X.warmed.alike
  obtain ⟨D, cfV, kV, iV, fV, hD, gV, stV, knV, obV, asV, slV⟩ := id V
  obtain ⟨D', cfC, kC, iC, fC, hD', gC, stC, -, -, asC, slC⟩ := id C
  cases hD.symm.trans hD'
  obtain ⟨D2, kD, e1, e2, e3, e4, e5⟩ := id E
  cases hD.symm.trans e1
  obtain ⟨c2, k2, i1, i2, i3, -⟩ := Cond.instantiable_spec wi
  cases e2.symm.trans i1
  cases e3.symm.trans i2
  obtain ⟨kU, u1, u2⟩ := al.2.2 _ _ e3
  have hB : Blank ST x D P.U := ⟨hD, ⟨knV, fun q hq => by rw [hq] at obV; cases obV⟩, by rw [al.findClass]; exact e2, kU, u1, by rw [u2]; exact i3, by rw [u2]; exact e5 i3⟩
  have F1 : Found ST "value" "[B" fV P.U := ⟨SBG.found_only al ⟨cfV, kV, iV, gV⟩, stV⟩
  have F2 : Found ST "coder" "B" fC P.U := ⟨SBG.found_only al ⟨cfC, kC, iC, gC⟩, stC⟩
  have hA : Ch b A P.U := ⟨⟨K.1, State.isArrayOf_alike al K.2.1, K.2.2, by omega⟩, hty⟩
  have hS : StaticIs P.U ST "COMPACT_STRINGS" "Z" (.int z) := by
    obtain ⟨cfS, iS, kS, fS, st, cS, t1, t2, t3, t4, t5, t6, t7⟩ := S
    exact StaticIs.there (s := { Z with heap := P.U.heap }) ⟨cfS, iS, kS, fS, st, cS, t1, t2, t3, t4, t5, (fun q => by rw [q] at t6; cases t6), t7⟩ al rfl
  obtain ⟨v, B, X', ⟨⟨hv, E', V', q1, q2, q3, q4, q5, q6, q7, q8, q9, q10, q11⟩, hl, hc, hs⟩, st⟩ := New1.pays x D fV fC b A z (tab_of (moved hZ hw)) hfr hlo m meth c P g ig mk _ X hg hsize hdg hW hn ⟨r1, r2, rfl, hB, F1, F2, hA, hS, hz, l0, l2, hp⟩
  have al' : Z.vm.Alike B.U.vm := hZ.alike.trans X'.warmed.alike
  have hsz : E'.slots.size = D.slots.size := by
    obtain ⟨-, -, -, kB, w1, w2, w3⟩ := q1
    obtain ⟨kB', y1, y2⟩ := al'.2.2 _ _ e3
    rw [q2.2.1] at w1
    cases w1.symm.trans y1
    rw [w3, e5 i3, y2]
  refine ⟨v, B, X', ⟨_, ⟨hv, ?_, ⟨by omega, fun y cy hy hn' => q10 y cy (by simpa using hn') hy, fun y cy hy => ?_⟩, q11, ⟨E', _, q1.1, by rw [q2.2.1]; exact e2, by rw [q2.2.1]; exact e3, by rw [q2.1]; exact obV, fun _ => by rw [hsz]; exact e5 i3⟩,
    ⟨E', cfV, kV, iV, fV, q1.1, gV, stV, by rw [q2.1]; exact knV, by rw [q2.1]; exact obV, by rw [q2.2.1]; exact asV, q3⟩, ⟨E', cfC, kC, iC, fC, q1.1, gC, stC, by rw [q2.1]; exact knV, by rw [q2.1]; exact obV, by rw [q2.2.1]; exact asC, q4⟩,
    ⟨V', ⟨q5.1, State.isArrayOf_alike al'.symm q5.2.1, q5.2.2.1⟩, q6, by rw [← al'.findClass]; exact q7, q8, fun j hj => by have := q9 j hj; rwa [Nat.zero_add] at this⟩, fun O n d w F n1 n2 => ?_⟩, hl, hc, hs⟩, st⟩
  · intro y hy
    simp only [List.mem_cons, List.not_mem_nil, or_false] at hy
    rcases hy with rfl | rfl <;> rfl
  · by_cases q : y = x
    · subst q
      cases hD.symm.trans hy
      exact ⟨E', q1.1, q2.2.1, q2.1, hsz⟩
    · exact ⟨cy, q10 y cy q hy, rfl, rfl, rfl⟩
  · obtain ⟨D3, cf, k, i, f, g1, g2, g3, g4, g5, g6, g7⟩ := F
    cases hD.symm.trans g1
    simp only [RoadKit.slotOf, g2, gV, gC, Option.map_some, Option.getD_some] at n1 n2
    exact ⟨E', cf, k, i, f, q1.1, g2, g3, by rw [q2.1]; exact g4, by rw [q2.1]; exact g5, by rw [q2.2.1]; exact g6, by rw [q2.2.2 f.slot (by simp [n1, n2])]; exact g7⟩
end StrChars.Road
namespace StrChars.Road
open Jvm Sem ClassFile Op Lib Jvm.Stand Jvm.Free Jvm.Free.XT
/-- WHAT COMES BACK, the byte[] as a list of values -/
def QA (Z : State) (x : Addr) (zn : Int32) (cs : List Int32) (h : Heap) (v : Option Value) (h' : Heap) (L : List Loc) : Prop := v = none ∧ (∀ y ∈ L, y.base = x) ∧ RoadKit.Keep h h' [x] ∧ h'.size = h.size + 1 ∧ RoadKit.Exa Z h' x ST ∧ RoadKit.Fld Z h' x ST "value" "[B" (.ref h.size) ∧ RoadKit.Fld Z h' x ST "coder" "B" (.int 0) ∧
  (∃ kb, Z.vm.findClass "[B" = some kb ∧ RoadKit.Arv Z h' h.size kb .byte zn (cs.map fun c => .int (lo8 c)) (.int 0)) ∧
  ∀ (O n d : String) (w : Value), RoadKit.Fld Z h x O n d w → RoadKit.slotOf Z O n d ≠ RoadKit.slotOf Z ST "value" "[B" → RoadKit.slotOf Z O n d ≠ RoadKit.slotOf Z ST "coder" "B" → RoadKit.Fld Z h' x O n d w
/-- **new String(chars) AT A CALL, THE ARRAYS AS LISTS**: the char[] at b holds cs, not empty, no char above 255 -/
theorem backArv {p : Program} {l : Launch} {e : Env} {R : Room} {s : State} {args : Array Value} {below : List Frame} {len W : Nat} {Z : State} {a0 : Array Value} {h : Heap} (hZ : Z.Warmed39 s.vm) (hw : ∀ d ∈ words, d.before a0 Z = true) {kI : Nat} (wi : (Jvm.Cond.instantiable ST kI).before a0 Z = true)
    {x b : Addr} {k : ClassId} {zn z : Int32} {cs : List Int32} {dv v0 c0 : Value} (E : RoadKit.Exa Z h x ST) (V : RoadKit.Fld Z h x ST "value" "[B" v0) (C : RoadKit.Fld Z h x ST "coder" "B" c0) (K : RoadKit.Arv Z h b k .char zn (cs.map Value.int) dv) (S : RoadKit.Sta Z h ST "COMPACT_STRINGS" "Z" (.int z)) (hz : ¬ z = 0)
    (hlen : zn.toNatClampNeg = cs.length) (h0 : 0 < cs.length) (hbig : cs.length ≤ 536870912) (hall : ∀ c ∈ cs, ¬ 255 < c) (hfr : 4 ≤ R.frames) (hlo : W + 65 ≤ R.locals) :
    Back l R p e below s args New1.yN len W (fun P a => a = #[.ref x, .ref b] ∧ P.U.heap = h ∧ P.cells + 1 ≤ R.cells ∧ P.slots + cs.length ≤ R.slots)
      (fun P _ v B => ∃ L, QA Z x zn cs h v B.U.heap L ∧ B.locs = P.locs ++ L ∧ B.cells = P.cells + 1 ∧ B.slots = P.slots + cs.length) := by
  obtain ⟨A, K1, K2, K3, K4, K5, K6⟩ := K
  have e : A.slots.size = cs.length := K3.trans hlen
  have hat : ∀ (i : Nat) (hi : i < cs.length), A.slots[i]? = some (.int cs[i]) := fun i hi => by rw [K5 i (by omega)]; simp [List.getD_eq_getElem?_getD, hi]
  have hcv : ∀ (i : Nat) (hi : i < cs.length), cv A i = cs[i] := fun i hi => by unfold cv; rw [hat i hi]
  have hty : Typed .char A := fun i v hv => by
    have hi : i < A.slots.size := (Array.getElem?_eq_some_iff.mp hv).1
    have q := K5 i hi
    rw [hv] at q
    rw [Option.some.inj q]
    exact K6 i hi
  refine Back.mono (back hZ hw wi E V C K1 hty S hz (by omega) (by omega) (fun i hi => by rw [hcv i (by omega)]; exact hall _ (List.getElem_mem _)) hfr hlo) (fun P a hp => ⟨hp.1, hp.2.1, hp.2.2.1, by rw [e]; exact hp.2.2.2⟩) (fun P a v B hp hq => ?_)
  obtain ⟨L, ⟨q1, q2, q3, q4, q5, q6, q7, ⟨V', v1, v2, v3, v4, v5⟩, q9⟩, hl, hc, hs⟩ := hq
  refine ⟨L, ⟨q1, q2, q3, q4, q5, q6, q7, ⟨V'.cls, v3, V', v1, rfl, by rw [v4, e, hlen], K4, fun i hi => ?_, fun i hi => ?_⟩, q9⟩, hl, hc, by rw [hs, e]⟩
  · have hi' : i < cs.length := by omega
    rw [v5 i (by omega), hcv i hi']; simp [List.getD_eq_getElem?_getD, hi']
  · have hi' : i < cs.length := by omega
    simp only [List.getD_eq_getElem?_getD, List.getElem?_map, List.getElem?_eq_getElem hi', Option.map_some, Option.getD_some]
    exact fits_lo8 _
end StrChars.Road
namespace StrChars.Road
open Jvm Sem ClassFile Op Lib Jvm.Stand Jvm.Free Jvm.Free.XT
/-- WHAT COMES BACK, in the writer's own shape -/
def QV (Z : State) (x : Addr) (N : Int32) (bs : List Int32) (h : Heap) (n0 : Nat) (v : Option Value) (h' : Heap) (L : List Loc) : Prop := v = none ∧ RoadKit.Fr n0 L ∧ RoadKit.Keep h h' [x] ∧ RoadKit.Exa Z h' x ST ∧ RoadKit.Fld Z h' x ST "coder" "B" (.int 0) ∧
  ∃ (t : Addr) (kb : ClassId), n0 ≤ t ∧ h.size ≤ t ∧ ¬ t = x ∧ RoadKit.Fld Z h' x ST "value" "[B" (.ref t) ∧ RoadKit.Arv Z h' t kb .byte N (bs.map Value.int) (.int 0)
/-- **new String(chars) AT A CALL, FOR THE WRITER**: a char[] of n known ints, each 0 to 255 -/
theorem backV {p : Program} {l : Launch} {e : Env} {R : Room} {s : State} {args : Array Value} {below : List Frame} {len W : Nat} {Z : State} {a0 : Array Value} {h : Heap} (hZ : Z.Warmed39 s.vm) (hw : ∀ d ∈ words, d.before a0 Z = true) {kI : Nat} (wi : (Jvm.Cond.instantiable ST kI).before a0 Z = true)
    {x b : Addr} {kC : ClassId} {cs bs : List Int32} {d v0 c0 : Value} {z N : Int32} {n n0 : Nat} (hx0 : n0 ≤ x) (hh0 : n0 ≤ h.size) (E : RoadKit.Exa Z h x ST) (V : RoadKit.Fld Z h x ST "value" "[B" v0) (C : RoadKit.Fld Z h x ST "coder" "B" c0) (K : RoadKit.Arv Z h b kC .char N (cs.map Value.int) d) (S : RoadKit.Sta Z h ST "COMPACT_STRINGS" "Z" (.int z)) (hz : ¬ z = 0)
    (hn : cs.length = n) (hN : N = Int32.ofNat n) (l0 : 0 < n) (l2 : n ≤ 4000) (hp : ∀ c ∈ cs, ¬ c < 0 ∧ ¬ (255 : Int32) < c) (hb : bs = cs.map (fun c => c.toInt8.toInt32)) (hfr : 4 ≤ R.frames) (hlo : W + 65 ≤ R.locals) :
    Back l R p e below s args (⟨"java/lang/String", "<init>", "([C)V"⟩ : MethodName) len W (fun P a => a = #[.ref x, .ref b] ∧ P.U.heap = h ∧ P.cells + 1 ≤ R.cells ∧ P.slots + n ≤ R.slots)
      (fun P _ v B => ∃ L, QV Z x N bs h n0 v B.U.heap L ∧ B.locs = P.locs ++ L ∧ B.cells = P.cells + 1 ∧ B.slots = P.slots + n) := by
  subst hn hN hb
  refine Back.mono (backArv hZ hw wi E V C K S hz (n32 (by omega)) l0 (by omega) (fun c hc => (hp c hc).2) hfr hlo) (fun P a hp => hp) (fun P a v B hp hq => ?_)
  obtain ⟨L, ⟨q1, q2, q3, q4, q5, q6, q7, ⟨kb, v1, v2⟩, q9⟩, hl, hc, hs⟩ := hq
  exact ⟨L, ⟨q1, fun y hy => by rw [q2 y hy]; exact hx0, q3, q5, q7, h.size, kb, hh0, Nat.le_refl _, Nat.ne_of_gt E.lt, q6, by rw [List.map_map]; exact v2⟩, hl, hc, hs⟩
end StrChars.Road
namespace StrChars
open Jvm Sem ClassFile Op Lib Jvm.Stand Jvm.Free.XT Jvm.Free.ALB Jvm.Free.JM Jvm.Free
open Jvm.Lib.Cold (StaticIs)
def hi8 (x : Int32) : Int32 := lo8 (x >>> ((8 : Int32) &&& 31))
/-- what StringUTF16.getChar makes of two bytes -/
def pairCh (u v : Int32) : Int32 := (((u &&& 255) <<< ((0 : Int32) &&& 31)) ||| ((v &&& 255) <<< ((8 : Int32) &&& 31))).toUInt32.toUInt16.toUInt32.toInt32
theorem shr0 (c : Int32) : c >>> ((0 : Int32) &&& 31) = c := by
  have e : ((0 : Int32) &&& 31) = 0 := by decide
  rw [e]
  apply Int32.toBitVec_inj.mp
  rw [Int32.toBitVec_shiftRight]
  have e1 : ((0 : Int32).toBitVec.smod 32) = 0#32 := by decide
  rw [e1, BitVec.sshiftRight_eq']
  exact BitVec.sshiftRight_zero
theorem lo8_and (x : Int32) : (lo8 x &&& 255).toBitVec.toNat = x.toBitVec.toNat % 256 := by
  have h : (lo8 x).toBitVec = (x.toBitVec.signExtend 8).signExtend 32 := by rw [lo8, Int8.toBitVec_toInt32, Int32.toBitVec_toInt8]
  rw [Int32.toBitVec_and, BitVec.toNat_and, h]
  have e : ((x.toBitVec.signExtend 8).signExtend 32).toNat % 256 = x.toBitVec.toNat % 256 := by
    rw [BitVec.toNat_signExtend]
    have hlt := x.toBitVec.isLt
    simp only [BitVec.toNat_setWidth, BitVec.toNat_signExtend]
    split <;> split <;> omega
  rw [← e]
  exact Nat.and_two_pow_sub_one_eq_mod _ 8
theorem pair_says {c : Int32} (h0 : ¬ c < 0) (h1 : ¬ 65535 < c) : pairCh (lo8 c) (hi8 c) = c := by
  rw [Int32.lt_iff_toInt_lt] at h0 h1
  have e0 : (0 : Int32).toInt = 0 := rfl
  have e1 : (65535 : Int32).toInt = 65535 := rfl
  have hc : c.toInt = c.toBitVec.toNat := by
    have := c.toBitVec.isLt
    have e : c.toInt = c.toBitVec.toInt := rfl
    rw [e] at h0 h1
    rw [e]
    rw [BitVec.toInt_eq_toNat_cond] at h0 h1 ⊢
    split at h0 <;> split <;> omega
  have hn : c.toBitVec.toNat < 65536 := by omega
  have a1 := lo8_and c
  have a2 : (hi8 c &&& 255).toBitVec.toNat = c.toBitVec.toNat / 256 := by
    rw [hi8, lo8_and]
    have e : ((8 : Int32) &&& 31) = 8 := by decide
    rw [e, Int32.toBitVec_shiftRight]
    have e2 : ((8 : Int32).toBitVec.smod 32) = 8#32 := by decide
    rw [e2, BitVec.sshiftRight_eq', BitVec.toNat_sshiftRight_of_msb_false (by rw [BitVec.msb_eq_false_iff_two_mul_lt]; omega)]
    show c.toBitVec.toNat >>> 8 % 256 = _
    rw [Nat.shiftRight_eq_div_pow]
    omega
  unfold pairCh
  apply Int32.toBitVec_inj.mp
  apply BitVec.eq_of_toNat_eq
  have f0 : ((0 : Int32) &&& 31) = 0 := by decide
  have f8 : ((8 : Int32) &&& 31) = 8 := by decide
  rw [f0, f8]
  have g : (((lo8 c &&& 255) <<< (0 : Int32)) ||| ((hi8 c &&& 255) <<< (8 : Int32))).toBitVec.toNat = c.toBitVec.toNat := by
    rw [Int32.toBitVec_or, Int32.toBitVec_shiftLeft, Int32.toBitVec_shiftLeft]
    have s0 : ((0 : Int32).toBitVec.smod 32) = 0#32 := by decide
    have s8 : ((8 : Int32).toBitVec.smod 32) = 8#32 := by decide
    rw [s0, s8, BitVec.toNat_or]
    simp only [BitVec.shiftLeft_eq', BitVec.toNat_shiftLeft, a1, a2]
    show (c.toBitVec.toNat % 256) <<< 0 % 2 ^ 32 ||| (c.toBitVec.toNat / 256) <<< 8 % 2 ^ 32 = _
    rw [Nat.shiftLeft_zero, Nat.mod_eq_of_lt (show c.toBitVec.toNat % 256 < 2 ^ 32 by omega), Nat.mod_eq_of_lt (show (c.toBitVec.toNat / 256) <<< 8 < 2 ^ 32 by rw [Nat.shiftLeft_eq]; omega), Nat.or_comm, ← Nat.shiftLeft_add_eq_or_of_lt (by omega), Nat.shiftLeft_eq]
    omega
  show BitVec.toNat (((((lo8 c &&& 255) <<< (0 : Int32)) ||| ((hi8 c &&& 255) <<< (8 : Int32))).toBitVec.setWidth 16).setWidth 32) = _
  rw [BitVec.toNat_setWidth, BitVec.toNat_setWidth, g]
  omega
end StrChars
namespace StrChars
open Jvm Sem ClassFile Op Lib Jvm.Stand Jvm.Free.XT Jvm.Free.ALB Jvm.Free.JM Jvm.Free
open Jvm.Lib.Cold (StaticIs)
theorem shr1 {n : Nat} (h : 2 * n < 2 ^ 31) : Int32.ofNat (2 * n) >>> ((1 : Int32) &&& 31) = Int32.ofNat n := by
  have e : ((1 : Int32) &&& 31) = 1 := by decide
  rw [e]
  apply Int32.toBitVec_inj.mp
  rw [Int32.toBitVec_shiftRight]
  have e1 : ((1 : Int32).toBitVec.smod 32) = 1#32 := by decide
  have hm : (BitVec.ofNat 32 (2 * n)).toNat = 2 * n := by rw [BitVec.toNat_ofNat, Nat.mod_eq_of_lt (by omega)]
  rw [e1, BitVec.sshiftRight_eq']
  apply BitVec.eq_of_toNat_eq
  show ((BitVec.ofNat 32 (2 * n)).sshiftRight 1).toNat = (BitVec.ofNat 32 n).toNat
  rw [BitVec.toNat_sshiftRight_of_msb_false (by rw [BitVec.msb_eq_false_iff_two_mul_lt, hm]; omega), hm, BitVec.toNat_ofNat, Nat.shiftRight_eq_div_pow]
  omega
/-- charAt's cast of a byte read back -/
def chr8 (u : Int32) : Int32 := (u &&& 255).toUInt32.toUInt16.toUInt32.toInt32
theorem chr8_lo8 {c : Int32} (h0 : ¬ c < 0) (h1 : ¬ 255 < c) : chr8 (lo8 c) = c := by
  have t : ∀ k : Fin 256, (Int32.ofNat k.val).toUInt32.toUInt16.toUInt32.toInt32 = Int32.ofNat k.val := by decide +kernel
  unfold chr8
  rw [lo8_mask h0 h1]
  rw [Int32.lt_iff_toInt_lt] at h0 h1
  have e0 : (0 : Int32).toInt = 0 := rfl
  have e1 : (255 : Int32).toInt = 255 := rfl
  obtain ⟨k, hk⟩ : ∃ k : Nat, c.toInt = k := ⟨c.toInt.toNat, by omega⟩
  have hx : c = Int32.ofNat k := Int32.toInt_inj.mp (by rw [hk, Int32.toInt_ofNat_small (by omega)])
  rw [hx]
  exact t ⟨k, by omega⟩
theorem narrow_ch {c : Int32} (h0 : ¬ c < 0) (h1 : ¬ 65535 < c) : narrow .char (.int c) = .int c := by
  have q : narrow .char (.int (pairCh (lo8 c) (hi8 c))) = .int (pairCh (lo8 c) (hi8 c)) := narrow_c _
  rwa [pair_says h0 h1] at q
/-- the array's cell V codes the n chars f 0 .. f (n - 1) by the coder cd, as the JDK does: coder 1 just where some char is above 255 -/
def Cod (cd : Int32) (n : Nat) (f : Nat → Int32) (V : Cell) : Prop := (cd = 0 ∧ V.slots.size = n ∧ ∀ j, j < n → V.slots[j]? = some (.int (lo8 (f j))) ∧ ¬ 255 < f j) ∨ (cd = 1 ∧ V.slots.size = 2 * n ∧ (∀ j, j < n → V.slots[2 * j]? = some (.int (lo8 (f j))) ∧ V.slots[2 * j + 1]? = some (.int (hi8 (f j)))) ∧ ∃ j, j < n ∧ 255 < f j)
theorem Cod.cd {cd : Int32} {n : Nat} {f : Nat → Int32} {V : Cell} (h : Cod cd n f V) : cd = 0 ∨ cd = 1 := h.imp (fun q => q.1) fun q => q.1
theorem Cod.len {cd : Int32} {n : Nat} {f : Nat → Int32} {V : Cell} (h : Cod cd n f V) (hs : V.slots.size < 2 ^ 31) : Int32.ofNat V.slots.size >>> (cd &&& 31) = Int32.ofNat n := by
  rcases h with ⟨rfl, h, -⟩ | ⟨rfl, h, -⟩
  · rw [shr0, h]
  · rw [h, shr1 (by omega)]
/-- **x is a String of the n chars f 0 .. f (n - 1)**, Latin-1 or UTF-16; its array at t has the cell V -/
def Txt (x t : Addr) (V : Cell) (cd : Int32) (n : Nat) (f : Nat → Int32) (U : State) : Prop := Exact "java/lang/String" x U ∧ Has x "java/lang/String" "value" "[B" (.ref t) U ∧ Has x "java/lang/String" "coder" "B" (.int cd) U ∧ XT.Arr .byte t V U ∧ Cod cd n f V ∧ ∀ j, j < n → ¬ f j < 0 ∧ ¬ 65535 < f j
theorem Txt.mv {x t : Addr} {V : Cell} {cd : Int32} {n : Nat} {f : Nat → Int32} {U U' : State} (h : Txt x t V cd n f U) (hal : U.vm.Alike U'.vm) (hh : U'.heap = U.heap) : Txt x t V cd n f U' := ⟨h.1.mv hal hh, h.2.1.mv hal hh, h.2.2.1.mv hal hh, h.2.2.2.1.mv hal hh, h.2.2.2.2⟩
namespace Cdr
def yN : MethodName := ⟨"java/lang/String", "coder", "()B"⟩
abbrev yB : ByteArray := jdk_42_method_152_code
theorem d0 : decode yB 0 = .ok (.getstatic 38, 3) := by decide +kernel
theorem d3 : decode yB 3 = .ok (.ifCond (.eq) 10, 3) := by decide +kernel
theorem d6 : decode yB 6 = .ok (.aload_n 0, 1) := by decide +kernel
theorem d7 : decode yB 7 = .ok (.getfield 15, 3) := by decide +kernel
theorem d10 : decode yB 10 = .ok (.goto 4, 3) := by decide +kernel
theorem d14 : decode yB 14 = .ok (.ireturn, 1) := by decide +kernel
def site : List Cond := [.fieldLink "java/lang/String" 38 "java/lang/String" "COMPACT_STRINGS" "Z", .fieldLink "java/lang/String" 15 "java/lang/String" "coder" "B"]
def tab : Cond := tabOf yN yB 1 (some .byte) site
def P (x : Addr) (cd z : Int32) (args : Array Value) (s : State) : Prop := args = #[.ref x] ∧ Has x "java/lang/String" "coder" "B" (.int cd) s ∧ (cd = 0 ∨ cd = 1) ∧ StaticIs s "java/lang/String" "COMPACT_STRINGS" "Z" (.int z) ∧ ¬ z = 0
def E (cd : Int32) (r : Option Value) (s u : State) : Prop := XT.PureE (some (.int cd)) r s u
theorem law (l : Launch) (x : Addr) (cd z : Int32) : Law l yN 1 0 0 0 yB 1 (some .byte) site (P x cd z) (E cd) [] 0 0 := by
  refine Law.of_walk (plainFor_of_name (by decide +kernel)) (by decide +kernel) (by decide +kernel) (by decide) (fun _ _ h => by rw [h.1]; rfl) (fun _ U U' hal hh h => ⟨h.1, h.2.1.mv hal hh, h.2.2.1, h.2.2.2.1.there hal hh, h.2.2.2.2⟩) (fun r U U' V V' h1 hal h2 h => XT.PureE.mv r U U' V V' h1 hal h2 h) ?_
  intro p e s m args below meth c s₁ X0 hexec hbytes hml hret hlk hnm hown hh0 W hP
  obtain ⟨rfl, hx, hc, s1, hz⟩ := hP
  have c1 : Steps p.tables e below (s₁.setTop (entryFrame m #[.ref x] 1)) (s₁.setTop (mkF m 0 #[.val (.ref x)] [])) := entry rfl
  obtain ⟨T2, X2, q2, st2⟩ := X0.sget hexec hown (wk W (.fieldLink "java/lang/String" 38 "java/lang/String" "COMPACT_STRINGS" "Z")) s1 (fun _ _ h => by rw [hh0]; exact h) (g := (mkF m 0 #[.val (.ref x)] [])) rfl (hb hbytes d0)
  have hh2 := q2.trans hh0
  have c3 : Steps p.tables e below (s₁.setTop (entryFrame m #[.ref x] 1)) (T2.setTop (mkF m 7 #[.val (.ref x)] [.ref x])) := (c1.trans (st2 _ (Steps.refl _))).trans (by
    refine XS.ifNo X2.here hexec rfl (hb hbytes d3) rfl (i0_eq_f hz) ?_
    refine XS.aloadN X2.here hexec rfl (hb hbytes d6) rfl rfl ?_
    exact Steps.refl _)
  obtain ⟨T4, X4, q4, st4⟩ := X2.hget hexec hown (wk W (.fieldLink "java/lang/String" 15 "java/lang/String" "coder" "B")) (hx.mv X2.warmed.alike hh2) (g := (mkF m 7 #[.val (.ref x)] [.ref x])) rfl (rest := []) rfl (hb hbytes d7)
  have c5 : Steps p.tables e below (s₁.setTop (entryFrame m #[.ref x] 1)) (T4.setTop (mkF m 14 #[.val (.ref x)] [.int cd])) := (c3.trans (st4 _ (Steps.refl _))).trans (by
    refine XS.goto X4.here hexec rfl (pc0 := 10) rfl (hb hbytes d10) (by decide) rfl ?_
    exact Steps.refl _)
  exact ⟨T4, some (.int cd), _, _, _, X4, rfl, rfl, rfl, (fun h => by cases h), ⟨rfl, q4.trans hh2⟩, fun fs hl => c5.trans (X4.ireturnOut hexec hret (by rcases hc with rfl | rfl <;> rfl) (Or.inr (Or.inr (Or.inl rfl))) (hb hbytes d14) hl)⟩
end Cdr
namespace Len
def yN : MethodName := ⟨"java/lang/String", "length", "()I"⟩
abbrev yB : ByteArray := jdk_42_method_54_code
theorem d0 : decode yB 0 = .ok (.aload_n 0, 1) := by decide +kernel
theorem d1 : decode yB 1 = .ok (.getfield 9, 3) := by decide +kernel
theorem d4 : decode yB 4 = .ok (.arraylength, 1) := by decide +kernel
theorem d5 : decode yB 5 = .ok (.aload_n 0, 1) := by decide +kernel
theorem d6 : decode yB 6 = .ok (.invokevirtual 335, 3) := by decide +kernel
theorem d9 : decode yB 9 = .ok (.ishr, 1) := by decide +kernel
theorem d10 : decode yB 10 = .ok (.ireturn, 1) := by decide +kernel
def site : List Cond := [.fieldLink "java/lang/String" 9 "java/lang/String" "value" "[B", Cdr.tab] ++ virtW "java/lang/String" 335 "java/lang/String" Cdr.yN Cdr.yN
def tab : Cond := tabOf yN yB 1 (some .int) site
def P (x t : Addr) (V : Cell) (cd : Int32) (n : Nat) (f : Nat → Int32) (z : Int32) (args : Array Value) (s : State) : Prop := args = #[.ref x] ∧ Txt x t V cd n f s ∧ StaticIs s "java/lang/String" "COMPACT_STRINGS" "Z" (.int z) ∧ ¬ z = 0
def E (n : Nat) (r : Option Value) (s u : State) : Prop := XT.PureE (some (.int (Int32.ofNat n))) r s u
/-- length() of a String of n chars, in either coding -/
theorem law (l : Launch) (x t : Addr) (V : Cell) (cd : Int32) (n : Nat) (f : Nat → Int32) (z : Int32) : Law l yN 1 0 1 13 yB 1 (some .int) site (P x t V cd n f z) (E n) [] 0 0 := by
  refine Law.of_walk (plainFor_of_name (by decide +kernel)) (by decide +kernel) (by decide +kernel) (by decide) (fun _ _ h => by rw [h.1]; rfl) (fun _ U U' hal hh h => ⟨h.1, h.2.1.mv hal hh, h.2.2.1.there hal hh, h.2.2.2⟩) (fun r U U' V V' h1 hal h2 h => XT.PureE.mv r U U' V V' h1 hal h2 h) ?_
  intro p e s m args below meth c s₁ X0 hexec hbytes hml hret hlk hnm hown hh0 W hP
  obtain ⟨rfl, hx, s1, hz⟩ := hP
  have v31 := hx.2.2.2.1.2.2.2
  have c1 : Steps p.tables e below (s₁.setTop (entryFrame m #[.ref x] 1)) (s₁.setTop (mkF m 1 #[.val (.ref x)] [.ref x])) := Steps.trans (entry rfl) (by
    show Steps p.tables e below (s₁.setTop (mkF m 0 #[.val (.ref x)] [])) _
    refine XS.aloadN X0.here hexec rfl (hb hbytes d0) rfl rfl ?_
    exact Steps.refl _)
  obtain ⟨T2, X2, q2, st2⟩ := X0.hget hexec hown (wk W (.fieldLink "java/lang/String" 9 "java/lang/String" "value" "[B")) (hx.mv X0.warmed.alike hh0).2.1 (g := (mkF m 1 #[.val (.ref x)] [.ref x])) rfl (rest := []) rfl (hb hbytes d1)
  have hh2 := q2.trans hh0
  have hx2 := hx.mv X2.warmed.alike hh2
  have c3 : Steps p.tables e below (s₁.setTop (entryFrame m #[.ref x] 1)) (T2.setTop (mkF m 6 #[.val (.ref x)] [.ref x, .int (Int32.ofNat V.slots.size)])) := (c1.trans (st2 _ (Steps.refl _))).trans (by
    refine X2.alen hexec hx2.2.2.2.1 rfl rfl (hb hbytes d4) ?_
    refine XS.aloadN X2.here hexec rfl (hb hbytes d5) rfl rfl ?_
    exact Steps.refl _)
  obtain ⟨v4, T4, X4, E4, g4⟩ := X2.callV hexec (Cdr.law l x cd z) hown (wks W (virtW "java/lang/String" 335 "java/lang/String" Cdr.yN Cdr.yN)) rfl (by decide) (wk W Cdr.tab) (W := 1) (Nat.le_of_ble_eq_true rfl) (Nat.le_of_ble_eq_true rfl) (Nat.le_refl _) (Nat.le_refl _) (hx2.1.fc X2.warmed.alike) hx2.1.is (g := (mkF m 6 #[.val (.ref x)] [.ref x, .int (Int32.ofNat V.slots.size)])) rfl (by rw [hml]; rfl) c3 (argsL := []) (rest := [.int (Int32.ofNat V.slots.size)]) rfl rfl (by show 2 * 0 + (1 + 0) ≤ _; decide) (hb hbytes d6) (⟨rfl, hx2.2.2.1, hx.2.2.2.2.1.cd, s1.there X2.warmed.alike hh2, hz⟩)
  obtain ⟨rfl, q4⟩ := E4
  have c5 : Steps p.tables e below (s₁.setTop (entryFrame m #[.ref x] 1)) (T4.setTop (mkF m 10 #[.val (.ref x)] [.int (Int32.ofNat V.slots.size >>> (cd &&& 31))])) := Steps.trans g4 (by
    refine ishr X4.here hexec rfl (hb hbytes d9) rfl ?_
    exact Steps.refl _)
  rw [hx.2.2.2.2.1.len v31] at c5
  exact ⟨T4, some (.int (Int32.ofNat n)), _, _, _, X4, rfl, rfl, rfl, (fun h => by cases h), ⟨rfl, q4.trans hh2⟩, fun fs hl => c5.trans (X4.ireturnOut hexec hret rfl (Or.inl rfl) (hb hbytes d10) hl)⟩
theorem pays {l : Launch} {R : Room} {p : Program} {e : Env} {below : List Frame} {s : State} {sargs : Array Value} {len W : Nat} (x t : Addr) (V : Cell) (cd : Int32) (n : Nat) (f : Nat → Int32) (z : Int32) (htab : tab.before sargs s = true) (hfr : 2 ≤ R.frames) (hlo : W + 25 ≤ R.locals) :
    Back l R p e below s sargs yN len W (fun A₁ a₁ => A₁.cells + 0 ≤ R.cells ∧ A₁.slots + 0 ≤ R.slots ∧ P x t V cd n f z a₁ A₁.U) (fun A₁ _ v₁ B₁ => E n v₁ A₁.U B₁.U ∧ B₁.locs = A₁.locs ++ [] ∧ B₁.cells = A₁.cells + 0 ∧ B₁.slots = A₁.slots + 0) :=
  (law l x t V cd n f z).pays htab hfr (by omega)
end Len
namespace IsL
def yN : MethodName := ⟨"java/lang/String", "isLatin1", "()Z"⟩
abbrev yB : ByteArray := jdk_42_method_154_code
theorem d0 : decode yB 0 = .ok (.getstatic 38, 3) := by decide +kernel
theorem d3 : decode yB 3 = .ok (.ifCond (.eq) 14, 3) := by decide +kernel
theorem d6 : decode yB 6 = .ok (.aload_n 0, 1) := by decide +kernel
theorem d7 : decode yB 7 = .ok (.getfield 15, 3) := by decide +kernel
theorem d10 : decode yB 10 = .ok (.ifCond (.ne) 7, 3) := by decide +kernel
theorem d13 : decode yB 13 = .ok (.iconst 1, 1) := by decide +kernel
theorem d14 : decode yB 14 = .ok (.goto 4, 3) := by decide +kernel
theorem d17 : decode yB 17 = .ok (.iconst 0, 1) := by decide +kernel
theorem d18 : decode yB 18 = .ok (.ireturn, 1) := by decide +kernel
def site : List Cond := [.fieldLink "java/lang/String" 38 "java/lang/String" "COMPACT_STRINGS" "Z", .fieldLink "java/lang/String" 15 "java/lang/String" "coder" "B"]
def tab : Cond := tabOf yN yB 1 (some .boolean) site
def P (x : Addr) (cd z : Int32) (args : Array Value) (s : State) : Prop := args = #[.ref x] ∧ Has x "java/lang/String" "coder" "B" (.int cd) s ∧ (cd = 0 ∨ cd = 1) ∧ StaticIs s "java/lang/String" "COMPACT_STRINGS" "Z" (.int z) ∧ ¬ z = 0
def E (cd : Int32) (r : Option Value) (s u : State) : Prop := XT.PureE (some (.int (1 - cd))) r s u
theorem law (l : Launch) (x : Addr) (cd z : Int32) : Law l yN 1 0 0 0 yB 1 (some .boolean) site (P x cd z) (E cd) [] 0 0 := by
  refine Law.of_walk (plainFor_of_name (by decide +kernel)) (by decide +kernel) (by decide +kernel) (by decide) (fun _ _ h => by rw [h.1]; rfl) (fun _ U U' hal hh h => ⟨h.1, h.2.1.mv hal hh, h.2.2.1, h.2.2.2.1.there hal hh, h.2.2.2.2⟩) (fun r U U' V V' h1 hal h2 h => XT.PureE.mv r U U' V V' h1 hal h2 h) ?_
  intro p e s m args below meth c s₁ X0 hexec hbytes hml hret hlk hnm hown hh0 W hP
  obtain ⟨rfl, hx, hc, s1, hz⟩ := hP
  have c1 : Steps p.tables e below (s₁.setTop (entryFrame m #[.ref x] 1)) (s₁.setTop (mkF m 0 #[.val (.ref x)] [])) := entry rfl
  obtain ⟨T2, X2, q2, st2⟩ := X0.sget hexec hown (wk W (.fieldLink "java/lang/String" 38 "java/lang/String" "COMPACT_STRINGS" "Z")) s1 (fun _ _ h => by rw [hh0]; exact h) (g := (mkF m 0 #[.val (.ref x)] [])) rfl (hb hbytes d0)
  have hh2 := q2.trans hh0
  have c3 : Steps p.tables e below (s₁.setTop (entryFrame m #[.ref x] 1)) (T2.setTop (mkF m 7 #[.val (.ref x)] [.ref x])) := (c1.trans (st2 _ (Steps.refl _))).trans (by
    refine XS.ifNo X2.here hexec rfl (hb hbytes d3) rfl (i0_eq_f hz) ?_
    refine XS.aloadN X2.here hexec rfl (hb hbytes d6) rfl rfl ?_
    exact Steps.refl _)
  obtain ⟨T4, X4, q4, st4⟩ := X2.hget hexec hown (wk W (.fieldLink "java/lang/String" 15 "java/lang/String" "coder" "B")) (hx.mv X2.warmed.alike hh2) (g := (mkF m 7 #[.val (.ref x)] [.ref x])) rfl (rest := []) rfl (hb hbytes d7)
  have c5 : Steps p.tables e below (s₁.setTop (entryFrame m #[.ref x] 1)) (T4.setTop (mkF m 10 #[.val (.ref x)] [.int cd])) := c3.trans (st4 _ (Steps.refl _))
  have c6 : Steps p.tables e below (s₁.setTop (entryFrame m #[.ref x] 1)) (T4.setTop (mkF m 18 #[.val (.ref x)] [.int (1 - cd)])) := by
    rcases hc with rfl | rfl
    · exact c5.trans (by
        refine XS.ifNo X4.here hexec rfl (hb hbytes d10) rfl (i0_ne_f rfl) ?_
        refine iconstV X4.here hexec rfl 1 (hb hbytes d13) (by decide) ?_
        refine XS.goto X4.here hexec rfl (pc0 := 14) rfl (hb hbytes d14) (by decide) rfl ?_
        exact Steps.refl _)
    · exact c5.trans (by
        refine XS.ifYes X4.here hexec rfl (pc0 := 10) rfl (hb hbytes d10) rfl (i0_ne_t (by decide)) (by decide) rfl ?_
        refine iconstV X4.here hexec rfl 0 (hb hbytes d17) (by decide) ?_
        exact Steps.refl _)
  exact ⟨T4, some (.int (1 - cd)), _, _, _, X4, rfl, rfl, rfl, (fun h => by cases h), ⟨rfl, q4.trans hh2⟩, fun fs hl => c6.trans (X4.ireturnOut hexec hret (by rcases hc with rfl | rfl <;> rfl) (Or.inr (Or.inl rfl)) (hb hbytes d18) hl)⟩
end IsL
namespace LChA
def yN : MethodName := ⟨"java/lang/StringLatin1", "charAt", "([BI)C"⟩
abbrev yB : ByteArray := jdk_43_method_2_code
theorem d0 : decode yB 0 = .ok (.iload_n 1, 1) := by decide +kernel
theorem d1 : decode yB 1 = .ok (.aload_n 0, 1) := by decide +kernel
theorem d2 : decode yB 2 = .ok (.arraylength, 1) := by decide +kernel
theorem d3 : decode yB 3 = .ok (.invokestatic 9, 3) := by decide +kernel
theorem d6 : decode yB 6 = .ok (.aload_n 0, 1) := by decide +kernel
theorem d7 : decode yB 7 = .ok (.iload_n 1, 1) := by decide +kernel
theorem d8 : decode yB 8 = .ok (.baload, 1) := by decide +kernel
theorem d9 : decode yB 9 = .ok (.sipush 255, 3) := by decide +kernel
theorem d12 : decode yB 12 = .ok (.iand, 1) := by decide +kernel
theorem d13 : decode yB 13 = .ok (.i2c, 1) := by decide +kernel
theorem d14 : decode yB 14 = .ok (.ireturn, 1) := by decide +kernel
def site : List Cond := [JO.Str_checkIndex.tab] ++ staticW "java/lang/StringLatin1" 9 JO.Str_checkIndex.yN
def tab : Cond := tabOf yN yB 2 (some .char) site
def P (t : Addr) (V : Cell) (i : Nat) (u : Int32) (fm : Value) (args : Array Value) (s : State) : Prop := args = #[.ref t, .int (Int32.ofNat i)] ∧ XT.Arr .byte t V s ∧ V.slots[i]? = some (.int u) ∧ (StaticIs s "jdk/internal/util/Preconditions" "SIOOBE_FORMATTER" "Ljava/util/function/BiFunction;" fm ∧ fm.isRef = true)
def E (u : Int32) (r : Option Value) (s w : State) : Prop := XT.PureE (some (.int (chr8 u))) r s w
theorem law (l : Launch) (t : Addr) (V : Cell) (i : Nat) (u : Int32) (fm : Value) : Law l yN 2 2 2 27 yB 2 (some .char) site (P t V i u fm) (E u) [] 0 0 := by
  refine Law.of_walk (plainFor_of_name (by decide +kernel)) (by decide +kernel) (by decide +kernel) (by decide) (fun _ _ h => by rw [h.1]; rfl) (fun _ U U' hal hh h => ⟨h.1, h.2.1.mv hal hh, h.2.2.1, h.2.2.2.1.there hal hh, h.2.2.2.2⟩) (fun r U U' V V' h1 hal h2 h => XT.PureE.mv r U U' V V' h1 hal h2 h) ?_
  intro p e s m args below meth c s₁ X0 hexec hbytes hml hret hlk hnm hown hh0 W hP
  obtain ⟨rfl, hV, hu, s1, rf⟩ := hP
  have v31 := hV.2.2.2
  have hi : i < V.slots.size := (Array.getElem?_eq_some_iff.mp hu).1
  have c1 : Steps p.tables e below (s₁.setTop (entryFrame m #[.ref t, .int (Int32.ofNat i)] 2)) (s₁.setTop (mkF m 0 #[.val (.ref t), .val (.int (Int32.ofNat i))] [])) := entry rfl
  have c2 : Steps p.tables e below (s₁.setTop (entryFrame m #[.ref t, .int (Int32.ofNat i)] 2)) (s₁.setTop (mkF m 3 #[.val (.ref t), .val (.int (Int32.ofNat i))] [.int (Int32.ofNat V.slots.size), .int (Int32.ofNat i)])) := c1.trans (by
    refine XS.iloadN X0.here hexec rfl (hb hbytes d0) rfl ?_
    refine XS.aloadN X0.here hexec rfl (hb hbytes d1) rfl rfl ?_
    refine X0.alen hexec (hV.mv X0.warmed.alike hh0) rfl rfl (hb hbytes d2) ?_
    exact Steps.refl _)
  obtain ⟨v3, T3, X3, E3, g3⟩ := X0.callS hexec (JO.Str_checkIndex.law l (Int32.ofNat i) (Int32.ofNat V.slots.size) fm) hown (wks W (staticW "java/lang/StringLatin1" 9 JO.Str_checkIndex.yN)) (wk W JO.Str_checkIndex.tab) (W := 0) (Nat.le_of_ble_eq_true rfl) (Nat.le_of_ble_eq_true rfl) (Nat.le_refl _) (Nat.le_refl _) (g := (mkF m 3 #[.val (.ref t), .val (.int (Int32.ofNat i))] [.int (Int32.ofNat V.slots.size), .int (Int32.ofNat i)])) rfl (by rw [hml]; rfl) c2 (argsL := [.int (Int32.ofNat i), .int (Int32.ofNat V.slots.size)]) (rest := []) rfl rfl (by show 2 * 0 + 0 ≤ _; decide) (hb hbytes d3) (⟨rfl, rf, s1.there X0.warmed.alike hh0, Int32.ofNat_not_neg (by omega), lt32 v31 hi⟩)
  obtain ⟨rfl, q3⟩ := E3
  have hh3 := q3.trans hh0
  have c4 : Steps p.tables e below (s₁.setTop (entryFrame m #[.ref t, .int (Int32.ofNat i)] 2)) (T3.setTop (mkF m 14 #[.val (.ref t), .val (.int (Int32.ofNat i))] [.int (chr8 u)])) := Steps.trans g3 (by
    refine XS.aloadN X3.here hexec rfl (hb hbytes d6) rfl rfl ?_
    refine XS.iloadN X3.here hexec rfl (hb hbytes d7) rfl ?_
    refine X3.aget hexec (hV.mv X3.warmed.alike hh3) rfl hu rfl rfl (hb hbytes d8) ?_
    refine sipushV X3.here hexec rfl 255 (hb hbytes d9) (by decide) ?_
    refine XS.iand X3.here hexec rfl (hb hbytes d12) rfl ?_
    refine i2c X3.here hexec rfl (hb hbytes d13) rfl ?_
    exact Steps.refl _)
  exact ⟨T3, some (.int (chr8 u)), _, _, _, X3, rfl, rfl, rfl, (fun h => by cases h), ⟨rfl, hh3⟩, fun fs hl => c4.trans (X3.ireturnOut hexec hret (narrow_c _) (Or.inr (Or.inr (Or.inr (Or.inl rfl)))) (hb hbytes d14) hl)⟩
end LChA
end StrChars
namespace StrChars.Road
open Jvm Sem ClassFile Op Lib Jvm.Stand Jvm.Free Jvm.Free.XT
open Jvm.Lib.Cold (StaticIs)
theorem consq {a : Array Value} {s : State} {c : Jvm.Cond} {L : List Jvm.Cond} (h0 : c.before a s = true) (h : ∀ w ∈ L, w.before a s = true) : ∀ w ∈ c :: L, w.before a s = true := fun w hw => (List.mem_cons.mp hw).elim (fun e => e ▸ h0) (h w)
/-- the words of String.length(), either coding -/
abbrev wordsLen : List Jvm.Cond := [.code Len.yN Len.yB 1 (some .int), .initialized ST, .fieldLink ST 9 ST "value" "[B", .fieldLink ST 38 ST "COMPACT_STRINGS" "Z", .fieldLink ST 15 ST "coder" "B", .code Cdr.yN Cdr.yB 1 (some .byte), .methodLink ST 335 Cdr.yN, .declares Cdr.yN, .selects ST Cdr.yN Cdr.yN, .instanceMethod Cdr.yN]
theorem tabLen_of {a : Array Value} {s : State} (h : ∀ w ∈ wordsLen, w.before a s = true) : Len.tab.before a s = true := by
  have hc : Cdr.tab.before a s = true := unparts (wk h (.code Cdr.yN Cdr.yB 1 (some .byte))) (wks h (.initialized Cdr.yN.cls :: Cdr.site))
  have q := consq hc h
  exact unparts (wk q (.code Len.yN Len.yB 1 (some .int))) (wks q (.initialized Len.yN.cls :: Len.site))
theorem movedLen {Z s : State} {a0 args : Array Value} (hZ : Z.Warmed39 s.vm) (hw : ∀ d ∈ wordsLen, d.before a0 Z = true) : ∀ d ∈ wordsLen, d.before args s = true := fun d hd => by
  have q := hw d hd
  have t : ∀ d ∈ wordsLen, d = .arrayClass .byte ∨ (d.onTables && d.keepsFace) = true := by decide +kernel
  rcases t d hd with rfl | t
  · exact RoadKit.mvA hZ q
  · exact RoadKit.mv hZ q t
/-- the bytes of the chars cs, low before high -/
def wideBytes : List Int32 → List Value
  | [] => []
  | c :: cs => .int (lo8 c) :: .int (hi8 c) :: wideBytes cs
theorem wide_lo (d : Value) : ∀ (cs : List Int32) (j : Nat), j < cs.length → (wideBytes cs).getD (2 * j) d = .int (lo8 (cs.getD j 0))
  | [], j, h => absurd h (Nat.not_lt_zero j)
  | c :: cs, 0, _ => rfl
  | c :: cs, j + 1, h => by
    have q := wide_lo d cs j (by simpa using h)
    rw [show 2 * (j + 1) = 2 * j + 1 + 1 from by omega]
    simpa [wideBytes] using q
theorem wide_hi (d : Value) : ∀ (cs : List Int32) (j : Nat), j < cs.length → (wideBytes cs).getD (2 * j + 1) d = .int (hi8 (cs.getD j 0))
  | [], j, h => absurd h (Nat.not_lt_zero j)
  | c :: cs, 0, _ => rfl
  | c :: cs, j + 1, h => by
    have q := wide_hi d cs j (by simpa using h)
    rw [show 2 * (j + 1) + 1 = 2 * j + 1 + 1 + 1 from by omega]
    simpa [wideBytes] using q
theorem low_at (d : Value) (cs : List Int32) (j : Nat) (h : j < cs.length) : (cs.map fun c => Value.int (lo8 c)).getD j d = .int (lo8 (cs.getD j 0)) := by
  simp [List.getD_eq_getElem?_getD, h]
/-- an array of N2 bytes vs codes the chars cs by the coder cd -/
def CodA (cs : List Int32) (cd N2 : Int32) (vs : List Value) : Prop := (cd = 0 ∧ N2 = Int32.ofNat cs.length ∧ vs = (cs.map fun c => Value.int (lo8 c)) ∧ ∀ c ∈ cs, ¬ 255 < c) ∨ (cd = 1 ∧ N2 = Int32.ofNat (2 * cs.length) ∧ vs = wideBytes cs ∧ ∃ c ∈ cs, 255 < c)
theorem CodA.cod {cs : List Int32} {cd N2 : Int32} {vs : List Value} {V : Cell} (h : CodA cs cd N2 vs) (hn : 2 * cs.length < 2 ^ 31) (hs : V.slots.size = N2.toNatClampNeg) (hv : RoadKit.Has V vs (.int 0)) : Cod cd cs.length (fun j => cs.getD j 0) V := by
  rcases h with ⟨rfl, rfl, rfl, h⟩ | ⟨rfl, rfl, rfl, c, hc, hw⟩
  · rw [n32 (by omega)] at hs
    exact Or.inl ⟨rfl, hs, fun j hj => ⟨by rw [hv j (by omega), low_at _ _ _ hj], by
      have e : cs.getD j 0 = cs[j] := by simp [List.getD_eq_getElem?_getD, hj]
      show ¬ 255 < cs.getD j 0
      rw [e]; exact h _ (List.getElem_mem _)⟩⟩
  · rw [n32 (by omega)] at hs
    obtain ⟨j, hj, rfl⟩ := List.getElem_of_mem hc
    exact Or.inr ⟨rfl, hs, fun j hj => ⟨by rw [hv _ (by omega), wide_lo _ _ _ hj], by rw [hv _ (by omega), wide_hi _ _ _ hj]⟩, j, hj, by
      have e : cs.getD j 0 = cs[j] := by simp [List.getD_eq_getElem?_getD, hj]
      show 255 < cs.getD j 0
      rw [e]; exact hw⟩
/-- an object of exactly java/lang/String, its two fields found: as the laws ask it -/
theorem strObj {Z U : State} {a0 : Array Value} {kI : Nat} (wi : (Jvm.Cond.instantiable ST kI).before a0 Z = true) (al : Z.vm.Alike U.vm) {x : Addr} {v0 c0 : Value} (E : RoadKit.Exa Z U.heap x ST) (V : RoadKit.Fld Z U.heap x ST "value" "[B" v0) (C : RoadKit.Fld Z U.heap x ST "coder" "B" c0) :
    ∃ (D : Cell) (fV fC : Field), Blank ST x D U ∧ Found ST "value" "[B" fV U ∧ Found ST "coder" "B" fC U ∧ D.slots[fV.slot]? = some v0 ∧ D.slots[fC.slot]? = some c0 ∧ RoadKit.slotOf Z ST "value" "[B" = fV.slot ∧ RoadKit.slotOf Z ST "coder" "B" = fC.slot := by
  obtain ⟨D, cfV, kV, iV, fV, hD, gV, stV, knV, obV, asV, slV⟩ := V
  obtain ⟨D', cfC, kC, iC, fC, hD', gC, stC, -, -, asC, slC⟩ := C
  cases hD.symm.trans hD'
  obtain ⟨D2, kD, e1, e2, e3, e4, e5⟩ := E
  cases hD.symm.trans e1
  obtain ⟨c2, k2, i1, i2, i3, -⟩ := Cond.instantiable_spec wi
  cases e2.symm.trans i1
  cases e3.symm.trans i2
  obtain ⟨kU, u1, u2⟩ := al.2.2 _ _ e3
  exact ⟨D, fV, fC, ⟨hD, ⟨knV, fun q hq => by rw [hq] at obV; cases obV⟩, by rw [al.findClass]; exact e2, kU, u1, by rw [u2]; exact i3, by rw [u2]; exact e5 i3⟩, ⟨SBG.found_only al ⟨cfV, kV, iV, gV⟩, stV⟩, ⟨SBG.found_only al ⟨cfC, kC, iC, gC⟩, stC⟩, slV, slC, by simp [RoadKit.slotOf, gV], by simp [RoadKit.slotOf, gC]⟩
theorem sta_is {Z U : State} (al : Z.vm.Alike U.vm) {C n d : String} {v : Value} (S : RoadKit.Sta Z U.heap C n d v) : StaticIs U C n d v := by
  obtain ⟨cfS, iS, kS, fS, st, cS, t1, t2, t3, t4, t5, t6, t7⟩ := S
  exact StaticIs.there (s := { Z with heap := U.heap }) ⟨cfS, iS, kS, fS, st, cS, t1, t2, t3, t4, t5, (fun q => by rw [q] at t6; cases t6), t7⟩ al rfl
/-- **length() OF SUCH A STRING** -/
theorem lenW {p : Program} {l : Launch} {e : Env} {R : Room} {s : State} {args : Array Value} {below : List Frame} {len W : Nat} {Z : State} {a0 : Array Value} {h : Heap} (hZ : Z.Warmed39 s.vm) (hw : ∀ d ∈ wordsLen, d.before a0 Z = true) {kI : Nat} (wi : (Jvm.Cond.instantiable ST kI).before a0 Z = true)
    {x t : Addr} {kb : ClassId} {cs : List Int32} {cd N2 z : Int32} {vs : List Value} (E : RoadKit.Exa Z h x ST) (V : RoadKit.Fld Z h x ST "value" "[B" (.ref t)) (C : RoadKit.Fld Z h x ST "coder" "B" (.int cd)) (K : RoadKit.Arv Z h t kb .byte N2 vs (.int 0)) (hc : CodA cs cd N2 vs) (hb : ∀ c ∈ cs, ¬ c < 0 ∧ ¬ (65535 : Int32) < c)
    (S : RoadKit.Sta Z h ST "COMPACT_STRINGS" "Z" (.int z)) (hz : ¬ z = 0) (l2 : cs.length ≤ 4000) (hfr : 2 ≤ R.frames) (hlo : W + 25 ≤ R.locals) :
    Back l R p e below s args (⟨"java/lang/String", "length", "()I"⟩ : MethodName) len W (fun P a => a = #[.ref x] ∧ P.U.heap = h ∧ P.cells + 0 ≤ R.cells ∧ P.slots + 0 ≤ R.slots)
      (fun P _ v B => ∃ L, (v = some (.int (Int32.ofNat cs.length)) ∧ L = [] ∧ B.U.heap = h) ∧ B.locs = P.locs ++ L ∧ B.cells = P.cells + 0 ∧ B.slots = P.slots + 0) := by
  obtain ⟨A, K1, K2, K3, K4, K5, K6⟩ := K
  have hcod := hc.cod (by omega) K3 K5
  intro m meth c P g ig mk a X hg hsize hdg hW hn hp'
  obtain ⟨rfl, rfl, r1, r2⟩ := hp'
  have al : Z.vm.Alike P.U.vm := hZ.alike.trans X.warmed.alike
  obtain ⟨D, fV, fC, hB, F1, F2, g1, g2, -, -⟩ := strObj wi al E V C
  have hx : Txt x t A cd cs.length (fun j => cs.getD j 0) P.U := ⟨⟨_, hB.2.2.1, D, hB.1, rfl, by cases q : D.vm <;> first | rfl | exact absurd q (hB.2.1.2 _)⟩, Has.of hB F1 g1, Has.of hB F2 g2, ⟨K1.1, State.isArrayOf_alike al K1.2.1, K1.2.2, by rcases hcod with ⟨-, q, -⟩ | ⟨-, q, -⟩ <;> omega⟩, hcod, fun j hj => by
    have e : cs.getD j 0 = cs[j] := by simp [List.getD_eq_getElem?_getD, hj]
    show ¬ cs.getD j 0 < 0 ∧ ¬ 65535 < cs.getD j 0
    rw [e]; exact hb _ (List.getElem_mem _)⟩
  obtain ⟨v, B, X', ⟨⟨hv, hh⟩, hl, hk, hs⟩, st⟩ := Len.pays x t A cd cs.length (fun j => cs.getD j 0) z (tabLen_of (movedLen hZ hw)) hfr hlo m meth c P g ig mk _ X hg hsize hdg hW hn ⟨r1, r2, rfl, hx, sta_is al S, hz⟩
  exact ⟨v, B, X', ⟨[], ⟨hv, rfl, hh⟩, hl, hk, hs⟩, st⟩
end StrChars.Road
namespace StrChars
open Jvm Sem ClassFile Op Lib Jvm.Stand Jvm.Free.XT Jvm.Free.ALB Jvm.Free.JM Jvm.Free
open Jvm.Lib.Cold (StaticIs)
/-- what place i of a byte[]'s cell holds -/
def yv (A : Cell) (i : Nat) : Int32 := match A.slots[i]? with | some (.int x) => x | _ => 0
theorem yv_get {a : Addr} {A : Cell} {U : State} (h : XT.Arr .byte a A U) (ht : Typed .byte A) {i : Nat} (hi : i < A.slots.size) : A.slots[i]? = some (.int (yv A i)) := by
  have e := Array.getElem?_eq_getElem hi
  have f := ht i _ e
  unfold yv; rw [e]
  generalize A.slots[i] = v at f
  cases v <;> simp [fits] at f ⊢
/-- the two arrays are equal, place for place -/
def EqC (A B : Cell) : Prop := A.slots.size = B.slots.size ∧ ∀ i, i < A.slots.size → yv A i = yv B i
/-- a boolean that says whether p -/
def Says01 (q : Prop) (r : Option Value) (s u : State) : Prop := ∃ v : Int32, r = some (.int v) ∧ u.heap = s.heap ∧ ((v = 1 ∧ q) ∨ (v = 0 ∧ ¬ q))
theorem Says01.mv {q : Prop} : ∀ r (U U' V V' : State), U'.heap = U.heap → V.vm.Alike V'.vm → V'.heap = V.heap → Says01 q r U V → Says01 q r U' V' :=
  fun r U U' V V' h1 _ h2 ⟨v, a, b, c⟩ => ⟨v, a, by rw [h1, h2]; exact b, c⟩
namespace LEq
def yN : MethodName := ⟨"java/lang/StringLatin1", "equals", "([B[B)Z"⟩
abbrev yB : ByteArray := jdk_43_method_13_code
theorem d0 : decode yB 0 = .ok (.aload_n 0, 1) := by decide +kernel
theorem d1 : decode yB 1 = .ok (.arraylength, 1) := by decide +kernel
theorem d2 : decode yB 2 = .ok (.aload_n 1, 1) := by decide +kernel
theorem d3 : decode yB 3 = .ok (.arraylength, 1) := by decide +kernel
theorem d4 : decode yB 4 = .ok (.if_icmp (.ne) 30, 3) := by decide +kernel
theorem d7 : decode yB 7 = .ok (.iconst 0, 1) := by decide +kernel
theorem d8 : decode yB 8 = .ok (.istore_n 2, 1) := by decide +kernel
theorem d9 : decode yB 9 = .ok (.iload_n 2, 1) := by decide +kernel
theorem d10 : decode yB 10 = .ok (.aload_n 0, 1) := by decide +kernel
theorem d11 : decode yB 11 = .ok (.arraylength, 1) := by decide +kernel
theorem d12 : decode yB 12 = .ok (.if_icmp (.ge) 20, 3) := by decide +kernel
theorem d15 : decode yB 15 = .ok (.aload_n 0, 1) := by decide +kernel
theorem d16 : decode yB 16 = .ok (.iload_n 2, 1) := by decide +kernel
theorem d17 : decode yB 17 = .ok (.baload, 1) := by decide +kernel
theorem d18 : decode yB 18 = .ok (.aload_n 1, 1) := by decide +kernel
theorem d19 : decode yB 19 = .ok (.iload_n 2, 1) := by decide +kernel
theorem d20 : decode yB 20 = .ok (.baload, 1) := by decide +kernel
theorem d21 : decode yB 21 = .ok (.if_icmp (.eq) 5, 3) := by decide +kernel
theorem d24 : decode yB 24 = .ok (.iconst 0, 1) := by decide +kernel
theorem d25 : decode yB 25 = .ok (.ireturn, 1) := by decide +kernel
theorem d26 : decode yB 26 = .ok (.iinc 2 1, 3) := by decide +kernel
theorem d29 : decode yB 29 = .ok (.goto (-20), 3) := by decide +kernel
theorem d32 : decode yB 32 = .ok (.iconst 1, 1) := by decide +kernel
theorem d33 : decode yB 33 = .ok (.ireturn, 1) := by decide +kernel
theorem d34 : decode yB 34 = .ok (.iconst 0, 1) := by decide +kernel
theorem d35 : decode yB 35 = .ok (.ireturn, 1) := by decide +kernel
def site : List Cond := []
def tab : Cond := tabOf yN yB 3 (some .boolean) site
def P (a : Addr) (A : Cell) (b : Addr) (B : Cell) (args : Array Value) (s : State) : Prop := args = #[.ref a, .ref b] ∧ XT.Arr .byte a A s ∧ Typed .byte A ∧ XT.Arr .byte b B s ∧ Typed .byte B
/-- whether two byte[] are equal, place for place -/
theorem law (l : Launch) (a : Addr) (A : Cell) (b : Addr) (B : Cell) : Law l yN 2 2 0 0 yB 3 (some .boolean) site (P a A b B) (Says01 (EqC A B)) [] 0 0 := by
  refine Law.of_walk (plainFor_of_name (by decide +kernel)) (by decide +kernel) (by decide +kernel) (by decide) (fun _ _ h => by rw [h.1]; rfl) (fun _ U U' hal hh h => ⟨h.1, h.2.1.mv hal hh, h.2.2.1, h.2.2.2.1.mv hal hh, h.2.2.2.2⟩) (fun r U U' V V' h1 hal h2 h => Says01.mv r U U' V V' h1 hal h2 h) ?_
  intro p e s m args below meth c s₁ X0 hexec hbytes hml hret hlk hnm hown hh0 W hP
  obtain ⟨rfl, hA, tA, hB, tB⟩ := hP
  have a31 := hA.2.2.2
  have b31 := hB.2.2.2
  have hA0 := hA.mv X0.warmed.alike hh0
  have hB0 := hB.mv X0.warmed.alike hh0
  have c1 : Steps p.tables e below (s₁.setTop (entryFrame m #[.ref a, .ref b] 3)) (s₁.setTop (mkF m 0 #[.val (.ref a), .val (.ref b), .unset] [])) := entry rfl
  have c2 : Steps p.tables e below (s₁.setTop (entryFrame m #[.ref a, .ref b] 3)) (s₁.setTop (mkF m 4 #[.val (.ref a), .val (.ref b), .unset] [.int (Int32.ofNat B.slots.size), .int (Int32.ofNat A.slots.size)])) := c1.trans (by
    refine XS.aloadN X0.here hexec rfl (hb hbytes d0) rfl rfl ?_
    refine X0.alen hexec hA0 rfl rfl (hb hbytes d1) ?_
    refine XS.aloadN X0.here hexec rfl (hb hbytes d2) rfl rfl ?_
    refine X0.alen hexec hB0 rfl rfl (hb hbytes d3) ?_
    exact Steps.refl _)
  by_cases hs : A.slots.size = B.slots.size
  · have c3 : Steps p.tables e below (s₁.setTop (entryFrame m #[.ref a, .ref b] 3)) (s₁.setTop (mkF m 9 #[.val (.ref a), .val (.ref b), .val (.int 0)] [])) := c2.trans (by
      refine XS.icmpNo X0.here hexec rfl (hb hbytes d4) rfl (ii_ne_f (by rw [hs])) ?_
      refine iconstV X0.here hexec rfl 0 (hb hbytes d7) (by decide) ?_
      refine XS.istoreN X0.here hexec rfl (hb hbytes d8) rfl rfl ?_
      exact Steps.refl _)
    have loop : ∀ (r i : Nat), i + r = A.slots.size → (∀ j, j < i → yv A j = yv B j) → Steps p.tables e below (s₁.setTop (entryFrame m #[.ref a, .ref b] 3)) (s₁.setTop (mkF m 9 #[.val (.ref a), .val (.ref b), .val (.int (Int32.ofNat i))] [])) → ∃ (pc : Nat) (Ls : Array Slot) (v : Int32), (pc = 25 ∨ pc = 33) ∧ ((v = 1 ∧ EqC A B) ∨ (v = 0 ∧ ¬ EqC A B)) ∧ Steps p.tables e below (s₁.setTop (entryFrame m #[.ref a, .ref b] 3)) (s₁.setTop (mkF m pc Ls [.int v])) := by
      intro r
      induction r with
      | zero =>
        intro i hi he cl
        exact ⟨33, _, 1, Or.inr rfl, Or.inl ⟨rfl, hs, fun j hj => he j (by omega)⟩, cl.trans (by
          refine XS.iloadN X0.here hexec rfl (hb hbytes d9) rfl ?_
          refine XS.aloadN X0.here hexec rfl (hb hbytes d10) rfl rfl ?_
          refine X0.alen hexec hA0 rfl rfl (hb hbytes d11) ?_
          refine XS.icmpYes X0.here hexec rfl (pc0 := 12) rfl (hb hbytes d12) rfl (ii_ge_t (nlt32 (by omega) (by omega))) (by decide) rfl ?_
          refine iconstV X0.here hexec rfl 1 (hb hbytes d32) (by decide) ?_
          exact Steps.refl _)⟩
      | succ r ih =>
        intro i hi he cl
        have c4 : Steps p.tables e below (s₁.setTop (entryFrame m #[.ref a, .ref b] 3)) (s₁.setTop (mkF m 21 #[.val (.ref a), .val (.ref b), .val (.int (Int32.ofNat i))] [.int (yv B i), .int (yv A i)])) := cl.trans (by
          refine XS.iloadN X0.here hexec rfl (hb hbytes d9) rfl ?_
          refine XS.aloadN X0.here hexec rfl (hb hbytes d10) rfl rfl ?_
          refine X0.alen hexec hA0 rfl rfl (hb hbytes d11) ?_
          refine XS.icmpNo X0.here hexec rfl (hb hbytes d12) rfl (ii_ge_f (lt32 (by omega) (by omega))) ?_
          refine XS.aloadN X0.here hexec rfl (hb hbytes d15) rfl rfl ?_
          refine XS.iloadN X0.here hexec rfl (hb hbytes d16) rfl ?_
          refine X0.aget hexec hA0 rfl (yv_get hA tA (i := i) (by omega)) rfl rfl (hb hbytes d17) ?_
          refine XS.aloadN X0.here hexec rfl (hb hbytes d18) rfl rfl ?_
          refine XS.iloadN X0.here hexec rfl (hb hbytes d19) rfl ?_
          refine X0.aget hexec hB0 rfl (yv_get hB tB (i := i) (by omega)) rfl rfl (hb hbytes d20) ?_
          exact Steps.refl _)
        by_cases hv : yv A i = yv B i
        · have c5 : Steps p.tables e below (s₁.setTop (entryFrame m #[.ref a, .ref b] 3)) (s₁.setTop (mkF m 9 #[.val (.ref a), .val (.ref b), .val (.int (Int32.ofNat i + 1))] [])) := c4.trans (by
            refine XS.icmpYes X0.here hexec rfl (pc0 := 21) rfl (hb hbytes d21) rfl (ii_eq_t hv) (by decide) rfl ?_
            refine iincV X0.here hexec rfl 1 (hb hbytes d26) (by decide) rfl rfl ?_
            refine XS.goto X0.here hexec rfl (pc0 := 29) rfl (hb hbytes d29) (by decide) rfl ?_
            exact Steps.refl _)
          rw [succ32] at c5
          exact ih (i + 1) (by omega) (fun j hj => by
            by_cases e : j = i
            · rw [e]; exact hv
            · exact he j (by omega)) c5
        · exact ⟨25, _, 0, Or.inl rfl, Or.inr ⟨rfl, fun q => hv (q.2 i (by omega))⟩, c4.trans (by
            refine XS.icmpNo X0.here hexec rfl (hb hbytes d21) rfl (ii_eq_f hv) ?_
            refine iconstV X0.here hexec rfl 0 (hb hbytes d24) (by decide) ?_
            exact Steps.refl _)⟩
    obtain ⟨pc, Ls, v, hpc, hv, cz⟩ := loop A.slots.size 0 (by omega) (fun j hj => absurd hj (Nat.not_lt_zero j)) c3
    have nv : narrow .boolean (.int v) = .int v := by rcases hv with ⟨rfl, -⟩ | ⟨rfl, -⟩ <;> rfl
    rcases hpc with rfl | rfl
    · exact ⟨s₁, some (.int v), _, _, _, X0, rfl, rfl, rfl, (fun h => by cases h), ⟨v, rfl, hh0, hv⟩, fun fs hl => cz.trans (X0.ireturnOut hexec hret nv (Or.inr (Or.inl rfl)) (hb hbytes d25) hl)⟩
    · exact ⟨s₁, some (.int v), _, _, _, X0, rfl, rfl, rfl, (fun h => by cases h), ⟨v, rfl, hh0, hv⟩, fun fs hl => cz.trans (X0.ireturnOut hexec hret nv (Or.inr (Or.inl rfl)) (hb hbytes d33) hl)⟩
  · have c3 : Steps p.tables e below (s₁.setTop (entryFrame m #[.ref a, .ref b] 3)) (s₁.setTop (mkF m 35 #[.val (.ref a), .val (.ref b), .unset] [.int 0])) := c2.trans (by
      refine XS.icmpYes X0.here hexec rfl (pc0 := 4) rfl (hb hbytes d4) rfl (ii_ne_t (ne32 a31 b31 hs)) (by decide) rfl ?_
      refine iconstV X0.here hexec rfl 0 (hb hbytes d34) (by decide) ?_
      exact Steps.refl _)
    exact ⟨s₁, some (.int 0), _, _, _, X0, rfl, rfl, rfl, (fun h => by cases h), ⟨0, rfl, hh0, Or.inr ⟨rfl, fun q => hs q.1⟩⟩, fun fs hl => c3.trans (X0.ireturnOut hexec hret rfl (Or.inr (Or.inl rfl)) (hb hbytes d35) hl)⟩
end LEq
theorem Cod.ty {cd : Int32} {n : Nat} {f : Nat → Int32} {V : Cell} (h : Cod cd n f V) : Typed .byte V := fun i v hv => by
  have hi : i < V.slots.size := (Array.getElem?_eq_some_iff.mp hv).1
  rcases h with ⟨-, k1, k2⟩ | ⟨-, k1, k2, -⟩
  · rw [(k2 i (by omega)).1] at hv; cases hv; exact fits_lo8 _
  · rcases Nat.mod_two_eq_zero_or_one i with e | e
    · obtain ⟨j, rfl⟩ : ∃ j, i = 2 * j := ⟨i / 2, by omega⟩
      rw [(k2 j (by omega)).1] at hv; cases hv; exact fits_lo8 _
    · obtain ⟨j, rfl⟩ : ∃ j, i = 2 * j + 1 := ⟨i / 2, by omega⟩
      rw [(k2 j (by omega)).2] at hv; cases hv; exact fits_lo8 _
/-- the same text -/
def SameT (n : Nat) (f : Nat → Int32) (k : Nat) (g : Nat → Int32) : Prop := n = k ∧ ∀ j, j < n → f j = g j
theorem lo8_inj {x y : Int32} (h0 : ¬ x < 0) (h1 : ¬ 255 < x) (k0 : ¬ y < 0) (k1 : ¬ 255 < y) (h : lo8 x = lo8 y) : x = y := by
  rw [← lo8_mask h0 h1, ← lo8_mask k0 k1, h]
/-- arrays coded by one coder are equal just where the texts are -/
theorem Cod.eqv {cd : Int32} {n k : Nat} {f g : Nat → Int32} {V V' : Cell} (h : Cod cd n f V) (h' : Cod cd k g V') (hf : ∀ j, j < n → ¬ f j < 0 ∧ ¬ 65535 < f j) (hg : ∀ j, j < k → ¬ g j < 0 ∧ ¬ 65535 < g j) : EqC V V' ↔ SameT n f k g := by
  have yvv : ∀ {W : Cell} {i : Nat} {x : Int32}, W.slots[i]? = some (.int x) → yv W i = x := fun q => by unfold yv; rw [q]
  rcases h with ⟨rfl, k1, k2⟩ | ⟨rfl, k1, k2, -⟩
  · rcases h' with ⟨-, m1, m2⟩ | ⟨e, -⟩
    · constructor
      · rintro ⟨e1, e2⟩
        refine ⟨by omega, fun j hj => ?_⟩
        have q := e2 j (by omega)
        rw [yvv (k2 j hj).1, yvv (m2 j (by omega)).1] at q
        exact lo8_inj (hf j hj).1 (k2 j hj).2 (hg j (by omega)).1 (m2 j (by omega)).2 q
      · rintro ⟨rfl, e2⟩
        refine ⟨by omega, fun j hj => ?_⟩
        rw [yvv (k2 j (by omega)).1, yvv (m2 j (by omega)).1, e2 j (by omega)]
    · exact absurd e (by decide)
  · rcases h' with ⟨e, -⟩ | ⟨-, m1, m2, -⟩
    · exact absurd e (by decide)
    · constructor
      · rintro ⟨e1, e2⟩
        refine ⟨by omega, fun j hj => ?_⟩
        have q1 := e2 (2 * j) (by omega)
        have q2 := e2 (2 * j + 1) (by omega)
        rw [yvv (k2 j hj).1, yvv (m2 j (by omega)).1] at q1
        rw [yvv (k2 j hj).2, yvv (m2 j (by omega)).2] at q2
        rw [← pair_says (hf j hj).1 (hf j hj).2, ← pair_says (hg j (by omega)).1 (hg j (by omega)).2, q1, q2]
      · rintro ⟨rfl, e2⟩
        refine ⟨by omega, fun i hi => ?_⟩
        rcases Nat.mod_two_eq_zero_or_one i with e | e
        · obtain ⟨j, rfl⟩ : ∃ j, i = 2 * j := ⟨i / 2, by omega⟩
          rw [yvv (k2 j (by omega)).1, yvv (m2 j (by omega)).1, e2 j (by omega)]
        · obtain ⟨j, rfl⟩ : ∃ j, i = 2 * j + 1 := ⟨i / 2, by omega⟩
          rw [yvv (k2 j (by omega)).2, yvv (m2 j (by omega)).2, e2 j (by omega)]
/-- two codings differ: so do the texts -/
theorem Cod.dif {cd cd' : Int32} {n k : Nat} {f g : Nat → Int32} {V V' : Cell} (h : Cod cd n f V) (h' : Cod cd' k g V') (hne : ¬ cd = cd') : ¬ SameT n f k g := by
  rintro ⟨rfl, e⟩
  rcases h with ⟨rfl, -, k2⟩ | ⟨rfl, -, -, j, hj, hw⟩
  · rcases h' with ⟨rfl, -⟩ | ⟨-, -, -, j, hj, hw⟩
    · exact hne rfl
    · exact (k2 j hj).2 (by rw [e j hj]; exact hw)
  · rcases h' with ⟨-, -, m2⟩ | ⟨rfl, -⟩
    · exact (m2 j hj).2 (by rw [← e j hj]; exact hw)
    · exact hne rfl
/-- an object of exactly C is an instance of C -/
theorem cinst {p : Program} {l : Launch} {e : Env} {R : Room} {s : State} {m : MethodId} {args : Array Value} {below : List Frame} {meth : Method} {c : Code} {T : State} {locs : List Loc} {cells slots : Nat} (X : Stand p l e R s m args below meth c T locs cells slots) (hexec : p.tables.exec = Jvm.exec) {own C : String} {index : Nat} (hown : s.vm.findClass own = some m.cls) (hlink : (Cond.classLink own index C).before args s = true) {a : Addr} (hE : Exact C a T)
    {g : JFrame} (hg : g.method = m) {rest : List Value} (hstack : g.stack = .ref a :: rest) (hdg : decode c.code g.pc = .ok (.instanceof index, 3)) :
    ∃ T', Stand p l e R s m args below meth c T' locs cells slots ∧ T'.heap = T.heap ∧ ∀ target, Steps p.tables e below (T'.setTop { g with pc := g.pc + 3, stack := .int 1 :: rest }) target → Steps p.tables e below (T.setTop g) target := by
  obtain ⟨cB, h1, D, h2, h3, h4⟩ := hE
  have h1' : s.vm.findClass C = some cB := by rw [← X.warmed.alike.findClass]; exact h1
  obtain ⟨vm', X', st⟩ := X.instanceofYes hexec hown hlink h2 h4 h1' (by rw [h3]; exact Jvm.Free.SB.assignable_self _ _) hg hstack hdg
  exact ⟨_, X', rfl, st⟩
theorem cself {p : Program} {l : Launch} {e : Env} {R : Room} {s : State} {m : MethodId} {args : Array Value} {below : List Frame} {meth : Method} {c : Code} {T : State} {locs : List Loc} {cells slots : Nat} (X : Stand p l e R s m args below meth c T locs cells slots) (hexec : p.tables.exec = Jvm.exec) {own C : String} {index : Nat} (hown : s.vm.findClass own = some m.cls) (hlink : (Cond.classLink own index C).before args s = true) {a : Addr} (hE : Exact C a T)
    {g : JFrame} (hg : g.method = m) {rest : List Value} (hstack : g.stack = .ref a :: rest) (hdg : decode c.code g.pc = .ok (.checkcast index, 3)) :
    ∃ T', Stand p l e R s m args below meth c T' locs cells slots ∧ T'.heap = T.heap ∧ ∀ target, Steps p.tables e below (T'.setTop { g with pc := g.pc + 3, stack := .ref a :: rest }) target → Steps p.tables e below (T.setTop g) target := by
  obtain ⟨cB, h1, D, h2, h3, h4⟩ := hE
  have h1' : s.vm.findClass C = some cB := by rw [← X.warmed.alike.findClass]; exact h1
  obtain ⟨vm', X', st⟩ := X.checkcastYes hexec hown hlink h2 h4 h1' (by rw [h3]; exact Jvm.Free.SB.assignable_self _ _) hg hstack hdg
  exact ⟨_, X', rfl, fun t h => st t (by rw [← hstack] at h; exact h)⟩
namespace SEq
def yN : MethodName := ⟨"java/lang/String", "equals", "(Ljava/lang/Object;)Z"⟩
abbrev yB : ByteArray := jdk_42_method_66_code
theorem d0 : decode yB 0 = .ok (.aload_n 0, 1) := by decide +kernel
theorem d1 : decode yB 1 = .ok (.aload_n 1, 1) := by decide +kernel
theorem d2 : decode yB 2 = .ok (.if_acmp (.ne) 5, 3) := by decide +kernel
theorem d5 : decode yB 5 = .ok (.iconst 1, 1) := by decide +kernel
theorem d6 : decode yB 6 = .ok (.ireturn, 1) := by decide +kernel
theorem d7 : decode yB 7 = .ok (.aload_n 1, 1) := by decide +kernel
theorem d8 : decode yB 8 = .ok (.instanceof 10, 3) := by decide +kernel
theorem d11 : decode yB 11 = .ok (.ifCond (.eq) 43, 3) := by decide +kernel
theorem d14 : decode yB 14 = .ok (.aload_n 1, 1) := by decide +kernel
theorem d15 : decode yB 15 = .ok (.checkcast 10, 3) := by decide +kernel
theorem d18 : decode yB 18 = .ok (.astore_n 2, 1) := by decide +kernel
theorem d19 : decode yB 19 = .ok (.getstatic 38, 3) := by decide +kernel
theorem d22 : decode yB 22 = .ok (.ifCond (.eq) 14, 3) := by decide +kernel
theorem d25 : decode yB 25 = .ok (.aload_n 0, 1) := by decide +kernel
theorem d26 : decode yB 26 = .ok (.getfield 15, 3) := by decide +kernel
theorem d29 : decode yB 29 = .ok (.aload_n 2, 1) := by decide +kernel
theorem d30 : decode yB 30 = .ok (.getfield 15, 3) := by decide +kernel
theorem d33 : decode yB 33 = .ok (.if_icmp (.ne) 21, 3) := by decide +kernel
theorem d36 : decode yB 36 = .ok (.aload_n 0, 1) := by decide +kernel
theorem d37 : decode yB 37 = .ok (.getfield 9, 3) := by decide +kernel
theorem d40 : decode yB 40 = .ok (.aload_n 2, 1) := by decide +kernel
theorem d41 : decode yB 41 = .ok (.getfield 9, 3) := by decide +kernel
theorem d44 : decode yB 44 = .ok (.invokestatic 541, 3) := by decide +kernel
theorem d47 : decode yB 47 = .ok (.ifCond (.eq) 7, 3) := by decide +kernel
theorem d50 : decode yB 50 = .ok (.iconst 1, 1) := by decide +kernel
theorem d51 : decode yB 51 = .ok (.goto 4, 3) := by decide +kernel
theorem d54 : decode yB 54 = .ok (.iconst 0, 1) := by decide +kernel
theorem d55 : decode yB 55 = .ok (.ireturn, 1) := by decide +kernel
def site : List Cond := [.classLink "java/lang/String" 10 "java/lang/String", .fieldLink "java/lang/String" 38 "java/lang/String" "COMPACT_STRINGS" "Z", .fieldLink "java/lang/String" 15 "java/lang/String" "coder" "B", .fieldLink "java/lang/String" 9 "java/lang/String" "value" "[B", LEq.tab] ++ staticW "java/lang/String" 541 LEq.yN
def tab : Cond := tabOf yN yB 3 (some .boolean) site
def P (x t : Addr) (V : Cell) (cd : Int32) (n : Nat) (f : Nat → Int32) (y t' : Addr) (V' : Cell) (cd' : Int32) (k : Nat) (g : Nat → Int32) (z : Int32) (args : Array Value) (s : State) : Prop := args = #[.ref x, .ref y] ∧ Txt x t V cd n f s ∧ Txt y t' V' cd' k g s ∧ StaticIs s "java/lang/String" "COMPACT_STRINGS" "Z" (.int z) ∧ ¬ z = 0
/-- equals(Object) of two Strings: whether the texts are the same -/
theorem law (l : Launch) (x t : Addr) (V : Cell) (cd : Int32) (n : Nat) (f : Nat → Int32) (y t' : Addr) (V' : Cell) (cd' : Int32) (k : Nat) (g : Nat → Int32) (z : Int32) : Law l yN 2 1 1 14 yB 3 (some .boolean) site (P x t V cd n f y t' V' cd' k g z) (Says01 (SameT n f k g)) [] 0 0 := by
  refine Law.of_walk (plainFor_of_name (by decide +kernel)) (by decide +kernel) (by decide +kernel) (by decide) (fun _ _ h => by rw [h.1]; rfl) (fun _ U U' hal hh h => ⟨h.1, h.2.1.mv hal hh, h.2.2.1.mv hal hh, h.2.2.2.1.there hal hh, h.2.2.2.2⟩) (fun r U U' V V' h1 hal h2 h => Says01.mv r U U' V V' h1 hal h2 h) ?_
  intro p e s m args below meth c s₁ X0 hexec hbytes hml hret hlk hnm hown hh0 W hP
  obtain ⟨rfl, hx, hy, s1, hz⟩ := hP
  have c1 : Steps p.tables e below (s₁.setTop (entryFrame m #[.ref x, .ref y] 3)) (s₁.setTop (mkF m 2 #[.val (.ref x), .val (.ref y), .unset] [.ref y, .ref x])) := Steps.trans (entry rfl) (by
    show Steps p.tables e below (s₁.setTop (mkF m 0 #[.val (.ref x), .val (.ref y), .unset] [])) _
    refine XS.aloadN X0.here hexec rfl (hb hbytes d0) rfl rfl ?_
    refine XS.aloadN X0.here hexec rfl (hb hbytes d1) rfl rfl ?_
    exact Steps.refl _)
  by_cases hxy : x = y
  · have c2 : Steps p.tables e below (s₁.setTop (entryFrame m #[.ref x, .ref y] 3)) (s₁.setTop (mkF m 6 #[.val (.ref x), .val (.ref y), .unset] [.int 1])) := c1.trans (by
      refine acmpNo X0.here hexec rfl (hb hbytes d2) rfl rfl rfl (by simp [acmp, hxy]) ?_
      refine iconstV X0.here hexec rfl 1 (hb hbytes d5) (by decide) ?_
      exact Steps.refl _)
    subst hxy
    have ec : cd = cd' := by
      obtain ⟨D, fd, a1, a2, a3⟩ := hx.2.2.1
      obtain ⟨D', fd', b1, b2, b3⟩ := hy.2.2.1
      cases a1.symm.trans b1
      obtain ⟨q1, q2, q3, q4⟩ := a2.1
      obtain ⟨r1, r2, r3, r4⟩ := b2.1
      cases q4.symm.trans r4
      cases a3.symm.trans b3; rfl
    have et : t = t' := by
      obtain ⟨D, fd, a1, a2, a3⟩ := hx.2.1
      obtain ⟨D', fd', b1, b2, b3⟩ := hy.2.1
      cases a1.symm.trans b1
      obtain ⟨q1, q2, q3, q4⟩ := a2.1
      obtain ⟨r1, r2, r3, r4⟩ := b2.1
      cases q4.symm.trans r4
      cases a3.symm.trans b3; rfl
    subst ec et
    have ev : V = V' := by cases hx.2.2.2.1.1.symm.trans hy.2.2.2.1.1; rfl
    subst ev
    have hs : SameT n f k g := (Cod.eqv hx.2.2.2.2.1 hy.2.2.2.2.1 hx.2.2.2.2.2 hy.2.2.2.2.2).mp ⟨rfl, fun _ _ => rfl⟩
    exact ⟨s₁, some (.int 1), _, _, _, X0, rfl, rfl, rfl, (fun h => by cases h), ⟨1, rfl, hh0, Or.inl ⟨rfl, hs⟩⟩, fun fs hl => c2.trans (X0.ireturnOut hexec hret rfl (Or.inr (Or.inl rfl)) (hb hbytes d6) hl)⟩
  · have c2 : Steps p.tables e below (s₁.setTop (entryFrame m #[.ref x, .ref y] 3)) (s₁.setTop (mkF m 8 #[.val (.ref x), .val (.ref y), .unset] [.ref y])) := c1.trans (by
      refine acmpYes X0.here hexec rfl (pc0 := 2) rfl (hb hbytes d2) rfl rfl rfl (by simp [acmp, hxy]) (by decide) rfl ?_
      refine XS.aloadN X0.here hexec rfl (hb hbytes d7) rfl rfl ?_
      exact Steps.refl _)
    obtain ⟨T3, X3, q3, st3⟩ := cinst X0 hexec hown (wk W (.classLink "java/lang/String" 10 "java/lang/String")) (hy.mv X0.warmed.alike hh0).1 (g := (mkF m 8 #[.val (.ref x), .val (.ref y), .unset] [.ref y])) rfl (rest := []) rfl (hb hbytes d8)
    have hh3 := q3.trans hh0
    have c4 : Steps p.tables e below (s₁.setTop (entryFrame m #[.ref x, .ref y] 3)) (T3.setTop (mkF m 15 #[.val (.ref x), .val (.ref y), .unset] [.ref y])) := (c2.trans (st3 _ (Steps.refl _))).trans (by
      refine XS.ifNo X3.here hexec rfl (hb hbytes d11) rfl (i0_eq_f (by decide)) ?_
      refine XS.aloadN X3.here hexec rfl (hb hbytes d14) rfl rfl ?_
      exact Steps.refl _)
    obtain ⟨T5, X5, q5, st5⟩ := cself X3 hexec hown (wk W (.classLink "java/lang/String" 10 "java/lang/String")) (hy.mv X3.warmed.alike hh3).1 (g := (mkF m 15 #[.val (.ref x), .val (.ref y), .unset] [.ref y])) rfl (rest := []) rfl (hb hbytes d15)
    have hh5 := q5.trans hh3
    have c6 : Steps p.tables e below (s₁.setTop (entryFrame m #[.ref x, .ref y] 3)) (T5.setTop (mkF m 19 #[.val (.ref x), .val (.ref y), .val (.ref y)] [])) := (c4.trans (st5 _ (Steps.refl _))).trans (by
      refine XS.astoreN X5.here hexec rfl (hb hbytes d18) rfl rfl rfl ?_
      exact Steps.refl _)
    obtain ⟨T7, X7, q7, st7⟩ := X5.sget hexec hown (wk W (.fieldLink "java/lang/String" 38 "java/lang/String" "COMPACT_STRINGS" "Z")) s1 (fun _ _ h => by rw [hh5]; exact h) (g := (mkF m 19 #[.val (.ref x), .val (.ref y), .val (.ref y)] [])) rfl (hb hbytes d19)
    have hh7 := q7.trans hh5
    have c8 : Steps p.tables e below (s₁.setTop (entryFrame m #[.ref x, .ref y] 3)) (T7.setTop (mkF m 26 #[.val (.ref x), .val (.ref y), .val (.ref y)] [.ref x])) := (c6.trans (st7 _ (Steps.refl _))).trans (by
      refine XS.ifNo X7.here hexec rfl (hb hbytes d22) rfl (i0_eq_f hz) ?_
      refine XS.aloadN X7.here hexec rfl (hb hbytes d25) rfl rfl ?_
      exact Steps.refl _)
    obtain ⟨T9, X9, q9, st9⟩ := X7.hget hexec hown (wk W (.fieldLink "java/lang/String" 15 "java/lang/String" "coder" "B")) (hx.mv X7.warmed.alike hh7).2.2.1 (g := (mkF m 26 #[.val (.ref x), .val (.ref y), .val (.ref y)] [.ref x])) rfl (rest := []) rfl (hb hbytes d26)
    have hh9 := q9.trans hh7
    have c10 : Steps p.tables e below (s₁.setTop (entryFrame m #[.ref x, .ref y] 3)) (T9.setTop (mkF m 30 #[.val (.ref x), .val (.ref y), .val (.ref y)] [.ref y, .int cd])) := (c8.trans (st9 _ (Steps.refl _))).trans (by
      refine XS.aloadN X9.here hexec rfl (hb hbytes d29) rfl rfl ?_
      exact Steps.refl _)
    obtain ⟨T11, X11, q11, st11⟩ := X9.hget hexec hown (wk W (.fieldLink "java/lang/String" 15 "java/lang/String" "coder" "B")) (hy.mv X9.warmed.alike hh9).2.2.1 (g := (mkF m 30 #[.val (.ref x), .val (.ref y), .val (.ref y)] [.ref y, .int cd])) rfl (rest := [.int cd]) rfl (hb hbytes d30)
    have hh11 := q11.trans hh9
    have c12 : Steps p.tables e below (s₁.setTop (entryFrame m #[.ref x, .ref y] 3)) (T11.setTop (mkF m 33 #[.val (.ref x), .val (.ref y), .val (.ref y)] [.int cd', .int cd])) := c10.trans (st11 _ (Steps.refl _))
    by_cases hcd : cd = cd'
    · subst hcd
      have c13 : Steps p.tables e below (s₁.setTop (entryFrame m #[.ref x, .ref y] 3)) (T11.setTop (mkF m 37 #[.val (.ref x), .val (.ref y), .val (.ref y)] [.ref x])) := c12.trans (by
        refine XS.icmpNo X11.here hexec rfl (hb hbytes d33) rfl (ii_ne_f rfl) ?_
        refine XS.aloadN X11.here hexec rfl (hb hbytes d36) rfl rfl ?_
        exact Steps.refl _)
      obtain ⟨T14, X14, q14, st14⟩ := X11.hget hexec hown (wk W (.fieldLink "java/lang/String" 9 "java/lang/String" "value" "[B")) (hx.mv X11.warmed.alike hh11).2.1 (g := (mkF m 37 #[.val (.ref x), .val (.ref y), .val (.ref y)] [.ref x])) rfl (rest := []) rfl (hb hbytes d37)
      have hh14 := q14.trans hh11
      have c15 : Steps p.tables e below (s₁.setTop (entryFrame m #[.ref x, .ref y] 3)) (T14.setTop (mkF m 41 #[.val (.ref x), .val (.ref y), .val (.ref y)] [.ref y, .ref t])) := (c13.trans (st14 _ (Steps.refl _))).trans (by
        refine XS.aloadN X14.here hexec rfl (hb hbytes d40) rfl rfl ?_
        exact Steps.refl _)
      obtain ⟨T16, X16, q16, st16⟩ := X14.hget hexec hown (wk W (.fieldLink "java/lang/String" 9 "java/lang/String" "value" "[B")) (hy.mv X14.warmed.alike hh14).2.1 (g := (mkF m 41 #[.val (.ref x), .val (.ref y), .val (.ref y)] [.ref y, .ref t])) rfl (rest := [.ref t]) rfl (hb hbytes d41)
      have hh16 := q16.trans hh14
      have c17 : Steps p.tables e below (s₁.setTop (entryFrame m #[.ref x, .ref y] 3)) (T16.setTop (mkF m 44 #[.val (.ref x), .val (.ref y), .val (.ref y)] [.ref t', .ref t])) := c15.trans (st16 _ (Steps.refl _))
      obtain ⟨v18, T18, X18, E18, g18⟩ := X16.callS hexec (LEq.law l t V t' V') hown (wks W (staticW "java/lang/String" 541 LEq.yN)) (wk W LEq.tab) (W := 0) (Nat.le_of_ble_eq_true rfl) (Nat.le_of_ble_eq_true rfl) (Nat.le_refl _) (Nat.le_refl _) (g := (mkF m 44 #[.val (.ref x), .val (.ref y), .val (.ref y)] [.ref t', .ref t])) rfl (by rw [hml]; rfl) c17 (argsL := [.ref t, .ref t']) (rest := []) rfl rfl (by show 2 * 0 + 0 ≤ _; decide) (hb hbytes d44) (⟨rfl, hx.2.2.2.1.mv X16.warmed.alike hh16, hx.2.2.2.2.1.ty, hy.2.2.2.1.mv X16.warmed.alike hh16, hy.2.2.2.2.1.ty⟩)
      obtain ⟨v, rfl, q18, hv⟩ := E18
      have iff := Cod.eqv hx.2.2.2.2.1 hy.2.2.2.2.1 hx.2.2.2.2.2 hy.2.2.2.2.2
      rcases hv with ⟨rfl, he⟩ | ⟨rfl, he⟩
      · have c19 : Steps p.tables e below (s₁.setTop (entryFrame m #[.ref x, .ref y] 3)) (T18.setTop (mkF m 55 #[.val (.ref x), .val (.ref y), .val (.ref y)] [.int 1])) := Steps.trans g18 (by
          refine XS.ifNo X18.here hexec rfl (hb hbytes d47) rfl (i0_eq_f (by decide)) ?_
          refine iconstV X18.here hexec rfl 1 (hb hbytes d50) (by decide) ?_
          refine XS.goto X18.here hexec rfl (pc0 := 51) rfl (hb hbytes d51) (by decide) rfl ?_
          exact Steps.refl _)
        exact ⟨T18, some (.int 1), _, _, _, X18, rfl, rfl, rfl, (fun h => by cases h), ⟨1, rfl, q18.trans hh16, Or.inl ⟨rfl, iff.mp he⟩⟩, fun fs hl => c19.trans (X18.ireturnOut hexec hret rfl (Or.inr (Or.inl rfl)) (hb hbytes d55) hl)⟩
      · have c19 : Steps p.tables e below (s₁.setTop (entryFrame m #[.ref x, .ref y] 3)) (T18.setTop (mkF m 55 #[.val (.ref x), .val (.ref y), .val (.ref y)] [.int 0])) := Steps.trans g18 (by
          refine XS.ifYes X18.here hexec rfl (pc0 := 47) rfl (hb hbytes d47) rfl (i0_eq_t rfl) (by decide) rfl ?_
          refine iconstV X18.here hexec rfl 0 (hb hbytes d54) (by decide) ?_
          exact Steps.refl _)
        exact ⟨T18, some (.int 0), _, _, _, X18, rfl, rfl, rfl, (fun h => by cases h), ⟨0, rfl, q18.trans hh16, Or.inr ⟨rfl, fun q => he (iff.mpr q)⟩⟩, fun fs hl => c19.trans (X18.ireturnOut hexec hret rfl (Or.inr (Or.inl rfl)) (hb hbytes d55) hl)⟩
    · have c13 : Steps p.tables e below (s₁.setTop (entryFrame m #[.ref x, .ref y] 3)) (T11.setTop (mkF m 55 #[.val (.ref x), .val (.ref y), .val (.ref y)] [.int 0])) := c12.trans (by
        refine XS.icmpYes X11.here hexec rfl (pc0 := 33) rfl (hb hbytes d33) rfl (ii_ne_t hcd) (by decide) rfl ?_
        refine iconstV X11.here hexec rfl 0 (hb hbytes d54) (by decide) ?_
        exact Steps.refl _)
      exact ⟨T11, some (.int 0), _, _, _, X11, rfl, rfl, rfl, (fun h => by cases h), ⟨0, rfl, hh11, Or.inr ⟨rfl, Cod.dif hx.2.2.2.2.1 hy.2.2.2.2.1 hcd⟩⟩, fun fs hl => c13.trans (X11.ireturnOut hexec hret rfl (Or.inr (Or.inl rfl)) (hb hbytes d55) hl)⟩
theorem pays {l : Launch} {R : Room} {p : Program} {e : Env} {below : List Frame} {s : State} {sargs : Array Value} {len W : Nat} (x t : Addr) (V : Cell) (cd : Int32) (n : Nat) (f : Nat → Int32) (y t' : Addr) (V' : Cell) (cd' : Int32) (k : Nat) (g : Nat → Int32) (z : Int32) (htab : tab.before sargs s = true) (hfr : 2 ≤ R.frames) (hlo : W + 28 ≤ R.locals) :
    Back l R p e below s sargs yN len W (fun A₁ a₁ => A₁.cells + 0 ≤ R.cells ∧ A₁.slots + 0 ≤ R.slots ∧ P x t V cd n f y t' V' cd' k g z a₁ A₁.U) (fun A₁ _ v₁ B₁ => Says01 (SameT n f k g) v₁ A₁.U B₁.U ∧ B₁.locs = A₁.locs ++ [] ∧ B₁.cells = A₁.cells + 0 ∧ B₁.slots = A₁.slots + 0) :=
  (law l x t V cd n f y t' V' cd' k g z).pays htab hfr (by omega)
end SEq
end StrChars
namespace StrChars.Road
open Jvm Sem ClassFile Op Lib Jvm.Stand Jvm.Free Jvm.Free.XT
open Jvm.Lib.Cold (StaticIs)
/-- the words of String.equals(Object) -/
abbrev wordsEq : List Jvm.Cond := [.code SEq.yN SEq.yB 3 (some .boolean), .initialized ST, .classLink ST 10 ST, .fieldLink ST 38 ST "COMPACT_STRINGS" "Z", .fieldLink ST 15 ST "coder" "B", .fieldLink ST 9 ST "value" "[B", .methodLink ST 541 LEq.yN, .static LEq.yN, .code LEq.yN LEq.yB 3 (some .boolean), .initialized "java/lang/StringLatin1"]
theorem tabEq_of {a : Array Value} {s : State} (h : ∀ w ∈ wordsEq, w.before a s = true) : SEq.tab.before a s = true := by
  have hl : LEq.tab.before a s = true := unparts (wk h (.code LEq.yN LEq.yB 3 (some .boolean))) (wks h (.initialized LEq.yN.cls :: LEq.site))
  have q := consq hl h
  exact unparts (wk q (.code SEq.yN SEq.yB 3 (some .boolean))) (wks q (.initialized SEq.yN.cls :: SEq.site))
theorem movedEq {Z s : State} {a0 args : Array Value} (hZ : Z.Warmed39 s.vm) (hw : ∀ d ∈ wordsEq, d.before a0 Z = true) : ∀ d ∈ wordsEq, d.before args s = true := fun d hd => by
  have t : ∀ d ∈ wordsEq, (d.onTables && d.keepsFace) = true := by decide +kernel
  exact RoadKit.mv hZ (hw d hd) (t d hd)
/-- the road's facts of a String, as the laws ask it -/
theorem txt_of {Z U : State} {a0 : Array Value} {kI : Nat} (wi : (Jvm.Cond.instantiable ST kI).before a0 Z = true) (al : Z.vm.Alike U.vm) {x t : Addr} {kb : ClassId} {cs : List Int32} {cd N2 : Int32} {vs : List Value} (E : RoadKit.Exa Z U.heap x ST) (V : RoadKit.Fld Z U.heap x ST "value" "[B" (.ref t)) (C : RoadKit.Fld Z U.heap x ST "coder" "B" (.int cd)) (K : RoadKit.Arv Z U.heap t kb .byte N2 vs (.int 0)) (hc : CodA cs cd N2 vs) (hb : ∀ c ∈ cs, ¬ c < 0 ∧ ¬ (65535 : Int32) < c) (l2 : cs.length ≤ 4000) :
    ∃ A, Txt x t A cd cs.length (fun j => cs.getD j 0) U := by
  obtain ⟨A, K1, K2, K3, K4, K5, K6⟩ := K
  have hcod := hc.cod (by omega) K3 K5
  obtain ⟨D, fV, fC, hB, F1, F2, g1, g2, -, -⟩ := strObj wi al E V C
  exact ⟨A, ⟨_, hB.2.2.1, D, hB.1, rfl, by cases q : D.vm <;> first | rfl | exact absurd q (hB.2.1.2 _)⟩, Has.of hB F1 g1, Has.of hB F2 g2, ⟨K1.1, State.isArrayOf_alike al K1.2.1, K1.2.2, by rcases hcod with ⟨-, q, -⟩ | ⟨-, q, -⟩ <;> omega⟩, hcod, fun j hj => by
    have e : cs.getD j 0 = cs[j] := by simp [List.getD_eq_getElem?_getD, hj]
    show ¬ cs.getD j 0 < 0 ∧ ¬ 65535 < cs.getD j 0
    rw [e]; exact hb _ (List.getElem_mem _)⟩
theorem same_list (cs ds : List Int32) : SameT cs.length (fun j => cs.getD j 0) ds.length (fun j => ds.getD j 0) ↔ cs = ds := by
  constructor
  · rintro ⟨e, q⟩
    refine List.ext_getElem e fun j h1 h2 => ?_
    have := q j h1
    simpa [List.getD_eq_getElem?_getD, h1, h2] using this
  · rintro rfl
    exact ⟨rfl, fun _ _ => rfl⟩
/-- **equals(Object) OF TWO SUCH STRINGS**: 1 just where the chars are the same -/
theorem eqW {p : Program} {l : Launch} {e : Env} {R : Room} {s : State} {args : Array Value} {below : List Frame} {len W : Nat} {Z : State} {a0 : Array Value} {h : Heap} (hZ : Z.Warmed39 s.vm) (hw : ∀ d ∈ wordsEq, d.before a0 Z = true) {kI : Nat} (wi : (Jvm.Cond.instantiable ST kI).before a0 Z = true)
    {x t : Addr} {kb : ClassId} {cs : List Int32} {cd N2 : Int32} {vs : List Value} (E : RoadKit.Exa Z h x ST) (V : RoadKit.Fld Z h x ST "value" "[B" (.ref t)) (C : RoadKit.Fld Z h x ST "coder" "B" (.int cd)) (K : RoadKit.Arv Z h t kb .byte N2 vs (.int 0)) (hc : CodA cs cd N2 vs) (hb : ∀ c ∈ cs, ¬ c < 0 ∧ ¬ (65535 : Int32) < c) (l2 : cs.length ≤ 4000)
    {y t' : Addr} {kb' : ClassId} {ds : List Int32} {cd' N2' : Int32} {vs' : List Value} (E' : RoadKit.Exa Z h y ST) (V' : RoadKit.Fld Z h y ST "value" "[B" (.ref t')) (C' : RoadKit.Fld Z h y ST "coder" "B" (.int cd')) (K' : RoadKit.Arv Z h t' kb' .byte N2' vs' (.int 0)) (hc' : CodA ds cd' N2' vs') (hb' : ∀ c ∈ ds, ¬ c < 0 ∧ ¬ (65535 : Int32) < c) (l2' : ds.length ≤ 4000)
    {z : Int32} (S : RoadKit.Sta Z h ST "COMPACT_STRINGS" "Z" (.int z)) (hz : ¬ z = 0) (hfr : 2 ≤ R.frames) (hlo : W + 28 ≤ R.locals) :
    Back l R p e below s args (⟨"java/lang/String", "equals", "(Ljava/lang/Object;)Z"⟩ : MethodName) len W (fun P a => a = #[.ref x, .ref y] ∧ P.U.heap = h ∧ P.cells + 0 ≤ R.cells ∧ P.slots + 0 ≤ R.slots)
      (fun P _ v B => ∃ L, (((v = some (.int 1) ∧ cs = ds) ∨ (v = some (.int 0) ∧ ¬ cs = ds)) ∧ L = [] ∧ B.U.heap = h) ∧ B.locs = P.locs ++ L ∧ B.cells = P.cells + 0 ∧ B.slots = P.slots + 0) := by
  intro m meth c P g ig mk a X hg hsize hdg hW hn hp'
  obtain ⟨rfl, rfl, r1, r2⟩ := hp'
  have al : Z.vm.Alike P.U.vm := hZ.alike.trans X.warmed.alike
  obtain ⟨A, hx⟩ := txt_of wi al E V C K hc hb l2
  obtain ⟨A', hy⟩ := txt_of wi al E' V' C' K' hc' hb' l2'
  obtain ⟨v, B, X', ⟨⟨w, hv, hh, hq⟩, hl, hk, hs⟩, st⟩ := SEq.pays x t A cd cs.length (fun j => cs.getD j 0) y t' A' cd' ds.length (fun j => ds.getD j 0) z (tabEq_of (movedEq hZ hw)) hfr hlo m meth c P g ig mk _ X hg hsize hdg hW hn ⟨r1, r2, rfl, hx, hy, sta_is al S, hz⟩
  refine ⟨v, B, X', ⟨[], ⟨?_, rfl, hh⟩, hl, hk, hs⟩, st⟩
  rcases hq with ⟨rfl, q⟩ | ⟨rfl, q⟩
  · exact Or.inl ⟨hv, (same_list cs ds).mp q⟩
  · exact Or.inr ⟨hv, fun e => q ((same_list cs ds).mpr e)⟩
end StrChars.Road
namespace StrChars
open Jvm Sem ClassFile Op Lib Jvm.Stand Jvm.Free.XT Jvm.Free.ALB Jvm.Free.JM Jvm.Free
open Jvm.Lib.Cold (StaticIs)
namespace ChN
def yN : MethodName := ⟨"java/lang/String", "charAt", "(I)C"⟩
abbrev yB : ByteArray := jdk_42_method_56_code
theorem d0 : decode yB 0 = .ok (.aload_n 0, 1) := by decide +kernel
theorem d1 : decode yB 1 = .ok (.invokevirtual 492, 3) := by decide +kernel
theorem d4 : decode yB 4 = .ok (.ifCond (.eq) 12, 3) := by decide +kernel
theorem d7 : decode yB 7 = .ok (.aload_n 0, 1) := by decide +kernel
theorem d8 : decode yB 8 = .ok (.getfield 9, 3) := by decide +kernel
theorem d11 : decode yB 11 = .ok (.iload_n 1, 1) := by decide +kernel
theorem d12 : decode yB 12 = .ok (.invokestatic 495, 3) := by decide +kernel
theorem d15 : decode yB 15 = .ok (.ireturn, 1) := by decide +kernel
def site : List Cond := [.fieldLink "java/lang/String" 9 "java/lang/String" "value" "[B", IsL.tab, LChA.tab] ++ virtW "java/lang/String" 492 "java/lang/String" IsL.yN IsL.yN ++ staticW "java/lang/String" 495 LChA.yN
def tab : Cond := tabOf yN yB 2 (some .char) site
def P (x t : Addr) (V : Cell) (n : Nat) (f : Nat → Int32) (z : Int32) (fm : Value) (i : Nat) (args : Array Value) (s : State) : Prop := args = #[.ref x, .int (Int32.ofNat i)] ∧ Txt x t V 0 n f s ∧ i < n ∧ StaticIs s "java/lang/String" "COMPACT_STRINGS" "Z" (.int z) ∧ ¬ z = 0 ∧ StaticIs s "jdk/internal/util/Preconditions" "SIOOBE_FORMATTER" "Ljava/util/function/BiFunction;" fm ∧ fm.isRef = true
def E (f : Nat → Int32) (i : Nat) (r : Option Value) (s u : State) : Prop := XT.PureE (some (.int (f i))) r s u
/-- charAt(i) of a Latin-1 String of n chars, i < n: f i -/
theorem law (l : Launch) (x t : Addr) (V : Cell) (n : Nat) (f : Nat → Int32) (z : Int32) (fm : Value) (i : Nat) : Law l yN 2 1 3 40 yB 2 (some .char) site (P x t V n f z fm i) (E f i) [] 0 0 := by
  refine Law.of_walk (plainFor_of_name (by decide +kernel)) (by decide +kernel) (by decide +kernel) (by decide) (fun _ _ h => by rw [h.1]; rfl) (fun _ U U' hal hh h => ⟨h.1, h.2.1.mv hal hh, h.2.2.1, h.2.2.2.1.there hal hh, h.2.2.2.2.1, h.2.2.2.2.2.1.there hal hh, h.2.2.2.2.2.2⟩) (fun r U U' V V' h1 hal h2 h => XT.PureE.mv r U U' V V' h1 hal h2 h) ?_
  intro p e s m args below meth c s₁ X0 hexec hbytes hml hret hlk hnm hown hh0 W hP
  obtain ⟨rfl, hx, hi, s1, hz, s3, rf⟩ := hP
  have v31 := hx.2.2.2.1.2.2.2
  have hr := hx.2.2.2.2.2 i hi
  have hx0 := hx.mv X0.warmed.alike hh0
  have c1 : Steps p.tables e below (s₁.setTop (entryFrame m #[.ref x, .int (Int32.ofNat i)] 2)) (s₁.setTop (mkF m 1 #[.val (.ref x), .val (.int (Int32.ofNat i))] [.ref x])) := Steps.trans (entry rfl) (by
    show Steps p.tables e below (s₁.setTop (mkF m 0 #[.val (.ref x), .val (.int (Int32.ofNat i))] [])) _
    refine XS.aloadN X0.here hexec rfl (hb hbytes d0) rfl rfl ?_
    exact Steps.refl _)
  obtain ⟨v2, T2, X2, E2, g2⟩ := X0.callV hexec (IsL.law l x 0 z) hown (wks W (virtW "java/lang/String" 492 "java/lang/String" IsL.yN IsL.yN)) rfl (by decide) (wk W IsL.tab) (W := 0) (Nat.le_of_ble_eq_true rfl) (Nat.le_of_ble_eq_true rfl) (Nat.le_refl _) (Nat.le_refl _) (hx0.1.fc X0.warmed.alike) hx0.1.is (g := (mkF m 1 #[.val (.ref x), .val (.int (Int32.ofNat i))] [.ref x])) rfl (by rw [hml]; rfl) c1 (argsL := []) (rest := []) rfl rfl (by show 2 * 0 + 0 ≤ _; decide) (hb hbytes d1) (⟨rfl, hx0.2.2.1, hx.2.2.2.2.1.cd, s1.there X0.warmed.alike hh0, hz⟩)
  obtain ⟨rfl, q2⟩ := E2
  have hh2 := q2.trans hh0
  have hx2 := hx.mv X2.warmed.alike hh2
  obtain ⟨-, k1, k2⟩ | ⟨k0, -⟩ := hx.2.2.2.2.1
  · have c3 : Steps p.tables e below (s₁.setTop (entryFrame m #[.ref x, .int (Int32.ofNat i)] 2)) (T2.setTop (mkF m 8 #[.val (.ref x), .val (.int (Int32.ofNat i))] [.ref x])) := Steps.trans g2 (by
      refine XS.ifNo X2.here hexec rfl (hb hbytes d4) rfl (i0_eq_f (by decide)) ?_
      refine XS.aloadN X2.here hexec rfl (hb hbytes d7) rfl rfl ?_
      exact Steps.refl _)
    obtain ⟨T4, X4, q4, st4⟩ := X2.hget hexec hown (wk W (.fieldLink "java/lang/String" 9 "java/lang/String" "value" "[B")) hx2.2.1 (g := (mkF m 8 #[.val (.ref x), .val (.int (Int32.ofNat i))] [.ref x])) rfl (rest := []) rfl (hb hbytes d8)
    have hh4 := q4.trans hh2
    have c5 : Steps p.tables e below (s₁.setTop (entryFrame m #[.ref x, .int (Int32.ofNat i)] 2)) (T4.setTop (mkF m 12 #[.val (.ref x), .val (.int (Int32.ofNat i))] [.int (Int32.ofNat i), .ref t])) := (c3.trans (st4 _ (Steps.refl _))).trans (by
      refine XS.iloadN X4.here hexec rfl (hb hbytes d11) rfl ?_
      exact Steps.refl _)
    obtain ⟨v6, T6, X6, E6, g6⟩ := X4.callS hexec (LChA.law l t V i (lo8 (f i)) fm) hown (wks W (staticW "java/lang/String" 495 LChA.yN)) (wk W LChA.tab) (W := 0) (Nat.le_of_ble_eq_true rfl) (Nat.le_of_ble_eq_true rfl) (Nat.le_refl _) (Nat.le_refl _) (g := (mkF m 12 #[.val (.ref x), .val (.int (Int32.ofNat i))] [.int (Int32.ofNat i), .ref t])) rfl (by rw [hml]; rfl) c5 (argsL := [.ref t, .int (Int32.ofNat i)]) (rest := []) rfl rfl (by show 2 * 0 + 0 ≤ _; decide) (hb hbytes d12) (⟨rfl, hx.2.2.2.1.mv X4.warmed.alike hh4, (k2 i hi).1, s3.there X4.warmed.alike hh4, rf⟩)
    obtain ⟨rfl, q6⟩ := E6
    rw [chr8_lo8 hr.1 (k2 i hi).2] at g6
    exact ⟨T6, some (.int (f i)), _, _, _, X6, rfl, rfl, rfl, (fun h => by cases h), ⟨rfl, q6.trans hh4⟩, fun fs hl => Steps.trans g6 (X6.ireturnOut hexec hret (narrow_ch hr.1 hr.2) (Or.inr (Or.inr (Or.inr (Or.inl rfl)))) (hb hbytes d15) hl)⟩
  · exact absurd k0 (by decide)
theorem pays {l : Launch} {R : Room} {p : Program} {e : Env} {below : List Frame} {s : State} {sargs : Array Value} {len W : Nat} (x t : Addr) (V : Cell) (n : Nat) (f : Nat → Int32) (z : Int32) (fm : Value) (i : Nat) (htab : tab.before sargs s = true) (hfr : 4 ≤ R.frames) (hlo : W + 53 ≤ R.locals) :
    Back l R p e below s sargs yN len W (fun A₁ a₁ => A₁.cells + 0 ≤ R.cells ∧ A₁.slots + 0 ≤ R.slots ∧ P x t V n f z fm i a₁ A₁.U) (fun A₁ _ v₁ B₁ => E f i v₁ A₁.U B₁.U ∧ B₁.locs = A₁.locs ++ [] ∧ B₁.cells = A₁.cells + 0 ∧ B₁.slots = A₁.slots + 0) :=
  (law l x t V n f z fm i).pays htab hfr (by omega)
end ChN
end StrChars
namespace StrChars.Road
open Jvm Sem ClassFile Op Lib Jvm.Stand Jvm.Free Jvm.Free.XT
open Jvm.Lib.Cold (StaticIs)
/-- the words of String.charAt(int), the Latin-1 road alone -/
abbrev wordsChN : List Jvm.Cond := [.code ChN.yN ChN.yB 2 (some .char), .initialized ST, .fieldLink ST 9 ST "value" "[B", .fieldLink ST 38 ST "COMPACT_STRINGS" "Z", .fieldLink ST 15 ST "coder" "B", .code IsL.yN IsL.yB 1 (some .boolean), .methodLink ST 492 IsL.yN, .declares IsL.yN, .selects ST IsL.yN IsL.yN, .instanceMethod IsL.yN,
  .methodLink ST 495 LChA.yN, .static LChA.yN, .code LChA.yN LChA.yB 2 (some .char), .initialized "java/lang/StringLatin1", .methodLink "java/lang/StringLatin1" 9 JO.Str_checkIndex.yN, .static JO.Str_checkIndex.yN, .code JO.Str_checkIndex.yN JO.Str_checkIndex.yB 2 none,
  .fieldLink ST 1053 "jdk/internal/util/Preconditions" "SIOOBE_FORMATTER" "Ljava/util/function/BiFunction;", .methodLink ST 1059 JC.PreCheck.yN, .static JC.PreCheck.yN, .code JC.PreCheck.yN JC.PreCheck.yB 3 (some .int), .initialized "jdk/internal/util/Preconditions"]
theorem tabChN_of {a : Array Value} {s : State} (h : ∀ w ∈ wordsChN, w.before a s = true) : ChN.tab.before a s = true := by
  have hp : JC.PreCheck.tab.before a s = true := unparts (wk h (.code JC.PreCheck.yN JC.PreCheck.yB 3 (some .int))) (wks h (.initialized JC.PreCheck.yN.cls :: JC.PreCheck.site))
  have qk := consq hp h
  have hk : JO.Str_checkIndex.tab.before a s = true := unparts (wk qk (.code JO.Str_checkIndex.yN JO.Str_checkIndex.yB 2 none)) (wks qk (.initialized JO.Str_checkIndex.yN.cls :: JO.Str_checkIndex.site))
  have ql := consq hk h
  have hl : LChA.tab.before a s = true := unparts (wk ql (.code LChA.yN LChA.yB 2 (some .char))) (wks ql (.initialized LChA.yN.cls :: LChA.site))
  have hi : IsL.tab.before a s = true := unparts (wk h (.code IsL.yN IsL.yB 1 (some .boolean))) (wks h (.initialized IsL.yN.cls :: IsL.site))
  have q := consq hi (consq hl h)
  exact unparts (wk q (.code ChN.yN ChN.yB 2 (some .char))) (wks q (.initialized ChN.yN.cls :: ChN.site))
theorem movedChN {Z s : State} {a0 args : Array Value} (hZ : Z.Warmed39 s.vm) (hw : ∀ d ∈ wordsChN, d.before a0 Z = true) : ∀ d ∈ wordsChN, d.before args s = true := fun d hd => by
  have t : ∀ d ∈ wordsChN, (d.onTables && d.keepsFace) = true := by decide +kernel
  exact RoadKit.mv hZ (hw d hd) (t d hd)
/-- **charAt(i) OF A LATIN-1 STRING**, i < n: the char -/
theorem chN {p : Program} {l : Launch} {e : Env} {R : Room} {s : State} {args : Array Value} {below : List Frame} {len W : Nat} {Z : State} {a0 : Array Value} {h : Heap} (hZ : Z.Warmed39 s.vm) (hw : ∀ d ∈ wordsChN, d.before a0 Z = true) {kI : Nat} (wi : (Jvm.Cond.instantiable ST kI).before a0 Z = true)
    {x t : Addr} {kb : ClassId} {cs : List Int32} {N2 z : Int32} {vs : List Value} {fm : Value} {i : Nat} {j : Int32} (E : RoadKit.Exa Z h x ST) (V : RoadKit.Fld Z h x ST "value" "[B" (.ref t)) (C : RoadKit.Fld Z h x ST "coder" "B" (.int 0)) (K : RoadKit.Arv Z h t kb .byte N2 vs (.int 0)) (hc : CodA cs 0 N2 vs) (hb : ∀ c ∈ cs, ¬ c < 0 ∧ ¬ (65535 : Int32) < c)
    (S : RoadKit.Sta Z h ST "COMPACT_STRINGS" "Z" (.int z)) (hz : ¬ z = 0) (F : RoadKit.Sta Z h "jdk/internal/util/Preconditions" "SIOOBE_FORMATTER" "Ljava/util/function/BiFunction;" fm) (rf : fm.isRef = true) (l2 : cs.length ≤ 4000) (hi : i < cs.length) (hj : j = Int32.ofNat i) (hfr : 4 ≤ R.frames) (hlo : W + 53 ≤ R.locals) :
    Back l R p e below s args (⟨"java/lang/String", "charAt", "(I)C"⟩ : MethodName) len W (fun P a => a = #[.ref x, .int j] ∧ P.U.heap = h ∧ P.cells + 0 ≤ R.cells ∧ P.slots + 0 ≤ R.slots)
      (fun P _ v B => ∃ L, (v = some (.int (cs.getD i 0)) ∧ L = [] ∧ B.U.heap = h) ∧ B.locs = P.locs ++ L ∧ B.cells = P.cells + 0 ∧ B.slots = P.slots + 0) := by
  subst hj
  intro m meth c P g ig mk a X hg hsize hdg hW hn hp'
  obtain ⟨rfl, rfl, r1, r2⟩ := hp'
  have al : Z.vm.Alike P.U.vm := hZ.alike.trans X.warmed.alike
  obtain ⟨A, hx⟩ := txt_of wi al E V C K hc hb l2
  obtain ⟨v, B, X', ⟨⟨hv, hh⟩, hl, hk, hs⟩, st⟩ := ChN.pays x t A cs.length (fun j => cs.getD j 0) z fm i (tabChN_of (movedChN hZ hw)) hfr hlo m meth c P g ig mk _ X hg hsize hdg hW hn ⟨r1, r2, rfl, hx, hi, sta_is al S, hz, sta_is al F, rf⟩
  exact ⟨v, B, X', ⟨[], ⟨hv, rfl, hh⟩, hl, hk, hs⟩, st⟩
/-- what backV says of its String, as the contracts of this text ask it: cs's low bytes, coder 0 -/
theorem codOf {cs : List Int32} {n : Nat} (hn : cs.length = n) (hb : ∀ c ∈ cs, ¬ 255 < c) : CodA cs 0 (Int32.ofNat n) ((cs.map lo8).map Value.int) := Or.inl ⟨rfl, by rw [hn], by simp [List.map_map, Function.comp_def], hb⟩
end StrChars.Road
end Jvm.Pilot.@@N@@
namespace Jvm.Pilot.@@N@@
open Jvm Jvm.ClassFile Sem Op Lib Jvm.Free Jvm.Stand Jvm.LawKit Jvm.RoadKit Bundle Jvm.OwnKit Jvm.Pilot.@@N@@.Jvm.D

theorem own_up (cs : List Int32) (h : ∀ c ∈ cs, ¬ c < 0 ∧ ¬ (255 : Int32) < c) : ∀ c ∈ cs, ¬ c < 0 ∧ ¬ (65535 : Int32) < c := fun c hc => ⟨(h c hc).1, fun q => (h c hc).2 (by rw [Int32.lt_iff_toInt_lt] at q ⊢; have e1 : (65535 : Int32).toInt = 65535 := rfl; have e2 : (255 : Int32).toInt = 255 := rfl; omega)⟩
theorem own_ch (x : Int32) : ¬ nar .char ((x &&& (255 : Int32)).toUInt32.toUInt16.toUInt32.toInt32) < 0 ∧ ¬ (255 : Int32) < nar .char ((x &&& (255 : Int32)).toUInt32.toUInt16.toUInt32.toInt32) := by
  have h1 : (x &&& (255 : Int32)).toInt = x.toInt % (2 ^ 8 : Nat) := c_mask x 255 8 (by decide) (by decide)
  have h2 := c_i2c (x &&& (255 : Int32))
  have h3 := c_i2c ((x &&& (255 : Int32)).toUInt32.toUInt16.toUInt32.toInt32)
  show ¬ ((x &&& (255 : Int32)).toUInt32.toUInt16.toUInt32.toInt32).toUInt32.toUInt16.toUInt32.toInt32 < 0 ∧ ¬ (255 : Int32) < ((x &&& (255 : Int32)).toUInt32.toUInt16.toUInt32.toInt32).toUInt32.toUInt16.toUInt32.toInt32
  simp only [Int32.lt_iff_toInt_lt, Int32.reduceToInt]
  omega

def own_vs (cs : List Int32) : List Value := (cs.map fun c => c.toInt8.toInt32).map Value.int
theorem own_eqv {P : Prop} [Decidable P] {v : Option Value} (h : (v = some (.int 1) ∧ P) ∨ (v = some (.int 0) ∧ ¬ P)) : v = some (.int (if P then (1 : Int32) else 0)) := by
  rcases h with ⟨rfl, h⟩ | ⟨rfl, h⟩
  · rw [if_pos h]
  · rw [if_neg h]
theorem own_t {P : Prop} [Decidable P] (h : ¬ (if P then (1 : Int32) else 0) = (0 : Int32)) : P := by
  by_cases q : P
  · exact q
  · rw [if_neg q] at h; exact absurd rfl h
theorem own_f {P : Prop} [Decidable P] (h : (if P then (1 : Int32) else 0) = (0 : Int32)) : ¬ P := fun q => by
  rw [if_pos q] at h; exact absurd h (by decide)
theorem own_n8 (x : Int32) : nar .byte (x.toInt8.toInt32) = x.toInt8.toInt32 := by
  show (x.toInt8.toInt32).toInt8.toInt32 = x.toInt8.toInt32
  rw [Int8.toInt8_toInt32]

abbrev own_EL : List (String × Nat) := [("com/example/minder/minder/model/ClockValueOfPinLaw", 17), ("com/example/minder/minder/model/ClockValueOfPinLaw", 19), ("com/example/minder/minder/model/ClockValueOfPinLaw", 21), ("com/example/minder/minder/model/ClockValueOfPinLaw", 23), ("java/lang/String", 7)]
theorem own_narc {x : Int32} (h : ¬ x < 0 ∧ ¬ (255 : Int32) < x) : nar .char x = x := by
  have h3 := c_i2c x
  show x.toUInt32.toUInt16.toUInt32.toInt32 = x
  obtain ⟨h1, h2⟩ := h
  apply Int32.toInt_inj.mp
  simp only [Int32.lt_iff_toInt_lt, Int32.reduceToInt] at h1 h2
  omega
theorem own_cir (x : Int32) : ¬ ((x &&& (255 : Int32)).toUInt32.toUInt16.toUInt32.toInt32) < 0 ∧ ¬ (255 : Int32) < ((x &&& (255 : Int32)).toUInt32.toUInt16.toUInt32.toInt32) := by
  have h1 : (x &&& (255 : Int32)).toInt = x.toInt % (2 ^ 8 : Nat) := c_mask x 255 8 (by decide) (by decide)
  have h2 := c_i2c (x &&& (255 : Int32))
  simp only [Int32.lt_iff_toInt_lt, Int32.reduceToInt]
  omega
theorem own_ofn {n : Nat} (h : n < 2 ^ 31) : (Int32.ofNat n).toInt = n := len_toInt h
theorem own_getr {bs : List Int32} {i : Nat} (h : ∀ c ∈ bs, ¬ c < 0 ∧ ¬ (255 : Int32) < c) : ¬ bs.getD i 0 < 0 ∧ ¬ (255 : Int32) < bs.getD i 0 := by
  rw [List.getD_eq_getElem?_getD]
  cases e : bs[i]? with
  | none => exact ⟨by decide, by decide⟩
  | some c => exact h c (List.mem_of_getElem? e)
theorem own_ix {i : Nat} {bs : List Int32} (hi : i ≤ 9) (lb : bs.length ≤ 9) (h : Int32.ofNat i < Int32.ofNat bs.length) : i < bs.length := by
  rw [Int32.lt_iff_toInt_lt, own_ofn (by omega), own_ofn (by omega)] at h
  omega
def own_max (a b : Int32) : Int32 := if a < b then b else a
theorem own_nA {bs : List Int32} (lb : bs.length ≤ 9) : 0 ≤ (Int32.ofNat bs.length).toInt ∧ (Int32.ofNat bs.length).toInt ≤ 10 := by
  rw [own_ofn (by omega)]; omega
theorem own_nB {bs : List Int32} (lb : bs.length ≤ 9) (d : Int32) (hd : d = 1 ∨ d = -1) : 0 ≤ (own_max (0 : Int32) (Int32.ofNat bs.length + d)).toInt ∧ (own_max (0 : Int32) (Int32.ofNat bs.length + d)).toInt ≤ 10 := by
  have h1 := c_iadd (Int32.ofNat bs.length) d
  have h2 := rng32 (Int32.ofNat bs.length + d)
  rw [own_ofn (by omega)] at h1
  have e1 : (-1 : Int32).toInt = -1 := by decide
  have e2 : (1 : Int32).toInt = 1 := by decide
  have e3 : (0 : Int32).toInt = 0 := by decide
  have h4 : (Int32.ofNat bs.length + d).toInt = bs.length + d.toInt := by
    rcases hd with rfl | rfl <;> simp only [e1, e2] at * <;> omega
  have h5 : d.toInt ≤ 1 := by rcases hd with rfl | rfl <;> simp only [e1, e2] <;> omega
  unfold own_max
  split
  · rename_i h
    rw [Int32.lt_iff_toInt_lt, e3] at h
    omega
  · rw [e3]; omega
theorem own_nC (y : Int32) : 0 ≤ ((y &&& (2147483647 : Int32)) % (11 : Int32)).toInt ∧ ((y &&& (2147483647 : Int32)) % (11 : Int32)).toInt ≤ 10 := by
  have h1 : (y &&& (2147483647 : Int32)).toInt = y.toInt % (2 ^ 31 : Nat) := c_mask y 2147483647 31 (by decide) (by decide)
  have h2 := (c_irem (y &&& (2147483647 : Int32)) 11 11 rfl).1 (by omega)
  omega
theorem own_nr (x2 p3 x : Int32) (bs : List Int32) (lb : bs.length ≤ 9) (q : x = (if x2 = (0 : Int32) then (Int32.ofNat bs.length) else (if x2 = (1 : Int32) then (Int32.ofNat bs.length) else (if x2 = (2 : Int32) then (own_max (0 : Int32) ((Int32.ofNat bs.length) + (if (p3 &&& (1 : Int32)) = (0 : Int32) then (1 : Int32) else (-1 : Int32)))) else ((p3 &&& (2147483647 : Int32)) % (11 : Int32)))))) : 0 ≤ x.toInt ∧ x.toInt ≤ 10 := by
  by_cases h1 : x2 = (0 : Int32)
  · rw [if_pos h1] at q; subst q; exact own_nA lb
  · rw [if_neg h1] at q
    by_cases h2 : x2 = (1 : Int32)
    · rw [if_pos h2] at q; subst q; exact own_nA lb
    · rw [if_neg h2] at q
      by_cases h3 : x2 = (2 : Int32)
      · rw [if_pos h3] at q
        subst q
        refine own_nB lb _ ?_
        by_cases h4 : (p3 &&& (1 : Int32)) = (0 : Int32)
        · rw [if_pos h4]; exact Or.inl rfl
        · rw [if_neg h4]; exact Or.inr rfl
      · rw [if_neg h3] at q; subst q; exact own_nC p3
theorem own_n11 {x : Int32} (h : 0 ≤ x.toInt ∧ x.toInt ≤ 10) : x = 0 ∨ x = 1 ∨ x = 2 ∨ x = 3 ∨ x = 4 ∨ x = 5 ∨ x = 6 ∨ x = 7 ∨ x = 8 ∨ x = 9 ∨ x = 10 := by
  simp only [← Int32.toInt_inj, Int32.reduceToInt]; omega
theorem own_fld {args : Array Value} {s : State} {t : Term} {C f d : String} {w : Addr} {k : Int32} (tw : t.eval args s none [] s = some (.ref w)) (h : (Jvm.Cond.eq (Jvm.Term.field t C f d) (Jvm.Term.int k)).value args s none s [] = some true) : Fld s s.heap w C f d (.int k) := by
  obtain ⟨x, y, e1, e2, k1, k2⟩ := cmp_v (Or.inl h)
  have e3 : y = .int k := (Option.some.inj e2).symm
  subst e3
  obtain ⟨z, rfl⟩ := k2
  have e4 : z = k := gotT (Cond.eq_ints e1 rfl) h
  subst e4
  exact Fld.start (by rw [← Jvm.RoadKit.fld_at tw]; exact e1)
theorem own_fref {args : Array Value} {s : State} {t : Term} {C f d : String} {w b : Addr} (tw : t.eval args s none [] s = some (.ref w)) (h : (Jvm.Term.field t C f d).eval args s none [] s = some (.ref b)) : Fld s s.heap w C f d (.ref b) := Fld.start (by rw [← Jvm.RoadKit.fld_at tw]; exact h)
theorem own_len {args : Array Value} {s : State} {t : Term} {a : Addr} {cc : Cell} {ty : FieldType} {k : Int32} (ht : t.eval args s none [] s = some (.ref a)) (A : Arr s s.heap a cc ty) (h : (Jvm.Cond.eq (Jvm.Term.length t) (Jvm.Term.int k)).value args s none s [] = some true) : cc.slots.size.toInt32 = k ∧ cc.slots.size < 2 ^ 31 := by
  obtain ⟨x, y, e1, e2, -, k2⟩ := cmp_v (Or.inl h)
  have e3 : y = .int k := (Option.some.inj e2).symm
  subst e3
  obtain ⟨z, rfl⟩ := k2
  have e4 : z = k := gotT (Cond.eq_ints e1 rfl) h
  subst e4
  have e5 := A.fin (Vm.Alike.refl _)
  simp only [Term.eval, ht, e5, Option.bind_eq_bind, Option.bind_some] at e1
  split at e1
  · rename_i hl
    exact ⟨Value.int.inj (Option.some.inj e1), hl⟩
  · cases e1
theorem own_isref {args : Array Value} {s : State} {t : Term} (h : (Jvm.Cond.isRef t).value args s none s [] = some true) : ∃ v, t.eval args s none [] s = some v ∧ v.isRef = true := by
  cases e : t.eval args s none [] s with
  | none => simp [Cond.value, e] at h
  | some v => exact ⟨v, rfl, by cases v <;> simp_all [Cond.value, Value.isRef]⟩
theorem own_el {args : Array Value} {s : State} {t : Term} {a : Addr} {cc : Cell} {ty : FieldType} {i : Nat} {j : Int32} {v : Value} (ht : t.eval args s none [] s = some (.ref a)) (A : Arr s s.heap a cc ty) (hj : ¬ j < 0 ∧ j.toNatClampNeg = i) (h : (Jvm.Term.elem t (Jvm.Term.int j)).eval args s none [] s = some v) : cc.slots[i]? = some v := by
  have e5 := A.fin (Vm.Alike.refl _)
  simp only [Term.eval, ht, e5, Option.bind_eq_bind, Option.bind_some] at h
  rw [if_neg hj.1, hj.2] at h
  exact h
theorem own_eli {args : Array Value} {s : State} {t : Term} {a : Addr} {cc : Cell} {ty : FieldType} {i : Nat} {j k : Int32} (ht : t.eval args s none [] s = some (.ref a)) (A : Arr s s.heap a cc ty) (hj : ¬ j < 0 ∧ j.toNatClampNeg = i) (h : (Jvm.Cond.eq (Jvm.Term.elem t (Jvm.Term.int j)) (Jvm.Term.int k)).value args s none s [] = some true) : cc.slots[i]? = some (.int k) := by
  obtain ⟨v, e1, e2⟩ := Cond.eq_worth h
  have e3 : v = .int k := (Option.some.inj e2).symm
  subst e3
  exact own_el ht A hj e1
abbrev fL0 (y0 : Addr) (y1 : Addr) (y2 : Int32) (y3 : Int32) : Array Slot := #[.val (.ref y0), .val (.ref y1), .val (.int y2), .val (.int y3), .val .null, .unset]
abbrev fL1 (y0 : Addr) (y1 : Int32) (y2 : Int32) (y3 : Int32) (y4 : Int32) : Array Slot := #[.val (.ref y0), .val (.int y1), .val (.int y2), .val (.int y3), .val (.int y4)]
abbrev fL2 (y0 : Addr) : Array Slot := #[.val (.ref y0), .unset, .unset, .unset, .unset]
abbrev fL3 (y0 : Addr) (y1 : Addr) : Array Slot := #[.val (.ref y0), .val (.ref y1), .unset, .unset, .unset]
abbrev fL4 (y0 : Addr) (y1 : Addr) (y2 : Int32) : Array Slot := #[.val (.ref y0), .val (.ref y1), .val (.int y2), .unset, .unset]
abbrev fL5 (y0 : Addr) (y1 : Addr) (y2 : Int32) (y3 : Int32) : Array Slot := #[.val (.ref y0), .val (.ref y1), .val (.int y2), .val (.int y3), .unset]
abbrev fL6 (y0 : Addr) (y1 : Addr) (y2 : Int32) (y3 : Int32) (y4 : Addr) : Array Slot := #[.val (.ref y0), .val (.ref y1), .val (.int y2), .val (.int y3), .val (.ref y4)]
abbrev fL7  : Array Slot := #[.val .null, .unset, .unset, .unset, .unset]
abbrev fL8 (y0 : Addr) : Array Slot := #[.val .null, .val (.ref y0), .unset, .unset, .unset]
abbrev fL9 (y0 : Addr) (y1 : Int32) : Array Slot := #[.val .null, .val (.ref y0), .val (.int y1), .unset, .unset]
abbrev fL10 (y0 : Addr) (y1 : Int32) (y2 : Int32) : Array Slot := #[.val .null, .val (.ref y0), .val (.int y1), .val (.int y2), .unset]
abbrev fL11 (y0 : Addr) (y1 : Int32) (y2 : Int32) (y3 : Addr) : Array Slot := #[.val .null, .val (.ref y0), .val (.int y1), .val (.int y2), .val (.ref y3)]
abbrev fL12 (y0 : Int32) (y1 : Int32) (y2 : Int32) (y3 : Int32) : Array Slot := #[.val (.int y0), .val (.int y1), .val (.int y2), .val (.int y3), .unset, .unset, .unset, .unset, .unset, .unset, .unset, .unset, .unset]
abbrev fL13 (y0 : Int32) (y1 : Int32) (y2 : Int32) (y3 : Int32) (y4 : Int32) : Array Slot := #[.val (.int y0), .val (.int y1), .val (.int y2), .val (.int y3), .val (.int y4), .unset, .unset, .unset, .unset, .unset, .unset, .unset, .unset]
abbrev fL14 (y0 : Int32) (y1 : Int32) (y2 : Int32) (y3 : Int32) (y4 : Int32) (y5 : Int32) : Array Slot := #[.val (.int y0), .val (.int y1), .val (.int y2), .val (.int y3), .val (.int y4), .val (.int y5), .unset, .unset, .unset, .unset, .unset, .unset, .unset]
abbrev fL15 (y0 : Int32) (y1 : Int32) (y2 : Int32) (y3 : Int32) (y4 : Int32) (y5 : Int32) (y6 : Addr) : Array Slot := #[.val (.int y0), .val (.int y1), .val (.int y2), .val (.int y3), .val (.int y4), .val (.int y5), .val (.ref y6), .unset, .unset, .unset, .unset, .unset, .unset]
abbrev fL16 (y0 : Int32) (y1 : Int32) (y2 : Int32) (y3 : Int32) (y4 : Int32) (y5 : Int32) (y6 : Addr) (y7 : Int32) : Array Slot := #[.val (.int y0), .val (.int y1), .val (.int y2), .val (.int y3), .val (.int y4), .val (.int y5), .val (.ref y6), .val (.int y7), .unset, .unset, .unset, .unset, .unset]
abbrev fL17 (y0 : Int32) (y1 : Int32) (y2 : Int32) (y3 : Int32) (y4 : Int32) (y5 : Int32) (y6 : Addr) (y7 : Int32) (y8 : Int32) : Array Slot := #[.val (.int y0), .val (.int y1), .val (.int y2), .val (.int y3), .val (.int y4), .val (.int y5), .val (.ref y6), .val (.int y7), .val (.int y8), .unset, .unset, .unset, .unset]
abbrev fL18 (y0 : Int32) (y1 : Int32) (y2 : Int32) (y3 : Int32) (y4 : Int32) (y5 : Int32) (y6 : Addr) (y7 : Int32) (y8 : Int32) (y9 : Int32) : Array Slot := #[.val (.int y0), .val (.int y1), .val (.int y2), .val (.int y3), .val (.int y4), .val (.int y5), .val (.ref y6), .val (.int y7), .val (.int y8), .val (.int y9), .unset, .unset, .unset]
abbrev fL19 (y0 : Int32) (y1 : Int32) (y2 : Int32) (y3 : Int32) (y4 : Int32) (y5 : Int32) (y6 : Addr) (y7 : Int32) (y8 : Int32) (y9 : Int32) (y10 : Int32) : Array Slot := #[.val (.int y0), .val (.int y1), .val (.int y2), .val (.int y3), .val (.int y4), .val (.int y5), .val (.ref y6), .val (.int y7), .val (.int y8), .val (.int y9), .val (.int y10), .unset, .unset]
abbrev fL20 (y0 : Int32) (y1 : Int32) (y2 : Int32) (y3 : Int32) (y4 : Int32) (y5 : Int32) (y6 : Addr) (y7 : Int32) (y8 : Int32) (y9 : Int32) (y10 : Int32) (y11 : Addr) (y12 : Slot) : Array Slot := #[.val (.int y0), .val (.int y1), .val (.int y2), .val (.int y3), .val (.int y4), .val (.int y5), .val (.ref y6), .val (.int y7), .val (.int y8), .val (.int y9), .val (.int y10), .val (.ref y11), y12]
abbrev fL21 (y0 : Int32) (y1 : Int32) (y2 : Int32) (y3 : Int32) (y4 : Int32) (y5 : Int32) (y6 : Addr) (y7 : Int32) (y8 : Int32) (y9 : Int32) (y10 : Int32) (y11 : Addr) : Array Slot := #[.val (.int y0), .val (.int y1), .val (.int y2), .val (.int y3), .val (.int y4), .val (.int y5), .val (.ref y6), .val (.int y7), .val (.int y8), .val (.int y9), .val (.int y10), .val (.ref y11), .val .null]
abbrev fL22 (y0 : Int32) (y1 : Int32) (y2 : Int32) (y3 : Int32) (y4 : Int32) (y5 : Int32) (y6 : Addr) (y7 : Int32) (y8 : Int32) (y9 : Int32) (y10 : Int32) (y11 : Addr) (y12 : Addr) : Array Slot := #[.val (.int y0), .val (.int y1), .val (.int y2), .val (.int y3), .val (.int y4), .val (.int y5), .val (.ref y6), .val (.int y7), .val (.int y8), .val (.int y9), .val (.int y10), .val (.ref y11), .val (.ref y12)]
abbrev fL23 (y0 : Int32) (y1 : Int32) (y2 : Int32) (y3 : Int32) (y4 : Int32) (y5 : Int32) (y6 : Addr) (y7 : Int32) (y8 : Int32) (y9 : Int32) (y10 : Int32) (y11 : Addr) : Array Slot := #[.val (.int y0), .val (.int y1), .val (.int y2), .val (.int y3), .val (.int y4), .val (.int y5), .val (.ref y6), .val (.int y7), .val (.int y8), .val (.int y9), .val (.int y10), .unset, .val (.ref y11)]
abbrev fL24 (y0 : Int32) (y1 : Int32) (y2 : Int32) (y3 : Int32) (y4 : Int32) (y5 : Int32) (y6 : Addr) (y7 : Int32) (y8 : Int32) (y9 : Int32) (y10 : Int32) : Array Slot := #[.val (.int y0), .val (.int y1), .val (.int y2), .val (.int y3), .val (.int y4), .val (.int y5), .val (.ref y6), .val (.int y7), .val (.int y8), .val (.int y9), .val (.int y10), .val .null, .unset]
abbrev fL25 (y0 : Int32) (y1 : Int32) (y2 : Int32) (y3 : Int32) (y4 : Int32) (y5 : Int32) (y6 : Addr) (y7 : Int32) (y8 : Int32) (y9 : Int32) (y10 : Int32) : Array Slot := #[.val (.int y0), .val (.int y1), .val (.int y2), .val (.int y3), .val (.int y4), .val (.int y5), .val (.ref y6), .val (.int y7), .val (.int y8), .val (.int y9), .val (.int y10), .val .null, .val .null]
theorem d_jdk_29_method_65_code_0 : decode jdk_29_method_65_code 0 = .ok (.iload_n 0, 1) := by decide +kernel
theorem d_jdk_29_method_65_code_1 : decode jdk_29_method_65_code 1 = .ok (.iload_n 1, 1) := by decide +kernel
theorem d_jdk_29_method_65_code_2 : decode jdk_29_method_65_code 2 = .ok (.if_icmp .lt 7, 3) := by decide +kernel
theorem d_jdk_29_method_65_code_9 : decode jdk_29_method_65_code 9 = .ok (.iload_n 1, 1) := by decide +kernel
theorem d_jdk_29_method_65_code_10 : decode jdk_29_method_65_code 10 = .ok (.ireturn, 1) := by decide +kernel
theorem d_jdk_29_method_65_code_5 : decode jdk_29_method_65_code 5 = .ok (.iload_n 0, 1) := by decide +kernel
theorem d_jdk_29_method_65_code_6 : decode jdk_29_method_65_code 6 = .ok (.goto 4, 3) := by decide +kernel
theorem ef_rm_max (m : MethodId) (y0 : Int32) (y1 : Int32) : entryFrame m #[(.int y0), (.int y1)] 2 = mkF m 0 #[.val (.int y0), .val (.int y1)] [] := by first | (simp [entryFrame, mkF, argsToLocals, Value.category]; done) | rfl
def Q_rm_max (Z : State) (p0 : Int32) (p1 : Int32) (h0 : Heap) (n0 : Nat) (v : Option Value) (h : Heap) (L : List Loc) : Prop := v = some (.int (own_max p0 p1)) ∧ Fr n0 L ∧ h = h0
set_option maxRecDepth 65536 in
set_option maxHeartbeats 40000000 in
theorem rm_max (l : Launch) (Z : State) (a0 : Array Value) (hw : ∀ d ∈ tables_1, d.before a0 Z = true) (ws : List Jvm.Cond) (p0 : Int32) (p1 : Int32) (h0 : Heap) (n0 : Nat) :
    MetFree l (⟨"java/lang/Math", "max", "(II)I"⟩ : MethodName) (head1 (Jvm.Cond.code (⟨"java/lang/Math", "max", "(II)I"⟩ : MethodName) jdk_29_method_65_code 2 (some .int) :: ws) ({ frames := 0, cells := 0, slots := 0, locals := 0 } : Room)) (fun a U => a = #[(.int p0), (.int p1)] ∧ Z.Warmed39 U.vm ∧ U.heap = h0) (fun _ _ _ _ _ => True) (fun _ U o U' => ∃ v L, o = .returned v ∧ Q_rm_max Z p0 p1 h0 n0 v U'.heap L ∧ FrameEnd U o U' L 0 0) := by
  refine MetFree.of_bodySF (Jvm.Free.JP.mathPlain rfl (by decide +kernel)) hisR ?_
  intro p e s m args below meth c s₁ Bd hml0 hP hK
  obtain ⟨rfl, hZ, hh⟩ := hP
  have hx := Bd.exec
  have hby := Bd.bytes
  have hlk := Bd.notSynchronized
  have hml : c.maxLocals = 2 := hml0
  have hown : s.vm.findClass "java/lang/Math" = some m.cls := findClass_of_methodNamed Bd.named
  have hnm := (name_of_methodNamed Bd.named Bd.method).1
  have X0 : Stand p l e ({ frames := 0, cells := 0, slots := 0, locals := 0 } : Room) s m #[(.int p0), (.int p1)] below meth c s₁ [] 0 0 := Stand.of_body Bd
  have e0 : s₁.heap = h0 := by rw [← hh, Bd.state]; rfl
  have N0 := Fr.nil n0
  show OwnEnd p e below s (Q_rm_max Z p0 p1 h0 n0) 0 0 (s₁.setTop (entryFrame m #[(.int p0), (.int p1)] 2))
  refine go (fun t k => castTop (ef_rm_max m p0 p1) k) ?_
  show OwnEnd _ _ _ _ _ _ _ (s₁.setTop (mkF m 0 #[.val (.int p0), .val (.int p1)] []))
  refine go (fun _ k => by refine XS.iloadN X0.here hx rfl (hb hby d_jdk_29_method_65_code_0) rfl ?_; exact k) ?_
  refine go (fun _ k => by refine XS.iloadN X0.here hx rfl (hb hby d_jdk_29_method_65_code_1) rfl ?_; exact k) ?_
  show OwnEnd _ _ _ _ _ _ _ (s₁.setTop (mkF m 2 #[.val (.int p0), .val (.int p1)] [(.int p1), (.int p0)]))
  by_cases hc2_1 : p0 < p1
  · refine go (fun _ k => by refine XS.icmpYes X0.here hx rfl (pc0 := 2) (pc' := 9) rfl (hb hby d_jdk_29_method_65_code_2) rfl (tlt hc2_1).1 (by decide) (by decide) ?_; exact k) ?_
    show OwnEnd _ _ _ _ _ _ _ (s₁.setTop (mkF m 9 #[.val (.int p0), .val (.int p1)] []))
    refine go (fun _ k => by refine XS.iloadN X0.here hx rfl (hb hby d_jdk_29_method_65_code_9) rfl ?_; exact k) ?_
    show OwnEnd _ _ _ _ _ _ _ (s₁.setTop (mkF m 10 #[.val (.int p0), .val (.int p1)] [(.int p1)]))
    refine endI X0 hx hlk Bd.returns (hb hby d_jdk_29_method_65_code_10) e0 (by decide) (by decide) ?_
    exact ⟨by unfold own_max; rw [if_pos (by assumption)], N0, rfl⟩
  · refine go (fun _ k => by refine XS.icmpNo X0.here hx rfl (hb hby d_jdk_29_method_65_code_2) rfl (flt hc2_1).1 ?_; exact k) ?_
    show OwnEnd _ _ _ _ _ _ _ (s₁.setTop (mkF m 5 #[.val (.int p0), .val (.int p1)] []))
    refine go (fun _ k => by refine XS.iloadN X0.here hx rfl (hb hby d_jdk_29_method_65_code_5) rfl ?_; exact k) ?_
    refine go (fun _ k => by refine XS.goto X0.here hx rfl (pc0 := 6) (pc' := 10) rfl (hb hby d_jdk_29_method_65_code_6) (by decide) (by decide) ?_; exact k) ?_
    show OwnEnd _ _ _ _ _ _ _ (s₁.setTop (mkF m 10 #[.val (.int p0), .val (.int p1)] [(.int p0)]))
    refine endI X0 hx hlk Bd.returns (hb hby d_jdk_29_method_65_code_10) e0 (by decide) (by decide) ?_
    exact ⟨by unfold own_max; rw [if_neg (by assumption)], N0, rfl⟩
theorem d_jdk_42_method_149_code_0 : decode jdk_42_method_149_code 0 = .ok (.aload_n 0, 1) := by decide +kernel
theorem d_jdk_42_method_149_code_1 : decode jdk_42_method_149_code 1 = .ok (.invokespecial 1, 3) := by decide +kernel
theorem d_jdk_42_method_149_code_4 : decode jdk_42_method_149_code 4 = .ok (.iload_n 3, 1) := by decide +kernel
theorem d_jdk_42_method_149_code_5 : decode jdk_42_method_149_code 5 = .ok (.ifCond .ne 22, 3) := by decide +kernel
theorem d_jdk_42_method_149_code_8 : decode jdk_42_method_149_code 8 = .ok (.aload_n 0, 1) := by decide +kernel
theorem d_jdk_42_method_149_code_9 : decode jdk_42_method_149_code 9 = .ok (.ldc 7, 2) := by decide +kernel
theorem d_jdk_42_method_149_code_11 : decode jdk_42_method_149_code 11 = .ok (.getfield 9, 3) := by decide +kernel
theorem d_jdk_42_method_149_code_14 : decode jdk_42_method_149_code 14 = .ok (.putfield 9, 3) := by decide +kernel
theorem d_jdk_42_method_149_code_17 : decode jdk_42_method_149_code 17 = .ok (.aload_n 0, 1) := by decide +kernel
theorem d_jdk_42_method_149_code_18 : decode jdk_42_method_149_code 18 = .ok (.ldc 7, 2) := by decide +kernel
theorem d_jdk_42_method_149_code_20 : decode jdk_42_method_149_code 20 = .ok (.getfield 15, 3) := by decide +kernel
theorem d_jdk_42_method_149_code_23 : decode jdk_42_method_149_code 23 = .ok (.putfield 15, 3) := by decide +kernel
theorem d_jdk_42_method_149_code_26 : decode jdk_42_method_149_code 26 = .ok (.return_, 1) := by decide +kernel
theorem pn_java_lang_String : plainName "java/lang/String" = true := by first | (simp [plainName, overriddenIn]; done) | decide +kernel
theorem ef_rm_se2 (m : MethodId) (y0 : Addr) (y1 : Addr) : entryFrame m #[(.ref y0), (.ref y1), (.int (0 : Int32)), (.int (0 : Int32)), .null] 6 = mkF m 0 #[.val (.ref y0), .val (.ref y1), .val (.int (0 : Int32)), .val (.int (0 : Int32)), .val .null, .unset] [] := by first | (simp [entryFrame, mkF, argsToLocals, Value.category]; done) | rfl
def Q_rm_se2 (Z : State) (a0' : Addr) (a1' : Addr) (h0 : Heap) (n0 : Nat) (v : Option Value) (h : Heap) (L : List Loc) : Prop := ∃ t kb, v = none ∧ Fr n0 L ∧ Keep h0 h [a0'] ∧ Fld Z h a0' "java/lang/String" "value" "[B" (.ref t) ∧ Fld Z h a0' "java/lang/String" "coder" "B" (.int 0) ∧ Arv Z h t kb .byte 0 [] (.int 0)
set_option maxRecDepth 65536 in
set_option maxHeartbeats 40000000 in
theorem rm_se2 (l : Launch) (Z : State) (a0 : Array Value) (hw : ∀ d ∈ tables_1, d.before a0 Z = true) (ws : List Jvm.Cond) (a0' : Addr) (a1' : Addr) (h0 : Heap) (n0 : Nat) (ga : n0 ≤ a0') (EA : Exa Z h0 a0' "java/lang/String") (F_value : Fld Z h0 a0' "java/lang/String" "value" "[B" .null) (F_coder : Fld Z h0 a0' "java/lang/String" "coder" "B" (.int 0)) (hEL : EW Z a0 own_EL) :
    MetFree l (⟨"java/lang/String", "<init>", "([CIILjava/lang/Void;)V"⟩ : MethodName) (head1 (Jvm.Cond.code (⟨"java/lang/String", "<init>", "([CIILjava/lang/Void;)V"⟩ : MethodName) jdk_42_method_149_code 6 none :: ws) ({ frames := 1, cells := 2, slots := 4, locals := 12 } : Room)) (fun a U => a = #[(.ref a0'), (.ref a1'), (.int (0 : Int32)), (.int (0 : Int32)), .null] ∧ Z.Warmed39 U.vm ∧ U.heap = h0 ∧ CHv Z own_EL U.vm h0) (fun _ _ _ _ _ => True) (fun _ U o U' => ∃ v L, o = .returned v ∧ Q_rm_se2 Z a0' a1' h0 n0 v U'.heap L ∧ CHr Z own_EL U.vm U.heap U'.vm U'.heap ∧ ReturnedEndW U o U' L 2 4) := by
  refine MetFree.of_bodySF (plainFor_of_name pn_java_lang_String) hisR ?_
  intro p e s m args below meth c s₁ Bd hml0 hP hK
  obtain ⟨rfl, hZ, hh, hH⟩ := hP
  have hx := Bd.exec
  have hby := Bd.bytes
  have hlk := Bd.notSynchronized
  have hml : c.maxLocals = 6 := hml0
  have hown : s.vm.findClass "java/lang/String" = some m.cls := findClass_of_methodNamed Bd.named
  have hnm := (name_of_methodNamed Bd.named Bd.method).1
  have X0 : Stand p l e ({ frames := 1, cells := 2, slots := 4, locals := 12 } : Room) s m #[(.ref a0'), (.ref a1'), (.int (0 : Int32)), (.int (0 : Int32)), .null] below meth c s₁ [] 0 0 := Stand.of_body Bd
  have e0 : s₁.heap = h0 := by rw [← hh, Bd.state]; rfl
  have N0 := Fr.nil n0
  show OwnEndH Z own_EL p e below s (Q_rm_se2 Z a0' a1' h0 n0) 2 4 (s₁.setTop (entryFrame m #[(.ref a0'), (.ref a1'), (.int (0 : Int32)), (.int (0 : Int32)), .null] 6))
  refine goH (fun t k => castTop (ef_rm_se2 m a0' a1') k) ?_
  have KK := Keep.refl h0 [a0']
  have sfA := own_safe (EL := own_EL) (vm := s.vm) hZ.alike EA F_value
  have hS := (State.WarmedH.refl s).since 0
  have hk : 0 ≤ h0.size := Nat.zero_le _
  have wS : ∀ a ∈ Bundle.stringAtoms, a.before a0 Z = true := by
    intro d hd
    simp only [Bundle.stringAtoms, List.mem_cons, List.not_mem_nil, or_false] at hd
    rcases hd with rfl | rfl | rfl | rfl | rfl | rfl | rfl
    · first | exact (hw _ (List.mem_of_getElem? (i := 1) rfl)) | exact (hw _ (List.mem_of_getElem? (i := 2) rfl)) | exact (hw _ (List.mem_of_getElem? (i := 3) rfl)) | exact (hw _ (List.mem_of_getElem? (i := 4) rfl)) | exact (hw _ (List.mem_of_getElem? (i := 5) rfl)) | exact (hw _ (List.mem_of_getElem? (i := 6) rfl)) | exact (hw _ (List.mem_of_getElem? (i := 7) rfl))
    · first | exact (hw _ (List.mem_of_getElem? (i := 1) rfl)) | exact (hw _ (List.mem_of_getElem? (i := 2) rfl)) | exact (hw _ (List.mem_of_getElem? (i := 3) rfl)) | exact (hw _ (List.mem_of_getElem? (i := 4) rfl)) | exact (hw _ (List.mem_of_getElem? (i := 5) rfl)) | exact (hw _ (List.mem_of_getElem? (i := 6) rfl)) | exact (hw _ (List.mem_of_getElem? (i := 7) rfl))
    · first | exact (hw _ (List.mem_of_getElem? (i := 1) rfl)) | exact (hw _ (List.mem_of_getElem? (i := 2) rfl)) | exact (hw _ (List.mem_of_getElem? (i := 3) rfl)) | exact (hw _ (List.mem_of_getElem? (i := 4) rfl)) | exact (hw _ (List.mem_of_getElem? (i := 5) rfl)) | exact (hw _ (List.mem_of_getElem? (i := 6) rfl)) | exact (hw _ (List.mem_of_getElem? (i := 7) rfl))
    · first | exact (hw _ (List.mem_of_getElem? (i := 1) rfl)) | exact (hw _ (List.mem_of_getElem? (i := 2) rfl)) | exact (hw _ (List.mem_of_getElem? (i := 3) rfl)) | exact (hw _ (List.mem_of_getElem? (i := 4) rfl)) | exact (hw _ (List.mem_of_getElem? (i := 5) rfl)) | exact (hw _ (List.mem_of_getElem? (i := 6) rfl)) | exact (hw _ (List.mem_of_getElem? (i := 7) rfl))
    · first | exact (hw _ (List.mem_of_getElem? (i := 1) rfl)) | exact (hw _ (List.mem_of_getElem? (i := 2) rfl)) | exact (hw _ (List.mem_of_getElem? (i := 3) rfl)) | exact (hw _ (List.mem_of_getElem? (i := 4) rfl)) | exact (hw _ (List.mem_of_getElem? (i := 5) rfl)) | exact (hw _ (List.mem_of_getElem? (i := 6) rfl)) | exact (hw _ (List.mem_of_getElem? (i := 7) rfl))
    · first | exact (hw _ (List.mem_of_getElem? (i := 1) rfl)) | exact (hw _ (List.mem_of_getElem? (i := 2) rfl)) | exact (hw _ (List.mem_of_getElem? (i := 3) rfl)) | exact (hw _ (List.mem_of_getElem? (i := 4) rfl)) | exact (hw _ (List.mem_of_getElem? (i := 5) rfl)) | exact (hw _ (List.mem_of_getElem? (i := 6) rfl)) | exact (hw _ (List.mem_of_getElem? (i := 7) rfl))
    · first | exact (hw _ (List.mem_of_getElem? (i := 1) rfl)) | exact (hw _ (List.mem_of_getElem? (i := 2) rfl)) | exact (hw _ (List.mem_of_getElem? (i := 3) rfl)) | exact (hw _ (List.mem_of_getElem? (i := 4) rfl)) | exact (hw _ (List.mem_of_getElem? (i := 5) rfl)) | exact (hw _ (List.mem_of_getElem? (i := 6) rfl)) | exact (hw _ (List.mem_of_getElem? (i := 7) rfl))
  have HC := CHr.refl hH
  show OwnEndH Z own_EL _ _ _ _ _ _ _ (s₁.setTop (mkF m 0 (fL0 a0' a1' (0 : Int32) (0 : Int32)) []))
  refine goH (fun _ k => by refine XS.aloadN X0.here hx rfl (hb hby d_jdk_42_method_149_code_0) rfl rfl ?_; exact k) ?_
  show OwnEndH Z own_EL _ _ _ _ _ _ _ (s₁.setTop (mkF m 1 (fL0 a0' a1' (0 : Int32) (0 : Int32)) [(.ref a0')]))
  obtain ⟨T1, X1, e1, st1⟩ := initO X0 hx hZ hown (hw _ (List.mem_of_getElem? (i := 57) rfl)) (hw _ (List.mem_of_getElem? (i := 58) rfl)) (hw _ (List.mem_of_getElem? (i := 59) rfl)) e0 (g := (mkF m 1 (fL0 a0' a1' (0 : Int32) (0 : Int32)) [(.ref a0')])) rfl (by rw [hml]; rfl) rfl (hb hby d_jdk_42_method_149_code_1) (by decide) (W := 0) (by show 2 * 0 + _ ≤ _; exact Nat.le_of_eq rfl) (by decide)
  refine goH st1 ?_
  refine goH (fun _ k => by refine XS.iloadN X1.here hx rfl (hb hby d_jdk_42_method_149_code_4) rfl ?_; exact k) ?_
  show OwnEndH Z own_EL _ _ _ _ _ _ _ (T1.setTop (mkF m 5 (fL0 a0' a1' (0 : Int32) (0 : Int32)) [(.int (0 : Int32))]))
  refine goH (fun _ k => by refine XS.ifNo X1.here hx rfl (hb hby d_jdk_42_method_149_code_5) rfl ((if0 _ _).trans (teq (by decide)).2) ?_; exact k) ?_
  refine goH (fun _ k => by refine XS.aloadN X1.here hx rfl (hb hby d_jdk_42_method_149_code_8) rfl rfl ?_; exact k) ?_
  show OwnEndH Z own_EL _ _ _ _ _ _ _ (T1.setTop (mkF m 9 (fL0 a0' a1' (0 : Int32) (0 : Int32)) [(.ref a0')]))
  obtain ⟨b2, T2, h2, k2, t2, kb2, X2, e2, E2, hS, hk, hZ, hown, E_b2, FC_b2, FV_b2, V_t2, -, -, hC2, hL2, hne2, st2⟩ := ldcCH (vm0 := s.vm) (EL := own_EL) X1 hx hZ hown (hw _ (List.mem_of_getElem? (i := 113) rfl)) wS e1 hS hk hEL (List.mem_of_getElem? (i := 4) rfl) HC.1 (vs := []) (z := 0) ⟨by decide +kernel, by decide +kernel⟩ (by decide) (by decide) (g := (mkF m 9 (fL0 a0' a1' (0 : Int32) (0 : Int32)) [(.ref a0')])) rfl (hb hby d_jdk_42_method_149_code_9) (n := 0) (by decide) (by decide) (by decide) (by decide)
  have sfA := CHr.safe hC2 EA.lt sfA
  have ne_a0__b2 := (hne2 _ sfA).1
  have ne_a0__t2 := (hne2 _ sfA).2
  have HC := HC.trans hC2
  have EA := EA.ext E2
  have F_value := F_value.ext E2
  have F_coder := F_coder.ext E2
  have KK := Keep.ext KK E2
  refine goH st2 ?_
  show OwnEndH Z own_EL _ _ _ _ _ _ _ (T2.setTop (mkF m 11 (fL0 a0' a1' (0 : Int32) (0 : Int32)) [(.ref b2), (.ref a0')]))
  obtain ⟨T3, X3, e3, st3⟩ := getF X2 hx hZ hown (host := "") (Or.inl (hw _ (List.mem_of_getElem? (i := 14) rfl))) Via.refl e2 FV_b2 (g := (mkF m 11 (fL0 a0' a1' (0 : Int32) (0 : Int32)) [(.ref b2), (.ref a0')])) rfl rfl (hb hby d_jdk_42_method_149_code_11)
  refine goH st3 ?_
  show OwnEndH Z own_EL _ _ _ _ _ _ _ (T3.setTop (mkF m 14 (fL0 a0' a1' (0 : Int32) (0 : Int32)) [(.ref t2), (.ref a0')]))
  obtain ⟨T4, h4, X4, e4, W4, st4⟩ := putF X3 hx hZ hown (host := "") (Or.inl (hw _ (List.mem_of_getElem? (i := 14) rfl))) Via.refl e3 F_value EA (Or.inr ⟨(hw _ (List.mem_of_getElem? (i := 4) rfl)), rfl, hnm⟩) (hw _ (List.mem_of_getElem? (i := 2) rfl)) (ty := (.array .byte)) (by decide) rfl rfl (g := (mkF m 14 (fL0 a0' a1' (0 : Int32) (0 : Int32)) [(.ref t2), (.ref a0')])) rfl rfl (hb hby d_jdk_42_method_149_code_14)
  have N4 := Fr.snoc X4 N0 ga
  have HCn := HC.trans (CHr.wr W4 sfA HC.1)
  have sfAn := Safe.wr W4 sfA HC.1 sfA
  have HC := HCn
  have sfA := sfAn
  have EA := EA.wr W4
  have F_coder := F_coder.other W4 (Or.inr (slot_ne (Or.inr (hw _ (List.mem_of_getElem? (i := 5) rfl))) (Or.inr (hw _ (List.mem_of_getElem? (i := 4) rfl))) (by decide) (t := .byte) (t' := (.array .byte)) (by decide) (by decide)))
  have KK := Keep.wr KK W4 (Or.inl (List.mem_of_getElem? (i := 0) rfl))
  have hk := Nat.le_trans hk (Keep.of_wr W4).1
  have E_b2 := E_b2.wr W4
  have FV_b2 := FV_b2.other W4 (Or.inl (Ne.symm ne_a0__b2))
  have FC_b2 := FC_b2.other W4 (Or.inl (Ne.symm ne_a0__b2))
  have V_t2 := V_t2.other W4 (Ne.symm ne_a0__t2)
  have F_value := F_value.same W4
  refine goH st4 ?_
  refine goH (fun _ k => by refine XS.aloadN X4.here hx rfl (hb hby d_jdk_42_method_149_code_17) rfl rfl ?_; exact k) ?_
  show OwnEndH Z own_EL _ _ _ _ _ _ _ (T4.setTop (mkF m 18 (fL0 a0' a1' (0 : Int32) (0 : Int32)) [(.ref a0')]))
  refine goH (ldcAgain (vm0 := T2.vm) X4 hx hZ hown (hw _ (List.mem_of_getElem? (i := 113) rfl)) hL2 (g := (mkF m 18 (fL0 a0' a1' (0 : Int32) (0 : Int32)) [(.ref a0')])) rfl (hb hby d_jdk_42_method_149_code_18)) ?_
  show OwnEndH Z own_EL _ _ _ _ _ _ _ (T4.setTop (mkF m 20 (fL0 a0' a1' (0 : Int32) (0 : Int32)) [(.ref b2), (.ref a0')]))
  obtain ⟨T6, X6, e6, st6⟩ := getF X4 hx hZ hown (host := "") (Or.inl (hw _ (List.mem_of_getElem? (i := 21) rfl))) Via.refl e4 FC_b2 (g := (mkF m 20 (fL0 a0' a1' (0 : Int32) (0 : Int32)) [(.ref b2), (.ref a0')])) rfl rfl (hb hby d_jdk_42_method_149_code_20)
  refine goH st6 ?_
  show OwnEndH Z own_EL _ _ _ _ _ _ _ (T6.setTop (mkF m 23 (fL0 a0' a1' (0 : Int32) (0 : Int32)) [(.int (0 : Int32)), (.ref a0')]))
  obtain ⟨T7, h7, X7, e7, W7, st7⟩ := putFN X6 hx hZ hown (hw _ (List.mem_of_getElem? (i := 21) rfl)) Via.refl e6 F_coder EA (Or.inr ⟨(hw _ (List.mem_of_getElem? (i := 5) rfl)), rfl, hnm⟩) (hw _ (List.mem_of_getElem? (i := 2) rfl)) (ty := .byte) (v' := (.int (0 : Int32))) (by decide) rfl (by decide) (g := (mkF m 23 (fL0 a0' a1' (0 : Int32) (0 : Int32)) [(.int (0 : Int32)), (.ref a0')])) rfl rfl (hb hby d_jdk_42_method_149_code_23)
  have N7 := Fr.snoc X7 N4 ga
  have HCn := HC.trans (CHr.wr W7 sfA HC.1)
  have sfAn := Safe.wr W7 sfA HC.1 sfA
  have HC := HCn
  have sfA := sfAn
  have EA := EA.wr W7
  have F_value := F_value.other W7 (Or.inr (slot_ne (Or.inr (hw _ (List.mem_of_getElem? (i := 4) rfl))) (Or.inr (hw _ (List.mem_of_getElem? (i := 5) rfl))) (by decide) (t := (.array .byte)) (t' := .byte) (by decide) (by decide)))
  have KK := Keep.wr KK W7 (Or.inl (List.mem_of_getElem? (i := 0) rfl))
  have hk := Nat.le_trans hk (Keep.of_wr W7).1
  have E_b2 := E_b2.wr W7
  have FV_b2 := FV_b2.other W7 (Or.inl (Ne.symm ne_a0__b2))
  have FC_b2 := FC_b2.other W7 (Or.inl (Ne.symm ne_a0__b2))
  have V_t2 := V_t2.other W7 (Ne.symm ne_a0__t2)
  have F_coder := F_coder.same W7
  refine goH st7 ?_
  show OwnEndH Z own_EL _ _ _ _ _ _ _ (T7.setTop (mkF m 26 (fL0 a0' a1' (0 : Int32) (0 : Int32)) []))
  refine endVH (vm₁ := T2.vm) X7 hS hk hZ hEL hh HC hx hlk Bd.returns (hb hby d_jdk_42_method_149_code_26) e7 (by decide) (by decide) ?_
  exact ⟨t2, _, rfl, N7, KK, F_value, F_coder, V_t2⟩
theorem d_jdk_42_method_3_code_0 : decode jdk_42_method_3_code 0 = .ok (.aload_n 0, 1) := by decide +kernel
theorem d_jdk_42_method_3_code_1 : decode jdk_42_method_3_code 1 = .ok (.aload_n 1, 1) := by decide +kernel
theorem d_jdk_42_method_3_code_2 : decode jdk_42_method_3_code 2 = .ok (.iconst 0, 1) := by decide +kernel
theorem d_jdk_42_method_3_code_3 : decode jdk_42_method_3_code 3 = .ok (.aload_n 1, 1) := by decide +kernel
theorem d_jdk_42_method_3_code_4 : decode jdk_42_method_3_code 4 = .ok (.arraylength, 1) := by decide +kernel
theorem d_jdk_42_method_3_code_5 : decode jdk_42_method_3_code 5 = .ok (.aconst_null, 1) := by decide +kernel
theorem d_jdk_42_method_3_code_6 : decode jdk_42_method_3_code 6 = .ok (.invokespecial 27, 3) := by decide +kernel
theorem pd___CIILjava_lang_Void__V : parseMethodDescriptor "([CIILjava/lang/Void;)V" = some ⟨[(.array .char), .int, .int, (.object "java/lang/Void")], none⟩ := by decide +kernel
theorem d_jdk_42_method_3_code_9 : decode jdk_42_method_3_code 9 = .ok (.return_, 1) := by decide +kernel
theorem ef_rm_se1 (m : MethodId) (y0 : Addr) (y1 : Addr) : entryFrame m #[(.ref y0), (.ref y1)] 2 = mkF m 0 #[.val (.ref y0), .val (.ref y1)] [] := by first | (simp [entryFrame, mkF, argsToLocals, Value.category]; done) | rfl
def Q_rm_se1 (Z : State) (a0' : Addr) (a1' : Addr) (kc : ClassId) (h0 : Heap) (n0 : Nat) (v : Option Value) (h : Heap) (L : List Loc) : Prop := ∃ t kb, v = none ∧ Fr n0 L ∧ Keep h0 h [a0'] ∧ Fld Z h a0' "java/lang/String" "value" "[B" (.ref t) ∧ Fld Z h a0' "java/lang/String" "coder" "B" (.int 0) ∧ Arv Z h t kb .byte 0 [] (.int 0)
set_option maxRecDepth 65536 in
set_option maxHeartbeats 40000000 in
theorem rm_se1 (l : Launch) (Z : State) (a0 : Array Value) (hw : ∀ d ∈ tables_1, d.before a0 Z = true) (ws : List Jvm.Cond) (a0' : Addr) (a1' : Addr) (kc : ClassId) (h0 : Heap) (n0 : Nat) (ga : n0 ≤ a0') (EA : Exa Z h0 a0' "java/lang/String") (F_value : Fld Z h0 a0' "java/lang/String" "value" "[B" .null) (F_coder : Fld Z h0 a0' "java/lang/String" "coder" "B" (.int 0)) (VA : Arv Z h0 a1' kc .char 0 [] (.int 0)) (hEL : EW Z a0 own_EL) :
    MetFree l (⟨"java/lang/String", "<init>", "([C)V"⟩ : MethodName) (head1 (Jvm.Cond.code (⟨"java/lang/String", "<init>", "([C)V"⟩ : MethodName) jdk_42_method_3_code 2 none :: ws) ({ frames := 2, cells := 2, slots := 4, locals := 29 } : Room)) (fun a U => a = #[(.ref a0'), (.ref a1')] ∧ Z.Warmed39 U.vm ∧ U.heap = h0 ∧ CHv Z own_EL U.vm h0) (fun _ _ _ _ _ => True) (fun _ U o U' => ∃ v L, o = .returned v ∧ Q_rm_se1 Z a0' a1' kc h0 n0 v U'.heap L ∧ CHr Z own_EL U.vm U.heap U'.vm U'.heap ∧ ReturnedEndW U o U' L 2 4) := by
  refine MetFree.of_bodySF (plainFor_of_name pn_java_lang_String) hisR ?_
  intro p e s m args below meth c s₁ Bd hml0 hP hK
  obtain ⟨rfl, hZ, hh, hH⟩ := hP
  have hx := Bd.exec
  have hby := Bd.bytes
  have hlk := Bd.notSynchronized
  have hml : c.maxLocals = 2 := hml0
  have hown : s.vm.findClass "java/lang/String" = some m.cls := findClass_of_methodNamed Bd.named
  have hnm := (name_of_methodNamed Bd.named Bd.method).1
  have X0 : Stand p l e ({ frames := 2, cells := 2, slots := 4, locals := 29 } : Room) s m #[(.ref a0'), (.ref a1')] below meth c s₁ [] 0 0 := Stand.of_body Bd
  have e0 : s₁.heap = h0 := by rw [← hh, Bd.state]; rfl
  have N0 := Fr.nil n0
  show OwnEndH Z own_EL p e below s (Q_rm_se1 Z a0' a1' kc h0 n0) 2 4 (s₁.setTop (entryFrame m #[(.ref a0'), (.ref a1')] 2))
  refine goH (fun t k => castTop (ef_rm_se1 m a0' a1') k) ?_
  have KK := Keep.refl h0 [a0']
  have sfA := own_safe (EL := own_EL) (vm := s.vm) hZ.alike EA F_value
  have hS := (State.WarmedH.refl s).since 0
  have hk : 0 ≤ h0.size := Nat.zero_le _
  have wS : ∀ a ∈ Bundle.stringAtoms, a.before a0 Z = true := by
    intro d hd
    simp only [Bundle.stringAtoms, List.mem_cons, List.not_mem_nil, or_false] at hd
    rcases hd with rfl | rfl | rfl | rfl | rfl | rfl | rfl
    · first | exact (hw _ (List.mem_of_getElem? (i := 1) rfl)) | exact (hw _ (List.mem_of_getElem? (i := 2) rfl)) | exact (hw _ (List.mem_of_getElem? (i := 3) rfl)) | exact (hw _ (List.mem_of_getElem? (i := 4) rfl)) | exact (hw _ (List.mem_of_getElem? (i := 5) rfl)) | exact (hw _ (List.mem_of_getElem? (i := 6) rfl)) | exact (hw _ (List.mem_of_getElem? (i := 7) rfl))
    · first | exact (hw _ (List.mem_of_getElem? (i := 1) rfl)) | exact (hw _ (List.mem_of_getElem? (i := 2) rfl)) | exact (hw _ (List.mem_of_getElem? (i := 3) rfl)) | exact (hw _ (List.mem_of_getElem? (i := 4) rfl)) | exact (hw _ (List.mem_of_getElem? (i := 5) rfl)) | exact (hw _ (List.mem_of_getElem? (i := 6) rfl)) | exact (hw _ (List.mem_of_getElem? (i := 7) rfl))
    · first | exact (hw _ (List.mem_of_getElem? (i := 1) rfl)) | exact (hw _ (List.mem_of_getElem? (i := 2) rfl)) | exact (hw _ (List.mem_of_getElem? (i := 3) rfl)) | exact (hw _ (List.mem_of_getElem? (i := 4) rfl)) | exact (hw _ (List.mem_of_getElem? (i := 5) rfl)) | exact (hw _ (List.mem_of_getElem? (i := 6) rfl)) | exact (hw _ (List.mem_of_getElem? (i := 7) rfl))
    · first | exact (hw _ (List.mem_of_getElem? (i := 1) rfl)) | exact (hw _ (List.mem_of_getElem? (i := 2) rfl)) | exact (hw _ (List.mem_of_getElem? (i := 3) rfl)) | exact (hw _ (List.mem_of_getElem? (i := 4) rfl)) | exact (hw _ (List.mem_of_getElem? (i := 5) rfl)) | exact (hw _ (List.mem_of_getElem? (i := 6) rfl)) | exact (hw _ (List.mem_of_getElem? (i := 7) rfl))
    · first | exact (hw _ (List.mem_of_getElem? (i := 1) rfl)) | exact (hw _ (List.mem_of_getElem? (i := 2) rfl)) | exact (hw _ (List.mem_of_getElem? (i := 3) rfl)) | exact (hw _ (List.mem_of_getElem? (i := 4) rfl)) | exact (hw _ (List.mem_of_getElem? (i := 5) rfl)) | exact (hw _ (List.mem_of_getElem? (i := 6) rfl)) | exact (hw _ (List.mem_of_getElem? (i := 7) rfl))
    · first | exact (hw _ (List.mem_of_getElem? (i := 1) rfl)) | exact (hw _ (List.mem_of_getElem? (i := 2) rfl)) | exact (hw _ (List.mem_of_getElem? (i := 3) rfl)) | exact (hw _ (List.mem_of_getElem? (i := 4) rfl)) | exact (hw _ (List.mem_of_getElem? (i := 5) rfl)) | exact (hw _ (List.mem_of_getElem? (i := 6) rfl)) | exact (hw _ (List.mem_of_getElem? (i := 7) rfl))
    · first | exact (hw _ (List.mem_of_getElem? (i := 1) rfl)) | exact (hw _ (List.mem_of_getElem? (i := 2) rfl)) | exact (hw _ (List.mem_of_getElem? (i := 3) rfl)) | exact (hw _ (List.mem_of_getElem? (i := 4) rfl)) | exact (hw _ (List.mem_of_getElem? (i := 5) rfl)) | exact (hw _ (List.mem_of_getElem? (i := 6) rfl)) | exact (hw _ (List.mem_of_getElem? (i := 7) rfl))
  have HC := CHr.refl hH
  show OwnEndH Z own_EL _ _ _ _ _ _ _ (s₁.setTop (mkF m 0 #[.val (.ref a0'), .val (.ref a1')] []))
  refine goH (fun _ k => by refine XS.aloadN X0.here hx rfl (hb hby d_jdk_42_method_3_code_0) rfl rfl ?_; exact k) ?_
  refine goH (fun _ k => by refine XS.aloadN X0.here hx rfl (hb hby d_jdk_42_method_3_code_1) rfl rfl ?_; exact k) ?_
  refine goH (fun _ k => by refine XS.iconst X0.here hx rfl (hb hby d_jdk_42_method_3_code_2) ?_; exact k) ?_
  refine goH (fun _ k => by refine XS.aloadN X0.here hx rfl (hb hby d_jdk_42_method_3_code_3) rfl rfl ?_; exact k) ?_
  show OwnEndH Z own_EL _ _ _ _ _ _ _ (s₁.setTop (mkF m 4 #[.val (.ref a0'), .val (.ref a1')] [(.ref a1'), (.int (0 : Int32)), (.ref a1'), (.ref a0')]))
  refine goH (lenV X0 hx hZ e0 VA (g := (mkF m 4 #[.val (.ref a0'), .val (.ref a1')] [(.ref a1'), (.int (0 : Int32)), (.ref a1'), (.ref a0')])) rfl rfl (hb hby d_jdk_42_method_3_code_4)) ?_
  refine goH (fun _ k => by refine XS.aconstNull X0.here hx rfl (hb hby d_jdk_42_method_3_code_5) ?_; exact k) ?_
  show OwnEndH Z own_EL _ _ _ _ _ _ _ (s₁.setTop (mkF m 6 #[.val (.ref a0'), .val (.ref a1')] [.null, (.int (0 : Int32)), (.int (0 : Int32)), (.ref a1'), (.ref a0')]))
  obtain ⟨_, T1, L1, k1, X1, hQ1, hC1, hS, hk, hZ, hown, st1⟩ := callInitS (vm0 := s.vm) X0 hx hZ hown rfl (hw _ (List.mem_of_getElem? (i := 53) rfl)) (hw _ (List.mem_of_getElem? (i := 54) rfl)) (hw _ (List.mem_of_getElem? (i := 1) rfl)) (hw _ (List.mem_of_getElem? (i := 56) rfl)) (by decide) (rm_se2 l Z a0 hw [] a0' a1' h0 n0 ga EA F_value F_coder hEL) hEL HC hS hk (W := 0) (by decide) (by decide) e0 (g := (mkF m 6 #[.val (.ref a0'), .val (.ref a1')] [.null, (.int (0 : Int32)), (.int (0 : Int32)), (.ref a1'), (.ref a0')])) rfl (by rw [hml]; rfl) (argsL := [(.ref a1'), (.int (0 : Int32)), (.int (0 : Int32)), .null]) (rest := []) rfl (lenOf pd___CIILjava_lang_Void__V rfl) rfl (by show 2 * 0 + _ ≤ _; exact Nat.le_of_eq rfl) (hb hby d_jdk_42_method_3_code_6) (by decide) (by decide)
  obtain ⟨t1, kb1, rfl, Nq1, K1, F_value, F_coder, V_t1⟩ := hQ1
  have N1 := Fr.app N0 Nq1
  have EA := EA.keep K1
  have KK := Keep.trans KK K1 (allS (Or.inl (List.mem_of_getElem? (i := 0) rfl)) all0)
  have HC := HC.trans hC1
  refine goH st1 ?_
  show OwnEndH Z own_EL _ _ _ _ _ _ _ (T1.setTop (mkF m 9 #[.val (.ref a0'), .val (.ref a1')] []))
  refine endVH (vm₁ := T1.vm) X1 hS hk hZ hEL hh HC hx hlk Bd.returns (hb hby d_jdk_42_method_3_code_9) rfl (by decide) (by decide) ?_
  exact ⟨t1, _, rfl, N1, KK, F_value, F_coder, V_t1⟩
theorem d_method_2_code_0 : decode method_2_code 0 = .ok (.iload 4, 2) := by decide +kernel
theorem d_method_2_code_2 : decode method_2_code 2 = .ok (.ifCond .eq 10, 3) := by decide +kernel
theorem d_method_2_code_12 : decode method_2_code 12 = .ok (.iload_n 1, 1) := by decide +kernel
theorem d_method_2_code_13 : decode method_2_code 13 = .ok (.aload_n 0, 1) := by decide +kernel
theorem d_method_2_code_14 : decode method_2_code 14 = .ok (.invokevirtual 7, 3) := by decide +kernel
theorem pd___I : parseMethodDescriptor "()I" = some ⟨[], some .int⟩ := by decide +kernel
theorem d_method_2_code_17 : decode method_2_code 17 = .ok (.if_icmp .ge 9, 3) := by decide +kernel
theorem d_method_2_code_20 : decode method_2_code 20 = .ok (.aload_n 0, 1) := by decide +kernel
theorem d_method_2_code_21 : decode method_2_code 21 = .ok (.iload_n 1, 1) := by decide +kernel
theorem d_method_2_code_22 : decode method_2_code 22 = .ok (.invokevirtual 13, 3) := by decide +kernel
theorem pd__I_C : parseMethodDescriptor "(I)C" = some ⟨[.int], some .char⟩ := by decide +kernel
theorem d_method_2_code_25 : decode method_2_code 25 = .ok (.ireturn, 1) := by decide +kernel
theorem d_method_2_code_26 : decode method_2_code 26 = .ok (.iload_n 3, 1) := by decide +kernel
theorem d_method_2_code_27 : decode method_2_code 27 = .ok (.ireturn, 1) := by decide +kernel
theorem d_method_2_code_5 : decode method_2_code 5 = .ok (.iload_n 1, 1) := by decide +kernel
theorem d_method_2_code_6 : decode method_2_code 6 = .ok (.iload_n 2, 1) := by decide +kernel
theorem d_method_2_code_7 : decode method_2_code 7 = .ok (.if_icmp .ne 5, 3) := by decide +kernel
theorem d_method_2_code_10 : decode method_2_code 10 = .ok (.iload_n 3, 1) := by decide +kernel
theorem d_method_2_code_11 : decode method_2_code 11 = .ok (.ireturn, 1) := by decide +kernel
theorem pn_com_example_minder_minder_model_ClockValueOfPinLaw : plainName "com/example/minder/minder/model/ClockValueOfPinLaw" = true := by first | (simp [plainName, overriddenIn]; done) | decide +kernel
theorem ef_rm_pick (m : MethodId) (y0 : Addr) (y2 : Int32) (y3 : Int32) (y4 : Int32) : entryFrame m #[(.ref y0), (.int (Int32.ofNat ii)), (.int y2), (.int y3), (.int y4)] 5 = mkF m 0 #[.val (.ref y0), .val (.int (Int32.ofNat ii)), .val (.int y2), .val (.int y3), .val (.int y4)] [] := by first | (simp [entryFrame, mkF, argsToLocals, Value.category]; done) | rfl
def Q_rm_pick (Z : State) (b : Addr) (p2 : Int32) (p3 : Int32) (p4 : Int32) (ii : Nat) (t : Addr) (kb : ClassId) (bs : List Int32) (cs : Int32) (fm : Value) (h0 : Heap) (n0 : Nat) (v : Option Value) (h : Heap) (L : List Loc) : Prop := ∃ c, v = some (.int c) ∧ (¬ c < 0 ∧ ¬ (255 : Int32) < c) ∧ Fr n0 L ∧ h = h0
set_option maxRecDepth 65536 in
set_option maxHeartbeats 40000000 in
theorem rm_pick (l : Launch) (Z : State) (a0 : Array Value) (hw : ∀ d ∈ tables_1, d.before a0 Z = true) (ws : List Jvm.Cond) (b : Addr) (p2 : Int32) (p3 : Int32) (p4 : Int32) (ii : Nat) (t : Addr) (kb : ClassId) (bs : List Int32) (cs : Int32) (fm : Value) (h0 : Heap) (n0 : Nat) (hii : ii ≤ 9) (hp3 : ¬ p3 < 0 ∧ ¬ (255 : Int32) < p3) (hbs : ∀ c ∈ bs, ¬ c < 0 ∧ ¬ (255 : Int32) < c) (lbs : bs.length ≤ 9) (EB : Exa Z h0 b "java/lang/String") (VB : Fld Z h0 b "java/lang/String" "value" "[B" (.ref t)) (DB : Fld Z h0 b "java/lang/String" "coder" "B" (.int 0)) (AB : Arv Z h0 t kb .byte (Int32.ofNat bs.length) (own_vs bs) (.int 0)) (O : Old Z n0 h0) (SC0 : Sta Z Z.heap "java/lang/String" "COMPACT_STRINGS" "Z" (.int cs)) (c1 : ¬ cs = (0 : Int32)) (SF0 : Sta Z Z.heap "jdk/internal/util/Preconditions" "SIOOBE_FORMATTER" "Ljava/util/function/BiFunction;" fm) (rf : fm.isRef = true) :
    MetFree l (⟨"com/example/minder/minder/model/ClockValueOfPinLaw", "pick", "(Ljava/lang/String;IICZ)C"⟩ : MethodName) (head1 (Jvm.Cond.code (⟨"com/example/minder/minder/model/ClockValueOfPinLaw", "pick", "(Ljava/lang/String;IICZ)C"⟩ : MethodName) method_2_code 5 (some .char) :: ws) ({ frames := 4, cells := 0, slots := 0, locals := 53 } : Room)) (fun a U => a = #[(.ref b), (.int (Int32.ofNat ii)), (.int p2), (.int p3), (.int p4)] ∧ Z.Warmed39 U.vm ∧ U.heap = h0) (fun _ _ _ _ _ => True) (fun _ U o U' => ∃ v L, o = .returned v ∧ Q_rm_pick Z b p2 p3 p4 ii t kb bs cs fm h0 n0 v U'.heap L ∧ FrameEnd U o U' L 0 0) := by
  refine MetFree.of_bodySF (plainFor_of_name pn_com_example_minder_minder_model_ClockValueOfPinLaw) hisR ?_
  intro p e s m args below meth c s₁ Bd hml0 hP hK
  obtain ⟨rfl, hZ, hh⟩ := hP
  have hx := Bd.exec
  have hby := Bd.bytes
  have hlk := Bd.notSynchronized
  have hml : c.maxLocals = 5 := hml0
  have hown : s.vm.findClass "com/example/minder/minder/model/ClockValueOfPinLaw" = some m.cls := findClass_of_methodNamed Bd.named
  have hnm := (name_of_methodNamed Bd.named Bd.method).1
  have X0 : Stand p l e ({ frames := 4, cells := 0, slots := 0, locals := 53 } : Room) s m #[(.ref b), (.int (Int32.ofNat ii)), (.int p2), (.int p3), (.int p4)] below meth c s₁ [] 0 0 := Stand.of_body Bd
  have e0 : s₁.heap = h0 := by rw [← hh, Bd.state]; rfl
  have N0 := Fr.nil n0
  show OwnEnd p e below s (Q_rm_pick Z b p2 p3 p4 ii t kb bs cs fm h0 n0) 0 0 (s₁.setTop (entryFrame m #[(.ref b), (.int (Int32.ofNat ii)), (.int p2), (.int p3), (.int p4)] 5))
  refine go (fun t k => castTop (ef_rm_pick m b p2 p3 p4) k) ?_
  show OwnEnd _ _ _ _ _ _ _ (s₁.setTop (mkF m 0 (fL1 b (Int32.ofNat ii) p2 p3 p4) []))
  refine go (fun _ k => by refine XS.iload X0.here hx rfl (hb hby d_method_2_code_0) rfl ?_; exact k) ?_
  show OwnEnd _ _ _ _ _ _ _ (s₁.setTop (mkF m 2 (fL1 b (Int32.ofNat ii) p2 p3 p4) [(.int p4)]))
  by_cases hc2_1 : p4 = (0 : Int32)
  · refine go (fun _ k => by refine XS.ifYes X0.here hx rfl (pc0 := 2) (pc' := 12) rfl (hb hby d_method_2_code_2) rfl ((if0 _ _).trans (teq hc2_1).1) (by decide) (by decide) ?_; exact k) ?_
    show OwnEnd _ _ _ _ _ _ _ (s₁.setTop (mkF m 12 (fL1 b (Int32.ofNat ii) p2 p3 p4) []))
    refine go (fun _ k => by refine XS.iloadN X0.here hx rfl (hb hby d_method_2_code_12) rfl ?_; exact k) ?_
    refine go (fun _ k => by refine XS.aloadN X0.here hx rfl (hb hby d_method_2_code_13) rfl rfl ?_; exact k) ?_
    show OwnEnd _ _ _ _ _ _ _ (s₁.setTop (mkF m 14 (fL1 b (Int32.ofNat ii) p2 p3 p4) [(.ref b), (.int (Int32.ofNat ii))]))
    obtain ⟨_, T2, L2, X2, hQ2, st2⟩ := callVirtB X0 hx hZ hown (hw _ (List.mem_of_getElem? (i := 9) rfl)) (hw _ (List.mem_of_getElem? (i := 10) rfl)) (notFace_of_selects (args := #[]) (mvT hZ (hw _ (List.mem_of_getElem? (i := 12) rfl)))) (hw _ (List.mem_of_getElem? (i := 12) rfl)) (hw _ (List.mem_of_getElem? (i := 11) rfl)) (by decide) (Qc := fun v hp L => v = some (.int (Int32.ofNat bs.length)) ∧ L = [] ∧ hp = h0) (StrChars.Road.lenW (W := 1) hZ (fun d hd => hw d ((by decide +kernel : ∀ d ∈ StrChars.Road.wordsLen, d ∈ tables_1) d hd)) (kI := 4) (hw _ (List.mem_of_getElem? (i := 2) rfl)) EB VB DB AB (StrChars.Road.codOf rfl (fun c hc => (hbs c hc).2)) (own_up _ hbs) (SC0.ext O.2) c1 (Nat.le_trans lbs (by decide)) (by decide) (by decide)) e0 EB (g := (mkF m 14 (fL1 b (Int32.ofNat ii) p2 p3 p4) [(.ref b), (.int (Int32.ofNat ii))])) rfl (by rw [hml]; rfl) (argsL := []) (rest := [(.int (Int32.ofNat ii))]) rfl (lenOf pd___I rfl) rfl (by show 2 * 0 + _ ≤ _; exact Nat.le_of_eq rfl) (hb hby d_method_2_code_14) (by decide) (by decide)
    obtain ⟨hv2, rfl, eq2⟩ := hQ2
    obtain rfl := hv2
    rw [List.append_nil] at X2
    refine go st2 ?_
    show OwnEnd _ _ _ _ _ _ _ (T2.setTop (mkF m 17 (fL1 b (Int32.ofNat ii) p2 p3 p4) [(.int (Int32.ofNat bs.length)), (.int (Int32.ofNat ii))]))
    by_cases hc17_3 : (Int32.ofNat ii) < (Int32.ofNat bs.length)
    · refine go (fun _ k => by refine XS.icmpNo X2.here hx rfl (hb hby d_method_2_code_17) rfl (tlt hc17_3).2.1 ?_; exact k) ?_
      show OwnEnd _ _ _ _ _ _ _ (T2.setTop (mkF m 20 (fL1 b (Int32.ofNat ii) p2 p3 p4) []))
      refine go (fun _ k => by refine XS.aloadN X2.here hx rfl (hb hby d_method_2_code_20) rfl rfl ?_; exact k) ?_
      refine go (fun _ k => by refine XS.iloadN X2.here hx rfl (hb hby d_method_2_code_21) rfl ?_; exact k) ?_
      show OwnEnd _ _ _ _ _ _ _ (T2.setTop (mkF m 22 (fL1 b (Int32.ofNat ii) p2 p3 p4) [(.int (Int32.ofNat ii)), (.ref b)]))
      obtain ⟨_, T4, L4, X4, hQ4, st4⟩ := callVirtB X2 hx hZ hown (hw _ (List.mem_of_getElem? (i := 27) rfl)) (hw _ (List.mem_of_getElem? (i := 28) rfl)) (notFace_of_selects (args := #[]) (mvT hZ (hw _ (List.mem_of_getElem? (i := 30) rfl)))) (hw _ (List.mem_of_getElem? (i := 30) rfl)) (hw _ (List.mem_of_getElem? (i := 29) rfl)) (by decide) (Qc := fun v hp L => v = some (.int (bs.getD ii 0)) ∧ L = [] ∧ hp = h0) (StrChars.Road.chN (W := 0) hZ (fun d hd => hw d ((by decide +kernel : ∀ d ∈ StrChars.Road.wordsChN, d ∈ tables_1) d hd)) (kI := 4) (hw _ (List.mem_of_getElem? (i := 2) rfl)) EB VB DB AB (StrChars.Road.codOf rfl (fun c hc => (hbs c hc).2)) (own_up _ hbs) (SC0.ext O.2) c1 (SF0.ext O.2) rf (Nat.le_trans lbs (by decide)) (own_ix hii lbs hc17_3) rfl (by decide) (by decide)) eq2 EB (g := (mkF m 22 (fL1 b (Int32.ofNat ii) p2 p3 p4) [(.int (Int32.ofNat ii)), (.ref b)])) rfl (by rw [hml]; rfl) (argsL := [(.int (Int32.ofNat ii))]) (rest := []) rfl (lenOf pd__I_C rfl) rfl (by show 2 * 0 + _ ≤ _; exact Nat.le_of_eq rfl) (hb hby d_method_2_code_22) (by decide) (by decide)
      obtain ⟨hv4, rfl, eq4⟩ := hQ4
      obtain rfl := hv4
      rw [List.append_nil] at X4
      refine go st4 ?_
      show OwnEnd _ _ _ _ _ _ _ (T4.setTop (mkF m 25 (fL1 b (Int32.ofNat ii) p2 p3 p4) [(.int (bs.getD ii 0))]))
      refine endN X4 hx hlk (t := .char) (by simp) Bd.returns (hb hby d_method_2_code_25) eq4 (by decide) (by decide) ?_
      exact ⟨_, by rw [own_narc (own_getr hbs)], own_getr hbs, N0, rfl⟩
    · refine go (fun _ k => by refine XS.icmpYes X2.here hx rfl (pc0 := 17) (pc' := 26) rfl (hb hby d_method_2_code_17) rfl (flt hc17_3).2.1 (by decide) (by decide) ?_; exact k) ?_
      show OwnEnd _ _ _ _ _ _ _ (T2.setTop (mkF m 26 (fL1 b (Int32.ofNat ii) p2 p3 p4) []))
      refine go (fun _ k => by refine XS.iloadN X2.here hx rfl (hb hby d_method_2_code_26) rfl ?_; exact k) ?_
      show OwnEnd _ _ _ _ _ _ _ (T2.setTop (mkF m 27 (fL1 b (Int32.ofNat ii) p2 p3 p4) [(.int p3)]))
      refine endN X2 hx hlk (t := .char) (by simp) Bd.returns (hb hby d_method_2_code_27) eq2 (by decide) (by decide) ?_
      exact ⟨p3, by rw [own_narc hp3], hp3, N0, rfl⟩
  · refine go (fun _ k => by refine XS.ifNo X0.here hx rfl (hb hby d_method_2_code_2) rfl ((if0 _ _).trans (feq hc2_1).1) ?_; exact k) ?_
    show OwnEnd _ _ _ _ _ _ _ (s₁.setTop (mkF m 5 (fL1 b (Int32.ofNat ii) p2 p3 p4) []))
    refine go (fun _ k => by refine XS.iloadN X0.here hx rfl (hb hby d_method_2_code_5) rfl ?_; exact k) ?_
    refine go (fun _ k => by refine XS.iloadN X0.here hx rfl (hb hby d_method_2_code_6) rfl ?_; exact k) ?_
    show OwnEnd _ _ _ _ _ _ _ (s₁.setTop (mkF m 7 (fL1 b (Int32.ofNat ii) p2 p3 p4) [(.int p2), (.int (Int32.ofNat ii))]))
    by_cases hc7_5 : (Int32.ofNat ii) = p2
    · refine go (fun _ k => by refine XS.icmpNo X0.here hx rfl (hb hby d_method_2_code_7) rfl (teq hc7_5).2 ?_; exact k) ?_
      show OwnEnd _ _ _ _ _ _ _ (s₁.setTop (mkF m 10 (fL1 b (Int32.ofNat ii) p2 p3 p4) []))
      refine go (fun _ k => by refine XS.iloadN X0.here hx rfl (hb hby d_method_2_code_10) rfl ?_; exact k) ?_
      show OwnEnd _ _ _ _ _ _ _ (s₁.setTop (mkF m 11 (fL1 b (Int32.ofNat ii) p2 p3 p4) [(.int p3)]))
      refine endN X0 hx hlk (t := .char) (by simp) Bd.returns (hb hby d_method_2_code_11) e0 (by decide) (by decide) ?_
      exact ⟨p3, by rw [own_narc hp3], hp3, N0, rfl⟩
    · refine go (fun _ k => by refine XS.icmpYes X0.here hx rfl (pc0 := 7) (pc' := 12) rfl (hb hby d_method_2_code_7) rfl (feq hc7_5).2 (by decide) (by decide) ?_; exact k) ?_
      show OwnEnd _ _ _ _ _ _ _ (s₁.setTop (mkF m 12 (fL1 b (Int32.ofNat ii) p2 p3 p4) []))
      refine go (fun _ k => by refine XS.iloadN X0.here hx rfl (hb hby d_method_2_code_12) rfl ?_; exact k) ?_
      refine go (fun _ k => by refine XS.aloadN X0.here hx rfl (hb hby d_method_2_code_13) rfl rfl ?_; exact k) ?_
      show OwnEnd _ _ _ _ _ _ _ (s₁.setTop (mkF m 14 (fL1 b (Int32.ofNat ii) p2 p3 p4) [(.ref b), (.int (Int32.ofNat ii))]))
      obtain ⟨_, T6, L6, X6, hQ6, st6⟩ := callVirtB X0 hx hZ hown (hw _ (List.mem_of_getElem? (i := 9) rfl)) (hw _ (List.mem_of_getElem? (i := 10) rfl)) (notFace_of_selects (args := #[]) (mvT hZ (hw _ (List.mem_of_getElem? (i := 12) rfl)))) (hw _ (List.mem_of_getElem? (i := 12) rfl)) (hw _ (List.mem_of_getElem? (i := 11) rfl)) (by decide) (Qc := fun v hp L => v = some (.int (Int32.ofNat bs.length)) ∧ L = [] ∧ hp = h0) (StrChars.Road.lenW (W := 1) hZ (fun d hd => hw d ((by decide +kernel : ∀ d ∈ StrChars.Road.wordsLen, d ∈ tables_1) d hd)) (kI := 4) (hw _ (List.mem_of_getElem? (i := 2) rfl)) EB VB DB AB (StrChars.Road.codOf rfl (fun c hc => (hbs c hc).2)) (own_up _ hbs) (SC0.ext O.2) c1 (Nat.le_trans lbs (by decide)) (by decide) (by decide)) e0 EB (g := (mkF m 14 (fL1 b (Int32.ofNat ii) p2 p3 p4) [(.ref b), (.int (Int32.ofNat ii))])) rfl (by rw [hml]; rfl) (argsL := []) (rest := [(.int (Int32.ofNat ii))]) rfl (lenOf pd___I rfl) rfl (by show 2 * 0 + _ ≤ _; exact Nat.le_of_eq rfl) (hb hby d_method_2_code_14) (by decide) (by decide)
      obtain ⟨hv6, rfl, eq6⟩ := hQ6
      obtain rfl := hv6
      rw [List.append_nil] at X6
      refine go st6 ?_
      show OwnEnd _ _ _ _ _ _ _ (T6.setTop (mkF m 17 (fL1 b (Int32.ofNat ii) p2 p3 p4) [(.int (Int32.ofNat bs.length)), (.int (Int32.ofNat ii))]))
      by_cases hc17_7 : (Int32.ofNat ii) < (Int32.ofNat bs.length)
      · refine go (fun _ k => by refine XS.icmpNo X6.here hx rfl (hb hby d_method_2_code_17) rfl (tlt hc17_7).2.1 ?_; exact k) ?_
        show OwnEnd _ _ _ _ _ _ _ (T6.setTop (mkF m 20 (fL1 b (Int32.ofNat ii) p2 p3 p4) []))
        refine go (fun _ k => by refine XS.aloadN X6.here hx rfl (hb hby d_method_2_code_20) rfl rfl ?_; exact k) ?_
        refine go (fun _ k => by refine XS.iloadN X6.here hx rfl (hb hby d_method_2_code_21) rfl ?_; exact k) ?_
        show OwnEnd _ _ _ _ _ _ _ (T6.setTop (mkF m 22 (fL1 b (Int32.ofNat ii) p2 p3 p4) [(.int (Int32.ofNat ii)), (.ref b)]))
        obtain ⟨_, T8, L8, X8, hQ8, st8⟩ := callVirtB X6 hx hZ hown (hw _ (List.mem_of_getElem? (i := 27) rfl)) (hw _ (List.mem_of_getElem? (i := 28) rfl)) (notFace_of_selects (args := #[]) (mvT hZ (hw _ (List.mem_of_getElem? (i := 30) rfl)))) (hw _ (List.mem_of_getElem? (i := 30) rfl)) (hw _ (List.mem_of_getElem? (i := 29) rfl)) (by decide) (Qc := fun v hp L => v = some (.int (bs.getD ii 0)) ∧ L = [] ∧ hp = h0) (StrChars.Road.chN (W := 0) hZ (fun d hd => hw d ((by decide +kernel : ∀ d ∈ StrChars.Road.wordsChN, d ∈ tables_1) d hd)) (kI := 4) (hw _ (List.mem_of_getElem? (i := 2) rfl)) EB VB DB AB (StrChars.Road.codOf rfl (fun c hc => (hbs c hc).2)) (own_up _ hbs) (SC0.ext O.2) c1 (SF0.ext O.2) rf (Nat.le_trans lbs (by decide)) (own_ix hii lbs hc17_7) rfl (by decide) (by decide)) eq6 EB (g := (mkF m 22 (fL1 b (Int32.ofNat ii) p2 p3 p4) [(.int (Int32.ofNat ii)), (.ref b)])) rfl (by rw [hml]; rfl) (argsL := [(.int (Int32.ofNat ii))]) (rest := []) rfl (lenOf pd__I_C rfl) rfl (by show 2 * 0 + _ ≤ _; exact Nat.le_of_eq rfl) (hb hby d_method_2_code_22) (by decide) (by decide)
        obtain ⟨hv8, rfl, eq8⟩ := hQ8
        obtain rfl := hv8
        rw [List.append_nil] at X8
        refine go st8 ?_
        show OwnEnd _ _ _ _ _ _ _ (T8.setTop (mkF m 25 (fL1 b (Int32.ofNat ii) p2 p3 p4) [(.int (bs.getD ii 0))]))
        refine endN X8 hx hlk (t := .char) (by simp) Bd.returns (hb hby d_method_2_code_25) eq8 (by decide) (by decide) ?_
        exact ⟨_, by rw [own_narc (own_getr hbs)], own_getr hbs, N0, rfl⟩
      · refine go (fun _ k => by refine XS.icmpYes X6.here hx rfl (pc0 := 17) (pc' := 26) rfl (hb hby d_method_2_code_17) rfl (flt hc17_7).2.1 (by decide) (by decide) ?_; exact k) ?_
        show OwnEnd _ _ _ _ _ _ _ (T6.setTop (mkF m 26 (fL1 b (Int32.ofNat ii) p2 p3 p4) []))
        refine go (fun _ k => by refine XS.iloadN X6.here hx rfl (hb hby d_method_2_code_26) rfl ?_; exact k) ?_
        show OwnEnd _ _ _ _ _ _ _ (T6.setTop (mkF m 27 (fL1 b (Int32.ofNat ii) p2 p3 p4) [(.int p3)]))
        refine endN X6 hx hlk (t := .char) (by simp) Bd.returns (hb hby d_method_2_code_27) eq6 (by decide) (by decide) ?_
        exact ⟨p3, by rw [own_narc hp3], hp3, N0, rfl⟩
theorem d_prog_21_method_1_code_0 : decode prog_21_method_1_code 0 = .ok (.getstatic 13, 3) := by decide +kernel
theorem d_prog_21_method_1_code_3 : decode prog_21_method_1_code 3 = .ok (.invokevirtual 17, 3) := by decide +kernel
theorem d_prog_21_method_1_code_6 : decode prog_21_method_1_code 6 = .ok (.checkcast 18, 3) := by decide +kernel
theorem d_prog_21_method_1_code_9 : decode prog_21_method_1_code 9 = .ok (.areturn, 1) := by decide +kernel
theorem pn_com_example_minder_minder_model_ClockValue : plainName "com/example/minder/minder/model/ClockValue" = true := by first | (simp [plainName, overriddenIn]; done) | decide +kernel
theorem ef_rm_val (m : MethodId)  : entryFrame m #[] 0 = mkF m 0 #[] [] := by first | (simp [entryFrame, mkF, argsToLocals, Value.category]; done) | rfl
def Q_rm_val (Z : State) (va : Addr) (vk : ClassId) (w0 : Addr) (w1 : Addr) (w2 : Addr) (h0 : Heap) (n0 : Nat) (v : Option Value) (h : Heap) (L : List Loc) : Prop := ∃ b k, v = some (.ref b) ∧ Fr n0 L ∧ Keep h0 h [] ∧ Arv Z h b k (.object "com/example/minder/minder/model/ClockValue") 3 [.ref w0, .ref w1, .ref w2] .null
set_option maxRecDepth 65536 in
set_option maxHeartbeats 40000000 in
theorem rm_val (l : Launch) (Z : State) (a0 : Array Value) (hw : ∀ d ∈ tables_1, d.before a0 Z = true) (ws : List Jvm.Cond) (va : Addr) (vk : ClassId) (w0 : Addr) (w1 : Addr) (w2 : Addr) (h0 : Heap) (n0 : Nat) (Z0 : n0 ≤ h0.size) (O : Old Z n0 h0) (SV : Sta Z Z.heap "com/example/minder/minder/model/ClockValue" "$VALUES" "[Lcom/example/minder/minder/model/ClockValue;" (.ref va)) (VV : Arv Z Z.heap va vk (.object "com/example/minder/minder/model/ClockValue") 3 [.ref w0, .ref w1, .ref w2] .null) (EV : Exa Z Z.heap va "[Lcom/example/minder/minder/model/ClockValue;") :
    MetFree l (⟨"com/example/minder/minder/model/ClockValue", "values", "()[Lcom/example/minder/minder/model/ClockValue;"⟩ : MethodName) (head1 (Jvm.Cond.code (⟨"com/example/minder/minder/model/ClockValue", "values", "()[Lcom/example/minder/minder/model/ClockValue;"⟩ : MethodName) prog_21_method_1_code 0 (some (.array (.object "com/example/minder/minder/model/ClockValue"))) :: ws) ({ frames := 1, cells := 1, slots := 3, locals := 14 } : Room)) (fun a U => a = #[] ∧ Z.Warmed39 U.vm ∧ U.heap = h0) (fun _ _ _ _ _ => True) (fun _ U o U' => ∃ v L, o = .returned v ∧ Q_rm_val Z va vk w0 w1 w2 h0 n0 v U'.heap L ∧ FrameEnd U o U' L 1 3) := by
  refine MetFree.of_bodySF (plainFor_of_name pn_com_example_minder_minder_model_ClockValue) hisR ?_
  intro p e s m args below meth c s₁ Bd hml0 hP hK
  obtain ⟨rfl, hZ, hh⟩ := hP
  have hx := Bd.exec
  have hby := Bd.bytes
  have hlk := Bd.notSynchronized
  have hml : c.maxLocals = 0 := hml0
  have hown : s.vm.findClass "com/example/minder/minder/model/ClockValue" = some m.cls := findClass_of_methodNamed Bd.named
  have hnm := (name_of_methodNamed Bd.named Bd.method).1
  have X0 : Stand p l e ({ frames := 1, cells := 1, slots := 3, locals := 14 } : Room) s m #[] below meth c s₁ [] 0 0 := Stand.of_body Bd
  have e0 : s₁.heap = h0 := by rw [← hh, Bd.state]; rfl
  have N0 := Fr.nil n0
  show OwnEnd p e below s (Q_rm_val Z va vk w0 w1 w2 h0 n0) 1 3 (s₁.setTop (entryFrame m #[] 0))
  refine go (fun t k => castTop (ef_rm_val m ) k) ?_
  have KK := Keep.refl h0 []
  have SV1 := SV.ext O.2
  have VV1 := VV.ext O.2
  have EV1 := EV.ext O.2
  show OwnEnd _ _ _ _ _ _ _ (s₁.setTop (mkF m 0 #[] []))
  obtain ⟨T1, X1, e1, st1⟩ := getS2 X0 hx hZ hown (host := "") (Or.inl (hw _ (List.mem_of_getElem? (i := 88) rfl))) Via.refl e0 SV1 (g := (mkF m 0 #[] [])) rfl (hb hby d_prog_21_method_1_code_0)
  refine go st1 ?_
  show OwnEnd _ _ _ _ _ _ _ (T1.setTop (mkF m 3 #[] [(.ref va)]))
  obtain ⟨T2, h2, X2, e2, E2, A2, XA2, st2⟩ := cloneV X1 hx hZ hown (hw _ (List.mem_of_getElem? (i := 90) rfl)) (hw _ (List.mem_of_getElem? (i := 91) rfl)) (hw _ (List.mem_of_getElem? (i := 95) rfl)) (hw _ (List.mem_of_getElem? (i := 93) rfl)) (hw _ (List.mem_of_getElem? (i := 94) rfl)) (hw _ (List.mem_of_getElem? (i := 96) rfl)) e1 VV1 EV1 (g := (mkF m 3 #[] [(.ref va)])) rfl (by rw [hml]; rfl) rfl (hb hby d_prog_21_method_1_code_3) (by decide) (W := 0) (cap := 3) (by show 2 * 0 + _ ≤ _; exact Nat.le_of_eq rfl) (by decide) (by decide) (by decide) (by decide)
  obtain ⟨b2, g2⟩ : ∃ z, z = h0.size := ⟨_, rfl⟩
  rw [← g2] at A2 XA2 st2
  have ne_va_b2 : va ≠ b2 := fun q => absurd VV1.lt (by rw [q, g2]; exact Nat.lt_irrefl _)
  have g_b2 : n0 ≤ b2 := Nat.le_trans Z0 (Nat.le_of_eq g2.symm)
  have sz_b2 : h0.size ≤ b2 := Nat.le_trans KK.1 (Nat.le_of_eq g2.symm)
  have Z0 := Nat.le_trans Z0 E2.1
  have KK := Keep.ext KK E2
  have SV1 := SV1.ext E2
  have VV1 := VV1.ext E2
  have EV1 := EV1.ext E2
  have V_b2 := A2
  have E_b2 := XA2
  refine go st2 ?_
  show OwnEnd _ _ _ _ _ _ _ (T2.setTop (mkF m 6 #[] [(.ref b2)]))
  obtain ⟨T3, X3, e3, st3⟩ := castY X2 hx hZ hown (hw _ (List.mem_of_getElem? (i := 100) rfl)) e2 (Ins.self E_b2) (g := (mkF m 6 #[] [(.ref b2)])) rfl rfl (hb hby d_prog_21_method_1_code_6)
  refine go st3 ?_
  show OwnEnd _ _ _ _ _ _ _ (T3.setTop (mkF m 9 #[] [(.ref b2)]))
  refine endA X3 hx hlk Bd.returns rfl rfl (hb hby d_prog_21_method_1_code_9) e3 (by decide) (by decide) ?_
  exact ⟨b2, _, rfl, N0, KK, V_b2⟩
theorem d_jdk_42_method_66_code_0 : decode jdk_42_method_66_code 0 = .ok (.aload_n 0, 1) := by decide +kernel
theorem d_jdk_42_method_66_code_1 : decode jdk_42_method_66_code 1 = .ok (.aload_n 1, 1) := by decide +kernel
theorem d_jdk_42_method_66_code_2 : decode jdk_42_method_66_code 2 = .ok (.if_acmp .ne 5, 3) := by decide +kernel
theorem d_jdk_42_method_66_code_7 : decode jdk_42_method_66_code 7 = .ok (.aload_n 1, 1) := by decide +kernel
theorem d_jdk_42_method_66_code_8 : decode jdk_42_method_66_code 8 = .ok (.instanceof 10, 3) := by decide +kernel
theorem d_jdk_42_method_66_code_11 : decode jdk_42_method_66_code 11 = .ok (.ifCond .eq 43, 3) := by decide +kernel
theorem d_jdk_42_method_66_code_54 : decode jdk_42_method_66_code 54 = .ok (.iconst 0, 1) := by decide +kernel
theorem d_jdk_42_method_66_code_55 : decode jdk_42_method_66_code 55 = .ok (.ireturn, 1) := by decide +kernel
theorem ef_rm_eqn (m : MethodId) (y0 : Addr) : entryFrame m #[(.ref y0), .null] 3 = mkF m 0 #[.val (.ref y0), .val .null, .unset] [] := by first | (simp [entryFrame, mkF, argsToLocals, Value.category]; done) | rfl
def Q_rm_eqn (Z : State) (a0' : Addr) (h0 : Heap) (n0 : Nat) (v : Option Value) (h : Heap) (L : List Loc) : Prop := v = some (.int 0) ∧ Fr n0 L ∧ h = h0
set_option maxRecDepth 65536 in
set_option maxHeartbeats 40000000 in
theorem rm_eqn (l : Launch) (Z : State) (a0 : Array Value) (hw : ∀ d ∈ tables_1, d.before a0 Z = true) (ws : List Jvm.Cond) (a0' : Addr) (h0 : Heap) (n0 : Nat) :
    MetFree l (⟨"java/lang/String", "equals", "(Ljava/lang/Object;)Z"⟩ : MethodName) (head1 (Jvm.Cond.code (⟨"java/lang/String", "equals", "(Ljava/lang/Object;)Z"⟩ : MethodName) jdk_42_method_66_code 3 (some .boolean) :: ws) ({ frames := 0, cells := 0, slots := 0, locals := 0 } : Room)) (fun a U => a = #[(.ref a0'), .null] ∧ Z.Warmed39 U.vm ∧ U.heap = h0) (fun _ _ _ _ _ => True) (fun _ U o U' => ∃ v L, o = .returned v ∧ Q_rm_eqn Z a0' h0 n0 v U'.heap L ∧ FrameEnd U o U' L 0 0) := by
  refine MetFree.of_bodySF (plainFor_of_name pn_java_lang_String) hisR ?_
  intro p e s m args below meth c s₁ Bd hml0 hP hK
  obtain ⟨rfl, hZ, hh⟩ := hP
  have hx := Bd.exec
  have hby := Bd.bytes
  have hlk := Bd.notSynchronized
  have hml : c.maxLocals = 3 := hml0
  have hown : s.vm.findClass "java/lang/String" = some m.cls := findClass_of_methodNamed Bd.named
  have hnm := (name_of_methodNamed Bd.named Bd.method).1
  have X0 : Stand p l e ({ frames := 0, cells := 0, slots := 0, locals := 0 } : Room) s m #[(.ref a0'), .null] below meth c s₁ [] 0 0 := Stand.of_body Bd
  have e0 : s₁.heap = h0 := by rw [← hh, Bd.state]; rfl
  have N0 := Fr.nil n0
  show OwnEnd p e below s (Q_rm_eqn Z a0' h0 n0) 0 0 (s₁.setTop (entryFrame m #[(.ref a0'), .null] 3))
  refine go (fun t k => castTop (ef_rm_eqn m a0') k) ?_
  show OwnEnd _ _ _ _ _ _ _ (s₁.setTop (mkF m 0 #[.val (.ref a0'), .val .null, .unset] []))
  refine go (fun _ k => by refine XS.aloadN X0.here hx rfl (hb hby d_jdk_42_method_66_code_0) rfl rfl ?_; exact k) ?_
  refine go (fun _ k => by refine XS.aloadN X0.here hx rfl (hb hby d_jdk_42_method_66_code_1) rfl rfl ?_; exact k) ?_
  show OwnEnd _ _ _ _ _ _ _ (s₁.setTop (mkF m 2 #[.val (.ref a0'), .val .null, .unset] [.null, (.ref a0')]))
  refine go (fun t k => Jvm.RoadKit.acmp (g := (mkF m 2 #[.val (.ref a0'), .val .null, .unset] [.null, (.ref a0')])) X0 hx rfl rfl rfl (pc0 := 2) (pc' := 7) (same := false) rfl (hb hby d_jdk_42_method_66_code_2) rfl (decide_eq_false nofun) (by decide) (by decide) k) ?_
  refine go (fun _ k => by refine XS.aloadN X0.here hx rfl (hb hby d_jdk_42_method_66_code_7) rfl rfl ?_; exact k) ?_
  show OwnEnd _ _ _ _ _ _ _ (s₁.setTop (mkF m 8 #[.val (.ref a0'), .val .null, .unset] [.null]))
  refine go (X0.instanceofNull hx (g := (mkF m 8 #[.val (.ref a0'), .val .null, .unset] [.null])) rfl rfl (hb hby d_jdk_42_method_66_code_8)) ?_
  show OwnEnd _ _ _ _ _ _ _ (s₁.setTop (mkF m 11 #[.val (.ref a0'), .val .null, .unset] [(.int (0 : Int32))]))
  refine go (fun _ k => by refine XS.ifYes X0.here hx rfl (pc0 := 11) (pc' := 54) rfl (hb hby d_jdk_42_method_66_code_11) rfl ((if0 _ _).trans (teq (by decide)).1) (by decide) (by decide) ?_; exact k) ?_
  refine go (fun _ k => by refine XS.iconst X0.here hx rfl (hb hby d_jdk_42_method_66_code_54) ?_; exact k) ?_
  show OwnEnd _ _ _ _ _ _ _ (s₁.setTop (mkF m 55 #[.val (.ref a0'), .val .null, .unset] [(.int (0 : Int32))]))
  refine endN X0 hx hlk (t := .boolean) (by simp) Bd.returns (hb hby d_jdk_42_method_66_code_55) e0 (by decide) (by decide) ?_
  exact ⟨rfl, N0, rfl⟩
theorem d_prog_21_method_4_code_0 : decode prog_21_method_4_code 0 = .ok (.invokestatic 36, 3) := by decide +kernel
theorem pd____Lcom_example_minder_minder_model_ClockValue_ : parseMethodDescriptor "()[Lcom/example/minder/minder/model/ClockValue;" = some ⟨[], some (.array (.object "com/example/minder/minder/model/ClockValue"))⟩ := by decide +kernel
theorem d_prog_21_method_4_code_3 : decode prog_21_method_4_code 3 = .ok (.astore_n 1, 1) := by decide +kernel
theorem d_prog_21_method_4_code_4 : decode prog_21_method_4_code 4 = .ok (.aload_n 1, 1) := by decide +kernel
theorem d_prog_21_method_4_code_5 : decode prog_21_method_4_code 5 = .ok (.arraylength, 1) := by decide +kernel
theorem d_prog_21_method_4_code_6 : decode prog_21_method_4_code 6 = .ok (.istore_n 2, 1) := by decide +kernel
theorem d_prog_21_method_4_code_7 : decode prog_21_method_4_code 7 = .ok (.iconst 0, 1) := by decide +kernel
theorem d_prog_21_method_4_code_8 : decode prog_21_method_4_code 8 = .ok (.istore_n 3, 1) := by decide +kernel
theorem d_prog_21_method_4_code_9 : decode prog_21_method_4_code 9 = .ok (.iload_n 3, 1) := by decide +kernel
theorem d_prog_21_method_4_code_10 : decode prog_21_method_4_code 10 = .ok (.iload_n 2, 1) := by decide +kernel
theorem d_prog_21_method_4_code_11 : decode prog_21_method_4_code 11 = .ok (.if_icmp .ge 29, 3) := by decide +kernel
theorem d_prog_21_method_4_code_14 : decode prog_21_method_4_code 14 = .ok (.aload_n 1, 1) := by decide +kernel
theorem d_prog_21_method_4_code_15 : decode prog_21_method_4_code 15 = .ok (.iload_n 3, 1) := by decide +kernel
theorem d_prog_21_method_4_code_16 : decode prog_21_method_4_code 16 = .ok (.aaload, 1) := by decide +kernel
theorem d_prog_21_method_4_code_17 : decode prog_21_method_4_code 17 = .ok (.astore 4, 2) := by decide +kernel
theorem d_prog_21_method_4_code_19 : decode prog_21_method_4_code 19 = .ok (.aload 4, 2) := by decide +kernel
theorem d_prog_21_method_4_code_21 : decode prog_21_method_4_code 21 = .ok (.getfield 32, 3) := by decide +kernel
theorem d_prog_21_method_4_code_24 : decode prog_21_method_4_code 24 = .ok (.aload_n 0, 1) := by decide +kernel
theorem d_prog_21_method_4_code_25 : decode prog_21_method_4_code 25 = .ok (.invokevirtual 40, 3) := by decide +kernel
theorem pd__Ljava_lang_Object__Z : parseMethodDescriptor "(Ljava/lang/Object;)Z" = some ⟨[(.object "java/lang/Object")], some .boolean⟩ := by decide +kernel
theorem d_prog_21_method_4_code_28 : decode prog_21_method_4_code 28 = .ok (.ifCond .eq 6, 3) := by decide +kernel
theorem d_prog_21_method_4_code_34 : decode prog_21_method_4_code 34 = .ok (.iinc 3 1, 3) := by decide +kernel
theorem d_prog_21_method_4_code_37 : decode prog_21_method_4_code 37 = .ok (.goto (-28), 3) := by decide +kernel
theorem d_prog_21_method_4_code_40 : decode prog_21_method_4_code 40 = .ok (.aconst_null, 1) := by decide +kernel
theorem d_prog_21_method_4_code_41 : decode prog_21_method_4_code 41 = .ok (.areturn, 1) := by decide +kernel
theorem d_prog_21_method_4_code_31 : decode prog_21_method_4_code 31 = .ok (.aload 4, 2) := by decide +kernel
theorem d_prog_21_method_4_code_33 : decode prog_21_method_4_code 33 = .ok (.areturn, 1) := by decide +kernel
theorem ef_rm_ofs (m : MethodId) (y0 : Addr) : entryFrame m #[(.ref y0)] 5 = mkF m 0 #[.val (.ref y0), .unset, .unset, .unset, .unset] [] := by first | (simp [entryFrame, mkF, argsToLocals, Value.category]; done) | rfl
def Q_rm_ofs (Z : State) (x : Addr) (t : Addr) (kb : ClassId) (ds : List Int32) (cs : Int32) (va : Addr) (vk : ClassId) (w0 : Addr) (w1 : Addr) (w2 : Addr) (nn0 : Addr) (nn1 : Addr) (nn2 : Addr) (tn0 : Addr) (tn1 : Addr) (tn2 : Addr) (kn0 : ClassId) (kn1 : ClassId) (kn2 : ClassId) (h0 : Heap) (n0 : Nat) (v : Option Value) (h : Heap) (L : List Loc) : Prop := v = some (if ([(104 : Int32), (111 : Int32), (117 : Int32), (114 : Int32)] : List Int32) = ds then Value.ref w0 else if ([(109 : Int32), (105 : Int32), (110 : Int32), (117 : Int32), (116 : Int32), (101 : Int32)] : List Int32) = ds then Value.ref w1 else if ([(100 : Int32), (97 : Int32), (121 : Int32), (79 : Int32), (102 : Int32), (87 : Int32), (101 : Int32), (101 : Int32), (107 : Int32)] : List Int32) = ds then Value.ref w2 else Value.null) ∧ Fr n0 L ∧ Keep h0 h []
set_option maxRecDepth 65536 in
set_option maxHeartbeats 40000000 in
theorem rm_ofs (l : Launch) (Z : State) (a0 : Array Value) (hw : ∀ d ∈ tables_1, d.before a0 Z = true) (ws : List Jvm.Cond) (x : Addr) (t : Addr) (kb : ClassId) (ds : List Int32) (cs : Int32) (va : Addr) (vk : ClassId) (w0 : Addr) (w1 : Addr) (w2 : Addr) (nn0 : Addr) (nn1 : Addr) (nn2 : Addr) (tn0 : Addr) (tn1 : Addr) (tn2 : Addr) (kn0 : ClassId) (kn1 : ClassId) (kn2 : ClassId) (h0 : Heap) (n0 : Nat) (Z0 : n0 ≤ h0.size) (O : Old Z n0 h0) (SC0 : Sta Z Z.heap "java/lang/String" "COMPACT_STRINGS" "Z" (.int cs)) (c1 : ¬ cs = (0 : Int32)) (SV : Sta Z Z.heap "com/example/minder/minder/model/ClockValue" "$VALUES" "[Lcom/example/minder/minder/model/ClockValue;" (.ref va)) (VV : Arv Z Z.heap va vk (.object "com/example/minder/minder/model/ClockValue") 3 [.ref w0, .ref w1, .ref w2] .null) (EV : Exa Z Z.heap va "[Lcom/example/minder/minder/model/ClockValue;") (EW0 : Exa Z Z.heap w0 "com/example/minder/minder/model/ClockValue") (FN0 : Fld Z Z.heap w0 "com/example/minder/minder/model/ClockValue" "name" "Ljava/lang/String;" (.ref nn0)) (EN0 : Exa Z Z.heap nn0 "java/lang/String") (VN0 : Fld Z Z.heap nn0 "java/lang/String" "value" "[B" (.ref tn0)) (DN0 : Fld Z Z.heap nn0 "java/lang/String" "coder" "B" (.int 0)) (AN0 : Arv Z Z.heap tn0 kn0 .byte (Int32.ofNat ([(104 : Int32), (111 : Int32), (117 : Int32), (114 : Int32)] : List Int32).length) (own_vs ([(104 : Int32), (111 : Int32), (117 : Int32), (114 : Int32)] : List Int32)) (.int 0)) (EW1 : Exa Z Z.heap w1 "com/example/minder/minder/model/ClockValue") (FN1 : Fld Z Z.heap w1 "com/example/minder/minder/model/ClockValue" "name" "Ljava/lang/String;" (.ref nn1)) (EN1 : Exa Z Z.heap nn1 "java/lang/String") (VN1 : Fld Z Z.heap nn1 "java/lang/String" "value" "[B" (.ref tn1)) (DN1 : Fld Z Z.heap nn1 "java/lang/String" "coder" "B" (.int 0)) (AN1 : Arv Z Z.heap tn1 kn1 .byte (Int32.ofNat ([(109 : Int32), (105 : Int32), (110 : Int32), (117 : Int32), (116 : Int32), (101 : Int32)] : List Int32).length) (own_vs ([(109 : Int32), (105 : Int32), (110 : Int32), (117 : Int32), (116 : Int32), (101 : Int32)] : List Int32)) (.int 0)) (EW2 : Exa Z Z.heap w2 "com/example/minder/minder/model/ClockValue") (FN2 : Fld Z Z.heap w2 "com/example/minder/minder/model/ClockValue" "name" "Ljava/lang/String;" (.ref nn2)) (EN2 : Exa Z Z.heap nn2 "java/lang/String") (VN2 : Fld Z Z.heap nn2 "java/lang/String" "value" "[B" (.ref tn2)) (DN2 : Fld Z Z.heap nn2 "java/lang/String" "coder" "B" (.int 0)) (AN2 : Arv Z Z.heap tn2 kn2 .byte (Int32.ofNat ([(100 : Int32), (97 : Int32), (121 : Int32), (79 : Int32), (102 : Int32), (87 : Int32), (101 : Int32), (101 : Int32), (107 : Int32)] : List Int32).length) (own_vs ([(100 : Int32), (97 : Int32), (121 : Int32), (79 : Int32), (102 : Int32), (87 : Int32), (101 : Int32), (101 : Int32), (107 : Int32)] : List Int32)) (.int 0)) (hds : ∀ c ∈ ds, ¬ c < 0 ∧ ¬ (255 : Int32) < c) (lds : ds.length ≤ 4000) (EX : Exa Z h0 x "java/lang/String") (VX : Fld Z h0 x "java/lang/String" "value" "[B" (.ref t)) (DX : Fld Z h0 x "java/lang/String" "coder" "B" (.int 0)) (AX : Arv Z h0 t kb .byte (Int32.ofNat ds.length) (own_vs ds) (.int 0)) :
    MetFree l (⟨"com/example/minder/minder/model/ClockValue", "of", "(Ljava/lang/String;)Lcom/example/minder/minder/model/ClockValue;"⟩ : MethodName) (head1 (Jvm.Cond.code (⟨"com/example/minder/minder/model/ClockValue", "of", "(Ljava/lang/String;)Lcom/example/minder/minder/model/ClockValue;"⟩ : MethodName) prog_21_method_4_code 5 (some (.object "com/example/minder/minder/model/ClockValue")) :: ws) ({ frames := 2, cells := 1, slots := 3, locals := 28 } : Room)) (fun a U => a = #[(.ref x)] ∧ Z.Warmed39 U.vm ∧ U.heap = h0) (fun _ _ _ _ _ => True) (fun _ U o U' => ∃ v L, o = .returned v ∧ Q_rm_ofs Z x t kb ds cs va vk w0 w1 w2 nn0 nn1 nn2 tn0 tn1 tn2 kn0 kn1 kn2 h0 n0 v U'.heap L ∧ FrameEnd U o U' L 1 3) := by
  refine MetFree.of_bodySF (plainFor_of_name pn_com_example_minder_minder_model_ClockValue) hisR ?_
  intro p e s m args below meth c s₁ Bd hml0 hP hK
  obtain ⟨rfl, hZ, hh⟩ := hP
  have hx := Bd.exec
  have hby := Bd.bytes
  have hlk := Bd.notSynchronized
  have hml : c.maxLocals = 5 := hml0
  have hown : s.vm.findClass "com/example/minder/minder/model/ClockValue" = some m.cls := findClass_of_methodNamed Bd.named
  have hnm := (name_of_methodNamed Bd.named Bd.method).1
  have X0 : Stand p l e ({ frames := 2, cells := 1, slots := 3, locals := 28 } : Room) s m #[(.ref x)] below meth c s₁ [] 0 0 := Stand.of_body Bd
  have e0 : s₁.heap = h0 := by rw [← hh, Bd.state]; rfl
  have N0 := Fr.nil n0
  show OwnEnd p e below s (Q_rm_ofs Z x t kb ds cs va vk w0 w1 w2 nn0 nn1 nn2 tn0 tn1 tn2 kn0 kn1 kn2 h0 n0) 1 3 (s₁.setTop (entryFrame m #[(.ref x)] 5))
  refine go (fun t k => castTop (ef_rm_ofs m x) k) ?_
  have KK := Keep.refl h0 []
  have EW0' := EW0.ext O.2
  have FN0' := FN0.ext O.2
  have EN0' := EN0.ext O.2
  have VN0' := VN0.ext O.2
  have DN0' := DN0.ext O.2
  have AN0' := AN0.ext O.2
  have EW1' := EW1.ext O.2
  have FN1' := FN1.ext O.2
  have EN1' := EN1.ext O.2
  have VN1' := VN1.ext O.2
  have DN1' := DN1.ext O.2
  have AN1' := AN1.ext O.2
  have EW2' := EW2.ext O.2
  have FN2' := FN2.ext O.2
  have EN2' := EN2.ext O.2
  have VN2' := VN2.ext O.2
  have DN2' := DN2.ext O.2
  have AN2' := AN2.ext O.2
  show OwnEnd _ _ _ _ _ _ _ (s₁.setTop (mkF m 0 (fL2 x) []))
  obtain ⟨_, T1, L1, X1, hQ1, st1⟩ := callStat X0 hx hZ hown (hw _ (List.mem_of_getElem? (i := 85) rfl)) (hw _ (List.mem_of_getElem? (i := 86) rfl)) (hw _ (List.mem_of_getElem? (i := 80) rfl)) (hw _ (List.mem_of_getElem? (i := 87) rfl)) (by decide) (rm_val l Z a0 hw [] va vk w0 w1 w2 h0 n0 Z0 O SV VV EV) (W := 0) (by decide) (by decide) e0 (g := (mkF m 0 (fL2 x) [])) rfl (by rw [hml]; rfl) (argsL := []) (rest := []) rfl (lenOf pd____Lcom_example_minder_minder_model_ClockValue_ rfl) rfl (by show 2 * 0 + _ ≤ _; exact Nat.le_of_eq rfl) (hb hby d_prog_21_method_4_code_0) (by decide) (by decide)
  obtain ⟨vb1, k1, rfl, Nq1, K1, V_vb1⟩ := hQ1
  have N1 := Fr.app N0 Nq1
  have Z0 := Nat.le_trans Z0 K1.1
  have O := O.keep K1 all0
  have KK := Keep.trans KK K1 all0
  have EW0' := EW0'.keep K1
  have FN0' := FN0'.keep K1 nin0
  have EN0' := EN0'.keep K1
  have VN0' := VN0'.keep K1 nin0
  have DN0' := DN0'.keep K1 nin0
  have AN0' := AN0'.keep K1 nin0
  have EW1' := EW1'.keep K1
  have FN1' := FN1'.keep K1 nin0
  have EN1' := EN1'.keep K1
  have VN1' := VN1'.keep K1 nin0
  have DN1' := DN1'.keep K1 nin0
  have AN1' := AN1'.keep K1 nin0
  have EW2' := EW2'.keep K1
  have FN2' := FN2'.keep K1 nin0
  have EN2' := EN2'.keep K1
  have VN2' := VN2'.keep K1 nin0
  have DN2' := DN2'.keep K1 nin0
  have AN2' := AN2'.keep K1 nin0
  have EX := EX.keep K1
  have VX := VX.keep K1 nin0
  have DX := DX.keep K1 nin0
  have AX := AX.keep K1 nin0
  refine go st1 ?_
  refine go (fun _ k => by refine XS.astoreN X1.here hx rfl (hb hby d_prog_21_method_4_code_3) rfl rfl (l' := (fL3 x vb1)) rfl ?_; exact k) ?_
  refine go (fun _ k => by refine XS.aloadN X1.here hx rfl (hb hby d_prog_21_method_4_code_4) rfl rfl ?_; exact k) ?_
  show OwnEnd _ _ _ _ _ _ _ (T1.setTop (mkF m 5 (fL3 x vb1) [(.ref vb1)]))
  refine go (lenV X1 hx hZ rfl V_vb1 (g := (mkF m 5 (fL3 x vb1) [(.ref vb1)])) rfl rfl (hb hby d_prog_21_method_4_code_5)) ?_
  refine go (fun _ k => by refine XS.istoreN X1.here hx rfl (hb hby d_prog_21_method_4_code_6) rfl (l' := (fL4 x vb1 (3 : Int32))) rfl ?_; exact k) ?_
  refine go (fun _ k => by refine XS.iconst X1.here hx rfl (hb hby d_prog_21_method_4_code_7) ?_; exact k) ?_
  refine go (fun _ k => by refine XS.istoreN X1.here hx rfl (hb hby d_prog_21_method_4_code_8) rfl (l' := (fL5 x vb1 (3 : Int32) (0 : Int32))) rfl ?_; exact k) ?_
  show OwnEnd _ _ _ _ _ _ _ (T1.setTop (mkF m 9 (fL5 x vb1 (3 : Int32) (0 : Int32)) []))
  refine go (fun _ k => by refine XS.iloadN X1.here hx rfl (hb hby d_prog_21_method_4_code_9) rfl ?_; exact k) ?_
  refine go (fun _ k => by refine XS.iloadN X1.here hx rfl (hb hby d_prog_21_method_4_code_10) rfl ?_; exact k) ?_
  show OwnEnd _ _ _ _ _ _ _ (T1.setTop (mkF m 11 (fL5 x vb1 (3 : Int32) (0 : Int32)) [(.int (3 : Int32)), (.int (0 : Int32))]))
  refine go (fun _ k => by refine XS.icmpNo X1.here hx rfl (hb hby d_prog_21_method_4_code_11) rfl (tlt (by decide)).2.1 ?_; exact k) ?_
  refine go (fun _ k => by refine XS.aloadN X1.here hx rfl (hb hby d_prog_21_method_4_code_14) rfl rfl ?_; exact k) ?_
  refine go (fun _ k => by refine XS.iloadN X1.here hx rfl (hb hby d_prog_21_method_4_code_15) rfl ?_; exact k) ?_
  show OwnEnd _ _ _ _ _ _ _ (T1.setTop (mkF m 16 (fL5 x vb1 (3 : Int32) (0 : Int32)) [(.int (0 : Int32)), (.ref vb1)]))
  refine go (ldRv X1 hx hZ rfl V_vb1 (j := (0 : Int32)) (i := 0) (w := (.ref w0)) rfl (by decide) (by decide) (by decide) rfl (g := (mkF m 16 (fL5 x vb1 (3 : Int32) (0 : Int32)) [(.int (0 : Int32)), (.ref vb1)])) rfl rfl (hb hby d_prog_21_method_4_code_16)) ?_
  refine go (fun _ k => by refine XS.astore X1.here hx rfl (hb hby d_prog_21_method_4_code_17) rfl rfl (l' := (fL6 x vb1 (3 : Int32) (0 : Int32) w0)) rfl ?_; exact k) ?_
  refine go (fun _ k => by refine XS.aload X1.here hx rfl (hb hby d_prog_21_method_4_code_19) rfl rfl ?_; exact k) ?_
  show OwnEnd _ _ _ _ _ _ _ (T1.setTop (mkF m 21 (fL6 x vb1 (3 : Int32) (0 : Int32) w0) [(.ref w0)]))
  obtain ⟨T2, X2, e2, st2⟩ := getF X1 hx hZ hown (host := "") (Or.inl (hw _ (List.mem_of_getElem? (i := 102) rfl))) Via.refl rfl FN0' (g := (mkF m 21 (fL6 x vb1 (3 : Int32) (0 : Int32) w0) [(.ref w0)])) rfl rfl (hb hby d_prog_21_method_4_code_21)
  refine go st2 ?_
  refine go (fun _ k => by refine XS.aloadN X2.here hx rfl (hb hby d_prog_21_method_4_code_24) rfl rfl ?_; exact k) ?_
  show OwnEnd _ _ _ _ _ _ _ (T2.setTop (mkF m 25 (fL6 x vb1 (3 : Int32) (0 : Int32) w0) [(.ref x), (.ref nn0)]))
  obtain ⟨_, T3, L3, X3, hQ3, st3⟩ := callVirtB X2 hx hZ hown (hw _ (List.mem_of_getElem? (i := 104) rfl)) (hw _ (List.mem_of_getElem? (i := 71) rfl)) (notFace_of_selects (args := #[]) (mvT hZ (hw _ (List.mem_of_getElem? (i := 73) rfl)))) (hw _ (List.mem_of_getElem? (i := 73) rfl)) (hw _ (List.mem_of_getElem? (i := 72) rfl)) (by decide) (Qc := fun v hp L => ((v = some (.int 1) ∧ ([(104 : Int32), (111 : Int32), (117 : Int32), (114 : Int32)] : List Int32) = ds) ∨ (v = some (.int 0) ∧ ¬ ([(104 : Int32), (111 : Int32), (117 : Int32), (114 : Int32)] : List Int32) = ds)) ∧ L = [] ∧ hp = T1.heap) (StrChars.Road.eqW (W := 0) hZ (fun d hd => hw d ((by decide +kernel : ∀ d ∈ StrChars.Road.wordsEq, d ∈ tables_1) d hd)) (kI := 4) (hw _ (List.mem_of_getElem? (i := 2) rfl)) EN0' VN0' DN0' AN0' (StrChars.Road.codOf rfl (fun c hc => ((show ∀ c ∈ ([(104 : Int32), (111 : Int32), (117 : Int32), (114 : Int32)] : List Int32), ¬ c < 0 ∧ ¬ (255 : Int32) < c by decide) c hc).2)) (own_up _ (show ∀ c ∈ ([(104 : Int32), (111 : Int32), (117 : Int32), (114 : Int32)] : List Int32), ¬ c < 0 ∧ ¬ (255 : Int32) < c by decide)) (by decide) EX VX DX AX (StrChars.Road.codOf rfl (fun c hc => (hds c hc).2)) (own_up _ hds) lds (SC0.ext O.2) c1 (by decide) (by decide)) e2 EN0' (g := (mkF m 25 (fL6 x vb1 (3 : Int32) (0 : Int32) w0) [(.ref x), (.ref nn0)])) rfl (by rw [hml]; rfl) (argsL := [(.ref x)]) (rest := []) rfl (lenOf pd__Ljava_lang_Object__Z rfl) rfl (by show 2 * 0 + _ ≤ _; exact Nat.le_of_eq rfl) (hb hby d_prog_21_method_4_code_25) (by decide) (by decide)
  obtain ⟨hv3, rfl, eq3⟩ := hQ3
  obtain rfl := own_eqv hv3
  rw [List.append_nil] at X3
  refine go st3 ?_
  show OwnEnd _ _ _ _ _ _ _ (T3.setTop (mkF m 28 (fL6 x vb1 (3 : Int32) (0 : Int32) w0) [(.int (if ([(104 : Int32), (111 : Int32), (117 : Int32), (114 : Int32)] : List Int32) = ds then (1 : Int32) else 0))]))
  by_cases hc28_4 : (if ([(104 : Int32), (111 : Int32), (117 : Int32), (114 : Int32)] : List Int32) = ds then (1 : Int32) else 0) = (0 : Int32)
  · refine go (fun _ k => by refine XS.ifYes X3.here hx rfl (pc0 := 28) (pc' := 34) rfl (hb hby d_prog_21_method_4_code_28) rfl ((if0 _ _).trans (teq hc28_4).1) (by decide) (by decide) ?_; exact k) ?_
    show OwnEnd _ _ _ _ _ _ _ (T3.setTop (mkF m 34 (fL6 x vb1 (3 : Int32) (0 : Int32) w0) []))
    refine go (fun _ k => by refine XS.iinc X3.here hx rfl (hb hby d_prog_21_method_4_code_34) rfl (l' := (fL6 x vb1 (3 : Int32) ((0 : Int32) + (1 : Int32)) w0)) rfl ?_; exact k) ?_
    show OwnEnd _ _ _ _ _ _ _ (T3.setTop (mkF m 37 (fL6 x vb1 (3 : Int32) ((0 : Int32) + (1 : Int32)) w0) []))
    rw [show ((0 : Int32) + (1 : Int32)) = (1 : Int32) from by decide]
    refine go (fun _ k => by refine XS.goto X3.here hx rfl (pc0 := 37) (pc' := 9) rfl (hb hby d_prog_21_method_4_code_37) (by decide) (by decide) ?_; exact k) ?_
    refine go (fun _ k => by refine XS.iloadN X3.here hx rfl (hb hby d_prog_21_method_4_code_9) rfl ?_; exact k) ?_
    refine go (fun _ k => by refine XS.iloadN X3.here hx rfl (hb hby d_prog_21_method_4_code_10) rfl ?_; exact k) ?_
    show OwnEnd _ _ _ _ _ _ _ (T3.setTop (mkF m 11 (fL6 x vb1 (3 : Int32) (1 : Int32) w0) [(.int (3 : Int32)), (.int (1 : Int32))]))
    refine go (fun _ k => by refine XS.icmpNo X3.here hx rfl (hb hby d_prog_21_method_4_code_11) rfl (tlt (by decide)).2.1 ?_; exact k) ?_
    refine go (fun _ k => by refine XS.aloadN X3.here hx rfl (hb hby d_prog_21_method_4_code_14) rfl rfl ?_; exact k) ?_
    refine go (fun _ k => by refine XS.iloadN X3.here hx rfl (hb hby d_prog_21_method_4_code_15) rfl ?_; exact k) ?_
    show OwnEnd _ _ _ _ _ _ _ (T3.setTop (mkF m 16 (fL6 x vb1 (3 : Int32) (1 : Int32) w0) [(.int (1 : Int32)), (.ref vb1)]))
    refine go (ldRv X3 hx hZ eq3 V_vb1 (j := (1 : Int32)) (i := 1) (w := (.ref w1)) rfl (by decide) (by decide) (by decide) rfl (g := (mkF m 16 (fL6 x vb1 (3 : Int32) (1 : Int32) w0) [(.int (1 : Int32)), (.ref vb1)])) rfl rfl (hb hby d_prog_21_method_4_code_16)) ?_
    refine go (fun _ k => by refine XS.astore X3.here hx rfl (hb hby d_prog_21_method_4_code_17) rfl rfl (l' := (fL6 x vb1 (3 : Int32) (1 : Int32) w1)) rfl ?_; exact k) ?_
    refine go (fun _ k => by refine XS.aload X3.here hx rfl (hb hby d_prog_21_method_4_code_19) rfl rfl ?_; exact k) ?_
    show OwnEnd _ _ _ _ _ _ _ (T3.setTop (mkF m 21 (fL6 x vb1 (3 : Int32) (1 : Int32) w1) [(.ref w1)]))
    obtain ⟨T5, X5, e5, st5⟩ := getF X3 hx hZ hown (host := "") (Or.inl (hw _ (List.mem_of_getElem? (i := 102) rfl))) Via.refl eq3 FN1' (g := (mkF m 21 (fL6 x vb1 (3 : Int32) (1 : Int32) w1) [(.ref w1)])) rfl rfl (hb hby d_prog_21_method_4_code_21)
    refine go st5 ?_
    refine go (fun _ k => by refine XS.aloadN X5.here hx rfl (hb hby d_prog_21_method_4_code_24) rfl rfl ?_; exact k) ?_
    show OwnEnd _ _ _ _ _ _ _ (T5.setTop (mkF m 25 (fL6 x vb1 (3 : Int32) (1 : Int32) w1) [(.ref x), (.ref nn1)]))
    obtain ⟨_, T6, L6, X6, hQ6, st6⟩ := callVirtB X5 hx hZ hown (hw _ (List.mem_of_getElem? (i := 104) rfl)) (hw _ (List.mem_of_getElem? (i := 71) rfl)) (notFace_of_selects (args := #[]) (mvT hZ (hw _ (List.mem_of_getElem? (i := 73) rfl)))) (hw _ (List.mem_of_getElem? (i := 73) rfl)) (hw _ (List.mem_of_getElem? (i := 72) rfl)) (by decide) (Qc := fun v hp L => ((v = some (.int 1) ∧ ([(109 : Int32), (105 : Int32), (110 : Int32), (117 : Int32), (116 : Int32), (101 : Int32)] : List Int32) = ds) ∨ (v = some (.int 0) ∧ ¬ ([(109 : Int32), (105 : Int32), (110 : Int32), (117 : Int32), (116 : Int32), (101 : Int32)] : List Int32) = ds)) ∧ L = [] ∧ hp = T1.heap) (StrChars.Road.eqW (W := 0) hZ (fun d hd => hw d ((by decide +kernel : ∀ d ∈ StrChars.Road.wordsEq, d ∈ tables_1) d hd)) (kI := 4) (hw _ (List.mem_of_getElem? (i := 2) rfl)) EN1' VN1' DN1' AN1' (StrChars.Road.codOf rfl (fun c hc => ((show ∀ c ∈ ([(109 : Int32), (105 : Int32), (110 : Int32), (117 : Int32), (116 : Int32), (101 : Int32)] : List Int32), ¬ c < 0 ∧ ¬ (255 : Int32) < c by decide) c hc).2)) (own_up _ (show ∀ c ∈ ([(109 : Int32), (105 : Int32), (110 : Int32), (117 : Int32), (116 : Int32), (101 : Int32)] : List Int32), ¬ c < 0 ∧ ¬ (255 : Int32) < c by decide)) (by decide) EX VX DX AX (StrChars.Road.codOf rfl (fun c hc => (hds c hc).2)) (own_up _ hds) lds (SC0.ext O.2) c1 (by decide) (by decide)) e5 EN1' (g := (mkF m 25 (fL6 x vb1 (3 : Int32) (1 : Int32) w1) [(.ref x), (.ref nn1)])) rfl (by rw [hml]; rfl) (argsL := [(.ref x)]) (rest := []) rfl (lenOf pd__Ljava_lang_Object__Z rfl) rfl (by show 2 * 0 + _ ≤ _; exact Nat.le_of_eq rfl) (hb hby d_prog_21_method_4_code_25) (by decide) (by decide)
    obtain ⟨hv6, rfl, eq6⟩ := hQ6
    obtain rfl := own_eqv hv6
    rw [List.append_nil] at X6
    refine go st6 ?_
    show OwnEnd _ _ _ _ _ _ _ (T6.setTop (mkF m 28 (fL6 x vb1 (3 : Int32) (1 : Int32) w1) [(.int (if ([(109 : Int32), (105 : Int32), (110 : Int32), (117 : Int32), (116 : Int32), (101 : Int32)] : List Int32) = ds then (1 : Int32) else 0))]))
    by_cases hc28_7 : (if ([(109 : Int32), (105 : Int32), (110 : Int32), (117 : Int32), (116 : Int32), (101 : Int32)] : List Int32) = ds then (1 : Int32) else 0) = (0 : Int32)
    · refine go (fun _ k => by refine XS.ifYes X6.here hx rfl (pc0 := 28) (pc' := 34) rfl (hb hby d_prog_21_method_4_code_28) rfl ((if0 _ _).trans (teq hc28_7).1) (by decide) (by decide) ?_; exact k) ?_
      show OwnEnd _ _ _ _ _ _ _ (T6.setTop (mkF m 34 (fL6 x vb1 (3 : Int32) (1 : Int32) w1) []))
      refine go (fun _ k => by refine XS.iinc X6.here hx rfl (hb hby d_prog_21_method_4_code_34) rfl (l' := (fL6 x vb1 (3 : Int32) ((1 : Int32) + (1 : Int32)) w1)) rfl ?_; exact k) ?_
      show OwnEnd _ _ _ _ _ _ _ (T6.setTop (mkF m 37 (fL6 x vb1 (3 : Int32) ((1 : Int32) + (1 : Int32)) w1) []))
      rw [show ((1 : Int32) + (1 : Int32)) = (2 : Int32) from by decide]
      refine go (fun _ k => by refine XS.goto X6.here hx rfl (pc0 := 37) (pc' := 9) rfl (hb hby d_prog_21_method_4_code_37) (by decide) (by decide) ?_; exact k) ?_
      refine go (fun _ k => by refine XS.iloadN X6.here hx rfl (hb hby d_prog_21_method_4_code_9) rfl ?_; exact k) ?_
      refine go (fun _ k => by refine XS.iloadN X6.here hx rfl (hb hby d_prog_21_method_4_code_10) rfl ?_; exact k) ?_
      show OwnEnd _ _ _ _ _ _ _ (T6.setTop (mkF m 11 (fL6 x vb1 (3 : Int32) (2 : Int32) w1) [(.int (3 : Int32)), (.int (2 : Int32))]))
      refine go (fun _ k => by refine XS.icmpNo X6.here hx rfl (hb hby d_prog_21_method_4_code_11) rfl (tlt (by decide)).2.1 ?_; exact k) ?_
      refine go (fun _ k => by refine XS.aloadN X6.here hx rfl (hb hby d_prog_21_method_4_code_14) rfl rfl ?_; exact k) ?_
      refine go (fun _ k => by refine XS.iloadN X6.here hx rfl (hb hby d_prog_21_method_4_code_15) rfl ?_; exact k) ?_
      show OwnEnd _ _ _ _ _ _ _ (T6.setTop (mkF m 16 (fL6 x vb1 (3 : Int32) (2 : Int32) w1) [(.int (2 : Int32)), (.ref vb1)]))
      refine go (ldRv X6 hx hZ eq6 V_vb1 (j := (2 : Int32)) (i := 2) (w := (.ref w2)) rfl (by decide) (by decide) (by decide) rfl (g := (mkF m 16 (fL6 x vb1 (3 : Int32) (2 : Int32) w1) [(.int (2 : Int32)), (.ref vb1)])) rfl rfl (hb hby d_prog_21_method_4_code_16)) ?_
      refine go (fun _ k => by refine XS.astore X6.here hx rfl (hb hby d_prog_21_method_4_code_17) rfl rfl (l' := (fL6 x vb1 (3 : Int32) (2 : Int32) w2)) rfl ?_; exact k) ?_
      refine go (fun _ k => by refine XS.aload X6.here hx rfl (hb hby d_prog_21_method_4_code_19) rfl rfl ?_; exact k) ?_
      show OwnEnd _ _ _ _ _ _ _ (T6.setTop (mkF m 21 (fL6 x vb1 (3 : Int32) (2 : Int32) w2) [(.ref w2)]))
      obtain ⟨T8, X8, e8, st8⟩ := getF X6 hx hZ hown (host := "") (Or.inl (hw _ (List.mem_of_getElem? (i := 102) rfl))) Via.refl eq6 FN2' (g := (mkF m 21 (fL6 x vb1 (3 : Int32) (2 : Int32) w2) [(.ref w2)])) rfl rfl (hb hby d_prog_21_method_4_code_21)
      refine go st8 ?_
      refine go (fun _ k => by refine XS.aloadN X8.here hx rfl (hb hby d_prog_21_method_4_code_24) rfl rfl ?_; exact k) ?_
      show OwnEnd _ _ _ _ _ _ _ (T8.setTop (mkF m 25 (fL6 x vb1 (3 : Int32) (2 : Int32) w2) [(.ref x), (.ref nn2)]))
      obtain ⟨_, T9, L9, X9, hQ9, st9⟩ := callVirtB X8 hx hZ hown (hw _ (List.mem_of_getElem? (i := 104) rfl)) (hw _ (List.mem_of_getElem? (i := 71) rfl)) (notFace_of_selects (args := #[]) (mvT hZ (hw _ (List.mem_of_getElem? (i := 73) rfl)))) (hw _ (List.mem_of_getElem? (i := 73) rfl)) (hw _ (List.mem_of_getElem? (i := 72) rfl)) (by decide) (Qc := fun v hp L => ((v = some (.int 1) ∧ ([(100 : Int32), (97 : Int32), (121 : Int32), (79 : Int32), (102 : Int32), (87 : Int32), (101 : Int32), (101 : Int32), (107 : Int32)] : List Int32) = ds) ∨ (v = some (.int 0) ∧ ¬ ([(100 : Int32), (97 : Int32), (121 : Int32), (79 : Int32), (102 : Int32), (87 : Int32), (101 : Int32), (101 : Int32), (107 : Int32)] : List Int32) = ds)) ∧ L = [] ∧ hp = T1.heap) (StrChars.Road.eqW (W := 0) hZ (fun d hd => hw d ((by decide +kernel : ∀ d ∈ StrChars.Road.wordsEq, d ∈ tables_1) d hd)) (kI := 4) (hw _ (List.mem_of_getElem? (i := 2) rfl)) EN2' VN2' DN2' AN2' (StrChars.Road.codOf rfl (fun c hc => ((show ∀ c ∈ ([(100 : Int32), (97 : Int32), (121 : Int32), (79 : Int32), (102 : Int32), (87 : Int32), (101 : Int32), (101 : Int32), (107 : Int32)] : List Int32), ¬ c < 0 ∧ ¬ (255 : Int32) < c by decide) c hc).2)) (own_up _ (show ∀ c ∈ ([(100 : Int32), (97 : Int32), (121 : Int32), (79 : Int32), (102 : Int32), (87 : Int32), (101 : Int32), (101 : Int32), (107 : Int32)] : List Int32), ¬ c < 0 ∧ ¬ (255 : Int32) < c by decide)) (by decide) EX VX DX AX (StrChars.Road.codOf rfl (fun c hc => (hds c hc).2)) (own_up _ hds) lds (SC0.ext O.2) c1 (by decide) (by decide)) e8 EN2' (g := (mkF m 25 (fL6 x vb1 (3 : Int32) (2 : Int32) w2) [(.ref x), (.ref nn2)])) rfl (by rw [hml]; rfl) (argsL := [(.ref x)]) (rest := []) rfl (lenOf pd__Ljava_lang_Object__Z rfl) rfl (by show 2 * 0 + _ ≤ _; exact Nat.le_of_eq rfl) (hb hby d_prog_21_method_4_code_25) (by decide) (by decide)
      obtain ⟨hv9, rfl, eq9⟩ := hQ9
      obtain rfl := own_eqv hv9
      rw [List.append_nil] at X9
      refine go st9 ?_
      show OwnEnd _ _ _ _ _ _ _ (T9.setTop (mkF m 28 (fL6 x vb1 (3 : Int32) (2 : Int32) w2) [(.int (if ([(100 : Int32), (97 : Int32), (121 : Int32), (79 : Int32), (102 : Int32), (87 : Int32), (101 : Int32), (101 : Int32), (107 : Int32)] : List Int32) = ds then (1 : Int32) else 0))]))
      by_cases hc28_10 : (if ([(100 : Int32), (97 : Int32), (121 : Int32), (79 : Int32), (102 : Int32), (87 : Int32), (101 : Int32), (101 : Int32), (107 : Int32)] : List Int32) = ds then (1 : Int32) else 0) = (0 : Int32)
      · refine go (fun _ k => by refine XS.ifYes X9.here hx rfl (pc0 := 28) (pc' := 34) rfl (hb hby d_prog_21_method_4_code_28) rfl ((if0 _ _).trans (teq hc28_10).1) (by decide) (by decide) ?_; exact k) ?_
        show OwnEnd _ _ _ _ _ _ _ (T9.setTop (mkF m 34 (fL6 x vb1 (3 : Int32) (2 : Int32) w2) []))
        refine go (fun _ k => by refine XS.iinc X9.here hx rfl (hb hby d_prog_21_method_4_code_34) rfl (l' := (fL6 x vb1 (3 : Int32) ((2 : Int32) + (1 : Int32)) w2)) rfl ?_; exact k) ?_
        show OwnEnd _ _ _ _ _ _ _ (T9.setTop (mkF m 37 (fL6 x vb1 (3 : Int32) ((2 : Int32) + (1 : Int32)) w2) []))
        rw [show ((2 : Int32) + (1 : Int32)) = (3 : Int32) from by decide]
        refine go (fun _ k => by refine XS.goto X9.here hx rfl (pc0 := 37) (pc' := 9) rfl (hb hby d_prog_21_method_4_code_37) (by decide) (by decide) ?_; exact k) ?_
        refine go (fun _ k => by refine XS.iloadN X9.here hx rfl (hb hby d_prog_21_method_4_code_9) rfl ?_; exact k) ?_
        refine go (fun _ k => by refine XS.iloadN X9.here hx rfl (hb hby d_prog_21_method_4_code_10) rfl ?_; exact k) ?_
        show OwnEnd _ _ _ _ _ _ _ (T9.setTop (mkF m 11 (fL6 x vb1 (3 : Int32) (3 : Int32) w2) [(.int (3 : Int32)), (.int (3 : Int32))]))
        refine go (fun _ k => by refine XS.icmpYes X9.here hx rfl (pc0 := 11) (pc' := 40) rfl (hb hby d_prog_21_method_4_code_11) rfl (flt (by decide)).2.1 (by decide) (by decide) ?_; exact k) ?_
        refine go (fun _ k => by refine XS.aconstNull X9.here hx rfl (hb hby d_prog_21_method_4_code_40) ?_; exact k) ?_
        show OwnEnd _ _ _ _ _ _ _ (T9.setTop (mkF m 41 (fL6 x vb1 (3 : Int32) (3 : Int32) w2) [.null]))
        refine endA X9 hx hlk Bd.returns rfl rfl (hb hby d_prog_21_method_4_code_41) eq9 (by decide) (by decide) ?_
        exact ⟨by rw [if_neg (own_f hc28_4), if_neg (own_f hc28_7), if_neg (own_f hc28_10)], N1, KK⟩
      · refine go (fun _ k => by refine XS.ifNo X9.here hx rfl (hb hby d_prog_21_method_4_code_28) rfl ((if0 _ _).trans (feq hc28_10).1) ?_; exact k) ?_
        show OwnEnd _ _ _ _ _ _ _ (T9.setTop (mkF m 31 (fL6 x vb1 (3 : Int32) (2 : Int32) w2) []))
        refine go (fun _ k => by refine XS.aload X9.here hx rfl (hb hby d_prog_21_method_4_code_31) rfl rfl ?_; exact k) ?_
        show OwnEnd _ _ _ _ _ _ _ (T9.setTop (mkF m 33 (fL6 x vb1 (3 : Int32) (2 : Int32) w2) [(.ref w2)]))
        refine endA X9 hx hlk Bd.returns rfl rfl (hb hby d_prog_21_method_4_code_33) eq9 (by decide) (by decide) ?_
        exact ⟨by rw [if_neg (own_f hc28_4), if_neg (own_f hc28_7), if_pos (own_t hc28_10)], N1, KK⟩
    · refine go (fun _ k => by refine XS.ifNo X6.here hx rfl (hb hby d_prog_21_method_4_code_28) rfl ((if0 _ _).trans (feq hc28_7).1) ?_; exact k) ?_
      show OwnEnd _ _ _ _ _ _ _ (T6.setTop (mkF m 31 (fL6 x vb1 (3 : Int32) (1 : Int32) w1) []))
      refine go (fun _ k => by refine XS.aload X6.here hx rfl (hb hby d_prog_21_method_4_code_31) rfl rfl ?_; exact k) ?_
      show OwnEnd _ _ _ _ _ _ _ (T6.setTop (mkF m 33 (fL6 x vb1 (3 : Int32) (1 : Int32) w1) [(.ref w1)]))
      refine endA X6 hx hlk Bd.returns rfl rfl (hb hby d_prog_21_method_4_code_33) eq6 (by decide) (by decide) ?_
      exact ⟨by rw [if_neg (own_f hc28_4), if_pos (own_t hc28_7)], N1, KK⟩
  · refine go (fun _ k => by refine XS.ifNo X3.here hx rfl (hb hby d_prog_21_method_4_code_28) rfl ((if0 _ _).trans (feq hc28_4).1) ?_; exact k) ?_
    show OwnEnd _ _ _ _ _ _ _ (T3.setTop (mkF m 31 (fL6 x vb1 (3 : Int32) (0 : Int32) w0) []))
    refine go (fun _ k => by refine XS.aload X3.here hx rfl (hb hby d_prog_21_method_4_code_31) rfl rfl ?_; exact k) ?_
    show OwnEnd _ _ _ _ _ _ _ (T3.setTop (mkF m 33 (fL6 x vb1 (3 : Int32) (0 : Int32) w0) [(.ref w0)]))
    refine endA X3 hx hlk Bd.returns rfl rfl (hb hby d_prog_21_method_4_code_33) eq3 (by decide) (by decide) ?_
    exact ⟨by rw [if_pos (own_t hc28_4)], N1, KK⟩
theorem ef_rm_ofn (m : MethodId)  : entryFrame m #[.null] 5 = mkF m 0 #[.val .null, .unset, .unset, .unset, .unset] [] := by first | (simp [entryFrame, mkF, argsToLocals, Value.category]; done) | rfl
def Q_rm_ofn (Z : State) (cs : Int32) (va : Addr) (vk : ClassId) (w0 : Addr) (w1 : Addr) (w2 : Addr) (nn0 : Addr) (nn1 : Addr) (nn2 : Addr) (tn0 : Addr) (tn1 : Addr) (tn2 : Addr) (kn0 : ClassId) (kn1 : ClassId) (kn2 : ClassId) (h0 : Heap) (n0 : Nat) (v : Option Value) (h : Heap) (L : List Loc) : Prop := v = some .null ∧ Fr n0 L ∧ Keep h0 h []
set_option maxRecDepth 65536 in
set_option maxHeartbeats 40000000 in
theorem rm_ofn (l : Launch) (Z : State) (a0 : Array Value) (hw : ∀ d ∈ tables_1, d.before a0 Z = true) (ws : List Jvm.Cond) (cs : Int32) (va : Addr) (vk : ClassId) (w0 : Addr) (w1 : Addr) (w2 : Addr) (nn0 : Addr) (nn1 : Addr) (nn2 : Addr) (tn0 : Addr) (tn1 : Addr) (tn2 : Addr) (kn0 : ClassId) (kn1 : ClassId) (kn2 : ClassId) (h0 : Heap) (n0 : Nat) (Z0 : n0 ≤ h0.size) (O : Old Z n0 h0) (SC0 : Sta Z Z.heap "java/lang/String" "COMPACT_STRINGS" "Z" (.int cs)) (c1 : ¬ cs = (0 : Int32)) (SV : Sta Z Z.heap "com/example/minder/minder/model/ClockValue" "$VALUES" "[Lcom/example/minder/minder/model/ClockValue;" (.ref va)) (VV : Arv Z Z.heap va vk (.object "com/example/minder/minder/model/ClockValue") 3 [.ref w0, .ref w1, .ref w2] .null) (EV : Exa Z Z.heap va "[Lcom/example/minder/minder/model/ClockValue;") (EW0 : Exa Z Z.heap w0 "com/example/minder/minder/model/ClockValue") (FN0 : Fld Z Z.heap w0 "com/example/minder/minder/model/ClockValue" "name" "Ljava/lang/String;" (.ref nn0)) (EN0 : Exa Z Z.heap nn0 "java/lang/String") (VN0 : Fld Z Z.heap nn0 "java/lang/String" "value" "[B" (.ref tn0)) (DN0 : Fld Z Z.heap nn0 "java/lang/String" "coder" "B" (.int 0)) (AN0 : Arv Z Z.heap tn0 kn0 .byte (Int32.ofNat ([(104 : Int32), (111 : Int32), (117 : Int32), (114 : Int32)] : List Int32).length) (own_vs ([(104 : Int32), (111 : Int32), (117 : Int32), (114 : Int32)] : List Int32)) (.int 0)) (EW1 : Exa Z Z.heap w1 "com/example/minder/minder/model/ClockValue") (FN1 : Fld Z Z.heap w1 "com/example/minder/minder/model/ClockValue" "name" "Ljava/lang/String;" (.ref nn1)) (EN1 : Exa Z Z.heap nn1 "java/lang/String") (VN1 : Fld Z Z.heap nn1 "java/lang/String" "value" "[B" (.ref tn1)) (DN1 : Fld Z Z.heap nn1 "java/lang/String" "coder" "B" (.int 0)) (AN1 : Arv Z Z.heap tn1 kn1 .byte (Int32.ofNat ([(109 : Int32), (105 : Int32), (110 : Int32), (117 : Int32), (116 : Int32), (101 : Int32)] : List Int32).length) (own_vs ([(109 : Int32), (105 : Int32), (110 : Int32), (117 : Int32), (116 : Int32), (101 : Int32)] : List Int32)) (.int 0)) (EW2 : Exa Z Z.heap w2 "com/example/minder/minder/model/ClockValue") (FN2 : Fld Z Z.heap w2 "com/example/minder/minder/model/ClockValue" "name" "Ljava/lang/String;" (.ref nn2)) (EN2 : Exa Z Z.heap nn2 "java/lang/String") (VN2 : Fld Z Z.heap nn2 "java/lang/String" "value" "[B" (.ref tn2)) (DN2 : Fld Z Z.heap nn2 "java/lang/String" "coder" "B" (.int 0)) (AN2 : Arv Z Z.heap tn2 kn2 .byte (Int32.ofNat ([(100 : Int32), (97 : Int32), (121 : Int32), (79 : Int32), (102 : Int32), (87 : Int32), (101 : Int32), (101 : Int32), (107 : Int32)] : List Int32).length) (own_vs ([(100 : Int32), (97 : Int32), (121 : Int32), (79 : Int32), (102 : Int32), (87 : Int32), (101 : Int32), (101 : Int32), (107 : Int32)] : List Int32)) (.int 0)) :
    MetFree l (⟨"com/example/minder/minder/model/ClockValue", "of", "(Ljava/lang/String;)Lcom/example/minder/minder/model/ClockValue;"⟩ : MethodName) (head1 (Jvm.Cond.code (⟨"com/example/minder/minder/model/ClockValue", "of", "(Ljava/lang/String;)Lcom/example/minder/minder/model/ClockValue;"⟩ : MethodName) prog_21_method_4_code 5 (some (.object "com/example/minder/minder/model/ClockValue")) :: ws) ({ frames := 2, cells := 1, slots := 3, locals := 25 } : Room)) (fun a U => a = #[.null] ∧ Z.Warmed39 U.vm ∧ U.heap = h0) (fun _ _ _ _ _ => True) (fun _ U o U' => ∃ v L, o = .returned v ∧ Q_rm_ofn Z cs va vk w0 w1 w2 nn0 nn1 nn2 tn0 tn1 tn2 kn0 kn1 kn2 h0 n0 v U'.heap L ∧ FrameEnd U o U' L 1 3) := by
  refine MetFree.of_bodySF (plainFor_of_name pn_com_example_minder_minder_model_ClockValue) hisR ?_
  intro p e s m args below meth c s₁ Bd hml0 hP hK
  obtain ⟨rfl, hZ, hh⟩ := hP
  have hx := Bd.exec
  have hby := Bd.bytes
  have hlk := Bd.notSynchronized
  have hml : c.maxLocals = 5 := hml0
  have hown : s.vm.findClass "com/example/minder/minder/model/ClockValue" = some m.cls := findClass_of_methodNamed Bd.named
  have hnm := (name_of_methodNamed Bd.named Bd.method).1
  have X0 : Stand p l e ({ frames := 2, cells := 1, slots := 3, locals := 25 } : Room) s m #[.null] below meth c s₁ [] 0 0 := Stand.of_body Bd
  have e0 : s₁.heap = h0 := by rw [← hh, Bd.state]; rfl
  have N0 := Fr.nil n0
  show OwnEnd p e below s (Q_rm_ofn Z cs va vk w0 w1 w2 nn0 nn1 nn2 tn0 tn1 tn2 kn0 kn1 kn2 h0 n0) 1 3 (s₁.setTop (entryFrame m #[.null] 5))
  refine go (fun t k => castTop (ef_rm_ofn m ) k) ?_
  have KK := Keep.refl h0 []
  have EW0' := EW0.ext O.2
  have FN0' := FN0.ext O.2
  have EN0' := EN0.ext O.2
  have VN0' := VN0.ext O.2
  have DN0' := DN0.ext O.2
  have AN0' := AN0.ext O.2
  have EW1' := EW1.ext O.2
  have FN1' := FN1.ext O.2
  have EN1' := EN1.ext O.2
  have VN1' := VN1.ext O.2
  have DN1' := DN1.ext O.2
  have AN1' := AN1.ext O.2
  have EW2' := EW2.ext O.2
  have FN2' := FN2.ext O.2
  have EN2' := EN2.ext O.2
  have VN2' := VN2.ext O.2
  have DN2' := DN2.ext O.2
  have AN2' := AN2.ext O.2
  show OwnEnd _ _ _ _ _ _ _ (s₁.setTop (mkF m 0 fL7 []))
  obtain ⟨_, T1, L1, X1, hQ1, st1⟩ := callStat X0 hx hZ hown (hw _ (List.mem_of_getElem? (i := 85) rfl)) (hw _ (List.mem_of_getElem? (i := 86) rfl)) (hw _ (List.mem_of_getElem? (i := 80) rfl)) (hw _ (List.mem_of_getElem? (i := 87) rfl)) (by decide) (rm_val l Z a0 hw [] va vk w0 w1 w2 h0 n0 Z0 O SV VV EV) (W := 0) (by decide) (by decide) e0 (g := (mkF m 0 fL7 [])) rfl (by rw [hml]; rfl) (argsL := []) (rest := []) rfl (lenOf pd____Lcom_example_minder_minder_model_ClockValue_ rfl) rfl (by show 2 * 0 + _ ≤ _; exact Nat.le_of_eq rfl) (hb hby d_prog_21_method_4_code_0) (by decide) (by decide)
  obtain ⟨vb1, k1, rfl, Nq1, K1, V_vb1⟩ := hQ1
  have N1 := Fr.app N0 Nq1
  have Z0 := Nat.le_trans Z0 K1.1
  have O := O.keep K1 all0
  have KK := Keep.trans KK K1 all0
  have EW0' := EW0'.keep K1
  have FN0' := FN0'.keep K1 nin0
  have EN0' := EN0'.keep K1
  have VN0' := VN0'.keep K1 nin0
  have DN0' := DN0'.keep K1 nin0
  have AN0' := AN0'.keep K1 nin0
  have EW1' := EW1'.keep K1
  have FN1' := FN1'.keep K1 nin0
  have EN1' := EN1'.keep K1
  have VN1' := VN1'.keep K1 nin0
  have DN1' := DN1'.keep K1 nin0
  have AN1' := AN1'.keep K1 nin0
  have EW2' := EW2'.keep K1
  have FN2' := FN2'.keep K1 nin0
  have EN2' := EN2'.keep K1
  have VN2' := VN2'.keep K1 nin0
  have DN2' := DN2'.keep K1 nin0
  have AN2' := AN2'.keep K1 nin0
  refine go st1 ?_
  refine go (fun _ k => by refine XS.astoreN X1.here hx rfl (hb hby d_prog_21_method_4_code_3) rfl rfl (l' := (fL8 vb1)) rfl ?_; exact k) ?_
  refine go (fun _ k => by refine XS.aloadN X1.here hx rfl (hb hby d_prog_21_method_4_code_4) rfl rfl ?_; exact k) ?_
  show OwnEnd _ _ _ _ _ _ _ (T1.setTop (mkF m 5 (fL8 vb1) [(.ref vb1)]))
  refine go (lenV X1 hx hZ rfl V_vb1 (g := (mkF m 5 (fL8 vb1) [(.ref vb1)])) rfl rfl (hb hby d_prog_21_method_4_code_5)) ?_
  refine go (fun _ k => by refine XS.istoreN X1.here hx rfl (hb hby d_prog_21_method_4_code_6) rfl (l' := (fL9 vb1 (3 : Int32))) rfl ?_; exact k) ?_
  refine go (fun _ k => by refine XS.iconst X1.here hx rfl (hb hby d_prog_21_method_4_code_7) ?_; exact k) ?_
  refine go (fun _ k => by refine XS.istoreN X1.here hx rfl (hb hby d_prog_21_method_4_code_8) rfl (l' := (fL10 vb1 (3 : Int32) (0 : Int32))) rfl ?_; exact k) ?_
  show OwnEnd _ _ _ _ _ _ _ (T1.setTop (mkF m 9 (fL10 vb1 (3 : Int32) (0 : Int32)) []))
  refine go (fun _ k => by refine XS.iloadN X1.here hx rfl (hb hby d_prog_21_method_4_code_9) rfl ?_; exact k) ?_
  refine go (fun _ k => by refine XS.iloadN X1.here hx rfl (hb hby d_prog_21_method_4_code_10) rfl ?_; exact k) ?_
  show OwnEnd _ _ _ _ _ _ _ (T1.setTop (mkF m 11 (fL10 vb1 (3 : Int32) (0 : Int32)) [(.int (3 : Int32)), (.int (0 : Int32))]))
  refine go (fun _ k => by refine XS.icmpNo X1.here hx rfl (hb hby d_prog_21_method_4_code_11) rfl (tlt (by decide)).2.1 ?_; exact k) ?_
  refine go (fun _ k => by refine XS.aloadN X1.here hx rfl (hb hby d_prog_21_method_4_code_14) rfl rfl ?_; exact k) ?_
  refine go (fun _ k => by refine XS.iloadN X1.here hx rfl (hb hby d_prog_21_method_4_code_15) rfl ?_; exact k) ?_
  show OwnEnd _ _ _ _ _ _ _ (T1.setTop (mkF m 16 (fL10 vb1 (3 : Int32) (0 : Int32)) [(.int (0 : Int32)), (.ref vb1)]))
  refine go (ldRv X1 hx hZ rfl V_vb1 (j := (0 : Int32)) (i := 0) (w := (.ref w0)) rfl (by decide) (by decide) (by decide) rfl (g := (mkF m 16 (fL10 vb1 (3 : Int32) (0 : Int32)) [(.int (0 : Int32)), (.ref vb1)])) rfl rfl (hb hby d_prog_21_method_4_code_16)) ?_
  refine go (fun _ k => by refine XS.astore X1.here hx rfl (hb hby d_prog_21_method_4_code_17) rfl rfl (l' := (fL11 vb1 (3 : Int32) (0 : Int32) w0)) rfl ?_; exact k) ?_
  refine go (fun _ k => by refine XS.aload X1.here hx rfl (hb hby d_prog_21_method_4_code_19) rfl rfl ?_; exact k) ?_
  show OwnEnd _ _ _ _ _ _ _ (T1.setTop (mkF m 21 (fL11 vb1 (3 : Int32) (0 : Int32) w0) [(.ref w0)]))
  obtain ⟨T2, X2, e2, st2⟩ := getF X1 hx hZ hown (host := "") (Or.inl (hw _ (List.mem_of_getElem? (i := 102) rfl))) Via.refl rfl FN0' (g := (mkF m 21 (fL11 vb1 (3 : Int32) (0 : Int32) w0) [(.ref w0)])) rfl rfl (hb hby d_prog_21_method_4_code_21)
  refine go st2 ?_
  refine go (fun _ k => by refine XS.aloadN X2.here hx rfl (hb hby d_prog_21_method_4_code_24) rfl rfl ?_; exact k) ?_
  show OwnEnd _ _ _ _ _ _ _ (T2.setTop (mkF m 25 (fL11 vb1 (3 : Int32) (0 : Int32) w0) [.null, (.ref nn0)]))
  obtain ⟨_, T3, L3, X3, hQ3, st3⟩ := callVirt X2 hx hZ hown (hw _ (List.mem_of_getElem? (i := 104) rfl)) (hw _ (List.mem_of_getElem? (i := 71) rfl)) (notFace_of_selects (args := #[]) (mvT hZ (hw _ (List.mem_of_getElem? (i := 73) rfl)))) (hw _ (List.mem_of_getElem? (i := 73) rfl)) (hw _ (List.mem_of_getElem? (i := 72) rfl)) (hw _ (List.mem_of_getElem? (i := 1) rfl)) (hw _ (List.mem_of_getElem? (i := 74) rfl)) (by decide) (rm_eqn l Z a0 hw [] nn0 T1.heap n0 ) (W := 0) (by decide) (by decide) e2 EN0' (g := (mkF m 25 (fL11 vb1 (3 : Int32) (0 : Int32) w0) [.null, (.ref nn0)])) rfl (by rw [hml]; rfl) (argsL := [.null]) (rest := []) rfl (lenOf pd__Ljava_lang_Object__Z rfl) rfl (by show 2 * 0 + _ ≤ _; exact Nat.le_of_eq rfl) (hb hby d_prog_21_method_4_code_25) (by decide) (by decide)
  obtain ⟨rfl, Nq3, eq3⟩ := hQ3
  have N3 := Fr.app N1 Nq3
  refine go st3 ?_
  show OwnEnd _ _ _ _ _ _ _ (T3.setTop (mkF m 28 (fL11 vb1 (3 : Int32) (0 : Int32) w0) [(.int (0 : Int32))]))
  refine go (fun _ k => by refine XS.ifYes X3.here hx rfl (pc0 := 28) (pc' := 34) rfl (hb hby d_prog_21_method_4_code_28) rfl ((if0 _ _).trans (teq (by decide)).1) (by decide) (by decide) ?_; exact k) ?_
  show OwnEnd _ _ _ _ _ _ _ (T3.setTop (mkF m 34 (fL11 vb1 (3 : Int32) (0 : Int32) w0) []))
  refine go (fun _ k => by refine XS.iinc X3.here hx rfl (hb hby d_prog_21_method_4_code_34) rfl (l' := (fL11 vb1 (3 : Int32) ((0 : Int32) + (1 : Int32)) w0)) rfl ?_; exact k) ?_
  show OwnEnd _ _ _ _ _ _ _ (T3.setTop (mkF m 37 (fL11 vb1 (3 : Int32) ((0 : Int32) + (1 : Int32)) w0) []))
  rw [show ((0 : Int32) + (1 : Int32)) = (1 : Int32) from by decide]
  refine go (fun _ k => by refine XS.goto X3.here hx rfl (pc0 := 37) (pc' := 9) rfl (hb hby d_prog_21_method_4_code_37) (by decide) (by decide) ?_; exact k) ?_
  refine go (fun _ k => by refine XS.iloadN X3.here hx rfl (hb hby d_prog_21_method_4_code_9) rfl ?_; exact k) ?_
  refine go (fun _ k => by refine XS.iloadN X3.here hx rfl (hb hby d_prog_21_method_4_code_10) rfl ?_; exact k) ?_
  show OwnEnd _ _ _ _ _ _ _ (T3.setTop (mkF m 11 (fL11 vb1 (3 : Int32) (1 : Int32) w0) [(.int (3 : Int32)), (.int (1 : Int32))]))
  refine go (fun _ k => by refine XS.icmpNo X3.here hx rfl (hb hby d_prog_21_method_4_code_11) rfl (tlt (by decide)).2.1 ?_; exact k) ?_
  refine go (fun _ k => by refine XS.aloadN X3.here hx rfl (hb hby d_prog_21_method_4_code_14) rfl rfl ?_; exact k) ?_
  refine go (fun _ k => by refine XS.iloadN X3.here hx rfl (hb hby d_prog_21_method_4_code_15) rfl ?_; exact k) ?_
  show OwnEnd _ _ _ _ _ _ _ (T3.setTop (mkF m 16 (fL11 vb1 (3 : Int32) (1 : Int32) w0) [(.int (1 : Int32)), (.ref vb1)]))
  refine go (ldRv X3 hx hZ eq3 V_vb1 (j := (1 : Int32)) (i := 1) (w := (.ref w1)) rfl (by decide) (by decide) (by decide) rfl (g := (mkF m 16 (fL11 vb1 (3 : Int32) (1 : Int32) w0) [(.int (1 : Int32)), (.ref vb1)])) rfl rfl (hb hby d_prog_21_method_4_code_16)) ?_
  refine go (fun _ k => by refine XS.astore X3.here hx rfl (hb hby d_prog_21_method_4_code_17) rfl rfl (l' := (fL11 vb1 (3 : Int32) (1 : Int32) w1)) rfl ?_; exact k) ?_
  refine go (fun _ k => by refine XS.aload X3.here hx rfl (hb hby d_prog_21_method_4_code_19) rfl rfl ?_; exact k) ?_
  show OwnEnd _ _ _ _ _ _ _ (T3.setTop (mkF m 21 (fL11 vb1 (3 : Int32) (1 : Int32) w1) [(.ref w1)]))
  obtain ⟨T4, X4, e4, st4⟩ := getF X3 hx hZ hown (host := "") (Or.inl (hw _ (List.mem_of_getElem? (i := 102) rfl))) Via.refl eq3 FN1' (g := (mkF m 21 (fL11 vb1 (3 : Int32) (1 : Int32) w1) [(.ref w1)])) rfl rfl (hb hby d_prog_21_method_4_code_21)
  refine go st4 ?_
  refine go (fun _ k => by refine XS.aloadN X4.here hx rfl (hb hby d_prog_21_method_4_code_24) rfl rfl ?_; exact k) ?_
  show OwnEnd _ _ _ _ _ _ _ (T4.setTop (mkF m 25 (fL11 vb1 (3 : Int32) (1 : Int32) w1) [.null, (.ref nn1)]))
  obtain ⟨_, T5, L5, X5, hQ5, st5⟩ := callVirt X4 hx hZ hown (hw _ (List.mem_of_getElem? (i := 104) rfl)) (hw _ (List.mem_of_getElem? (i := 71) rfl)) (notFace_of_selects (args := #[]) (mvT hZ (hw _ (List.mem_of_getElem? (i := 73) rfl)))) (hw _ (List.mem_of_getElem? (i := 73) rfl)) (hw _ (List.mem_of_getElem? (i := 72) rfl)) (hw _ (List.mem_of_getElem? (i := 1) rfl)) (hw _ (List.mem_of_getElem? (i := 74) rfl)) (by decide) (rm_eqn l Z a0 hw [] nn1 T1.heap n0 ) (W := 0) (by decide) (by decide) e4 EN1' (g := (mkF m 25 (fL11 vb1 (3 : Int32) (1 : Int32) w1) [.null, (.ref nn1)])) rfl (by rw [hml]; rfl) (argsL := [.null]) (rest := []) rfl (lenOf pd__Ljava_lang_Object__Z rfl) rfl (by show 2 * 0 + _ ≤ _; exact Nat.le_of_eq rfl) (hb hby d_prog_21_method_4_code_25) (by decide) (by decide)
  obtain ⟨rfl, Nq5, eq5⟩ := hQ5
  have N5 := Fr.app N3 Nq5
  refine go st5 ?_
  show OwnEnd _ _ _ _ _ _ _ (T5.setTop (mkF m 28 (fL11 vb1 (3 : Int32) (1 : Int32) w1) [(.int (0 : Int32))]))
  refine go (fun _ k => by refine XS.ifYes X5.here hx rfl (pc0 := 28) (pc' := 34) rfl (hb hby d_prog_21_method_4_code_28) rfl ((if0 _ _).trans (teq (by decide)).1) (by decide) (by decide) ?_; exact k) ?_
  show OwnEnd _ _ _ _ _ _ _ (T5.setTop (mkF m 34 (fL11 vb1 (3 : Int32) (1 : Int32) w1) []))
  refine go (fun _ k => by refine XS.iinc X5.here hx rfl (hb hby d_prog_21_method_4_code_34) rfl (l' := (fL11 vb1 (3 : Int32) ((1 : Int32) + (1 : Int32)) w1)) rfl ?_; exact k) ?_
  show OwnEnd _ _ _ _ _ _ _ (T5.setTop (mkF m 37 (fL11 vb1 (3 : Int32) ((1 : Int32) + (1 : Int32)) w1) []))
  rw [show ((1 : Int32) + (1 : Int32)) = (2 : Int32) from by decide]
  refine go (fun _ k => by refine XS.goto X5.here hx rfl (pc0 := 37) (pc' := 9) rfl (hb hby d_prog_21_method_4_code_37) (by decide) (by decide) ?_; exact k) ?_
  refine go (fun _ k => by refine XS.iloadN X5.here hx rfl (hb hby d_prog_21_method_4_code_9) rfl ?_; exact k) ?_
  refine go (fun _ k => by refine XS.iloadN X5.here hx rfl (hb hby d_prog_21_method_4_code_10) rfl ?_; exact k) ?_
  show OwnEnd _ _ _ _ _ _ _ (T5.setTop (mkF m 11 (fL11 vb1 (3 : Int32) (2 : Int32) w1) [(.int (3 : Int32)), (.int (2 : Int32))]))
  refine go (fun _ k => by refine XS.icmpNo X5.here hx rfl (hb hby d_prog_21_method_4_code_11) rfl (tlt (by decide)).2.1 ?_; exact k) ?_
  refine go (fun _ k => by refine XS.aloadN X5.here hx rfl (hb hby d_prog_21_method_4_code_14) rfl rfl ?_; exact k) ?_
  refine go (fun _ k => by refine XS.iloadN X5.here hx rfl (hb hby d_prog_21_method_4_code_15) rfl ?_; exact k) ?_
  show OwnEnd _ _ _ _ _ _ _ (T5.setTop (mkF m 16 (fL11 vb1 (3 : Int32) (2 : Int32) w1) [(.int (2 : Int32)), (.ref vb1)]))
  refine go (ldRv X5 hx hZ eq5 V_vb1 (j := (2 : Int32)) (i := 2) (w := (.ref w2)) rfl (by decide) (by decide) (by decide) rfl (g := (mkF m 16 (fL11 vb1 (3 : Int32) (2 : Int32) w1) [(.int (2 : Int32)), (.ref vb1)])) rfl rfl (hb hby d_prog_21_method_4_code_16)) ?_
  refine go (fun _ k => by refine XS.astore X5.here hx rfl (hb hby d_prog_21_method_4_code_17) rfl rfl (l' := (fL11 vb1 (3 : Int32) (2 : Int32) w2)) rfl ?_; exact k) ?_
  refine go (fun _ k => by refine XS.aload X5.here hx rfl (hb hby d_prog_21_method_4_code_19) rfl rfl ?_; exact k) ?_
  show OwnEnd _ _ _ _ _ _ _ (T5.setTop (mkF m 21 (fL11 vb1 (3 : Int32) (2 : Int32) w2) [(.ref w2)]))
  obtain ⟨T6, X6, e6, st6⟩ := getF X5 hx hZ hown (host := "") (Or.inl (hw _ (List.mem_of_getElem? (i := 102) rfl))) Via.refl eq5 FN2' (g := (mkF m 21 (fL11 vb1 (3 : Int32) (2 : Int32) w2) [(.ref w2)])) rfl rfl (hb hby d_prog_21_method_4_code_21)
  refine go st6 ?_
  refine go (fun _ k => by refine XS.aloadN X6.here hx rfl (hb hby d_prog_21_method_4_code_24) rfl rfl ?_; exact k) ?_
  show OwnEnd _ _ _ _ _ _ _ (T6.setTop (mkF m 25 (fL11 vb1 (3 : Int32) (2 : Int32) w2) [.null, (.ref nn2)]))
  obtain ⟨_, T7, L7, X7, hQ7, st7⟩ := callVirt X6 hx hZ hown (hw _ (List.mem_of_getElem? (i := 104) rfl)) (hw _ (List.mem_of_getElem? (i := 71) rfl)) (notFace_of_selects (args := #[]) (mvT hZ (hw _ (List.mem_of_getElem? (i := 73) rfl)))) (hw _ (List.mem_of_getElem? (i := 73) rfl)) (hw _ (List.mem_of_getElem? (i := 72) rfl)) (hw _ (List.mem_of_getElem? (i := 1) rfl)) (hw _ (List.mem_of_getElem? (i := 74) rfl)) (by decide) (rm_eqn l Z a0 hw [] nn2 T1.heap n0 ) (W := 0) (by decide) (by decide) e6 EN2' (g := (mkF m 25 (fL11 vb1 (3 : Int32) (2 : Int32) w2) [.null, (.ref nn2)])) rfl (by rw [hml]; rfl) (argsL := [.null]) (rest := []) rfl (lenOf pd__Ljava_lang_Object__Z rfl) rfl (by show 2 * 0 + _ ≤ _; exact Nat.le_of_eq rfl) (hb hby d_prog_21_method_4_code_25) (by decide) (by decide)
  obtain ⟨rfl, Nq7, eq7⟩ := hQ7
  have N7 := Fr.app N5 Nq7
  refine go st7 ?_
  show OwnEnd _ _ _ _ _ _ _ (T7.setTop (mkF m 28 (fL11 vb1 (3 : Int32) (2 : Int32) w2) [(.int (0 : Int32))]))
  refine go (fun _ k => by refine XS.ifYes X7.here hx rfl (pc0 := 28) (pc' := 34) rfl (hb hby d_prog_21_method_4_code_28) rfl ((if0 _ _).trans (teq (by decide)).1) (by decide) (by decide) ?_; exact k) ?_
  show OwnEnd _ _ _ _ _ _ _ (T7.setTop (mkF m 34 (fL11 vb1 (3 : Int32) (2 : Int32) w2) []))
  refine go (fun _ k => by refine XS.iinc X7.here hx rfl (hb hby d_prog_21_method_4_code_34) rfl (l' := (fL11 vb1 (3 : Int32) ((2 : Int32) + (1 : Int32)) w2)) rfl ?_; exact k) ?_
  show OwnEnd _ _ _ _ _ _ _ (T7.setTop (mkF m 37 (fL11 vb1 (3 : Int32) ((2 : Int32) + (1 : Int32)) w2) []))
  rw [show ((2 : Int32) + (1 : Int32)) = (3 : Int32) from by decide]
  refine go (fun _ k => by refine XS.goto X7.here hx rfl (pc0 := 37) (pc' := 9) rfl (hb hby d_prog_21_method_4_code_37) (by decide) (by decide) ?_; exact k) ?_
  refine go (fun _ k => by refine XS.iloadN X7.here hx rfl (hb hby d_prog_21_method_4_code_9) rfl ?_; exact k) ?_
  refine go (fun _ k => by refine XS.iloadN X7.here hx rfl (hb hby d_prog_21_method_4_code_10) rfl ?_; exact k) ?_
  show OwnEnd _ _ _ _ _ _ _ (T7.setTop (mkF m 11 (fL11 vb1 (3 : Int32) (3 : Int32) w2) [(.int (3 : Int32)), (.int (3 : Int32))]))
  refine go (fun _ k => by refine XS.icmpYes X7.here hx rfl (pc0 := 11) (pc' := 40) rfl (hb hby d_prog_21_method_4_code_11) rfl (flt (by decide)).2.1 (by decide) (by decide) ?_; exact k) ?_
  refine go (fun _ k => by refine XS.aconstNull X7.here hx rfl (hb hby d_prog_21_method_4_code_40) ?_; exact k) ?_
  show OwnEnd _ _ _ _ _ _ _ (T7.setTop (mkF m 41 (fL11 vb1 (3 : Int32) (3 : Int32) w2) [.null]))
  refine endA X7 hx hlk Bd.returns rfl rfl (hb hby d_prog_21_method_4_code_41) eq7 (by decide) (by decide) ?_
  exact ⟨rfl, N7, KK⟩
theorem pd__II_I : parseMethodDescriptor "(II)I" = some ⟨[.int, .int], some .int⟩ := by decide +kernel
theorem pd__Ljava_lang_String__Lcom_example_minder_minder_model_ClockValue_ : parseMethodDescriptor "(Ljava/lang/String;)Lcom/example/minder/minder/model/ClockValue;" = some ⟨[(.object "java/lang/String")], some (.object "com/example/minder/minder/model/ClockValue")⟩ := by decide +kernel
theorem pd___C_V : parseMethodDescriptor "([C)V" = some ⟨[(.array .char)], none⟩ := by decide +kernel
theorem pd__Ljava_lang_String_IICZ_C : parseMethodDescriptor "(Ljava/lang/String;IICZ)C" = some ⟨[(.object "java/lang/String"), .int, .int, .char, .boolean], some .char⟩ := by decide +kernel
theorem ef_rm_law (m : MethodId) (y0 : Int32) (y1 : Int32) (y2 : Int32) (y3 : Int32) : entryFrame m #[(.int y0), (.int y1), (.int y2), (.int y3)] maxLocals = mkF m 0 #[.val (.int y0), .val (.int y1), .val (.int y2), .val (.int y3), .unset, .unset, .unset, .unset, .unset, .unset, .unset, .unset, .unset] [] := by first | (simp [entryFrame, mkF, argsToLocals, Value.category, maxLocals]; done) | rfl
def Q_rm_law (Z : State) (p0 : Int32) (p1 : Int32) (p2 : Int32) (p3 : Int32) (cs : Int32) (va : Addr) (vk : ClassId) (w0 : Addr) (w1 : Addr) (w2 : Addr) (nn0 : Addr) (nn1 : Addr) (nn2 : Addr) (tn0 : Addr) (tn1 : Addr) (tn2 : Addr) (kn0 : ClassId) (kn1 : ClassId) (kn2 : ClassId) (fm : Value) (h0 : Heap) (n0 : Nat) (v : Option Value) (h : Heap) (L : List Loc) : Prop := v = some (.int 1) ∧ Fr n0 L
set_option maxRecDepth 65536 in
set_option maxHeartbeats 40000000 in
theorem rm_law (l : Launch) (Z : State) (a0 : Array Value) (hw : ∀ d ∈ tables_1, d.before a0 Z = true) (ws : List Jvm.Cond) (p0 : Int32) (p1 : Int32) (p2 : Int32) (p3 : Int32) (cs : Int32) (va : Addr) (vk : ClassId) (w0 : Addr) (w1 : Addr) (w2 : Addr) (nn0 : Addr) (nn1 : Addr) (nn2 : Addr) (tn0 : Addr) (tn1 : Addr) (tn2 : Addr) (kn0 : ClassId) (kn1 : ClassId) (kn2 : ClassId) (fm : Value) (h0 : Heap) (n0 : Nat) (Z0 : n0 ≤ h0.size) (O : Old Z n0 h0) (SC0 : Sta Z Z.heap "java/lang/String" "COMPACT_STRINGS" "Z" (.int cs)) (c1 : ¬ cs = (0 : Int32)) (SV : Sta Z Z.heap "com/example/minder/minder/model/ClockValue" "$VALUES" "[Lcom/example/minder/minder/model/ClockValue;" (.ref va)) (VV : Arv Z Z.heap va vk (.object "com/example/minder/minder/model/ClockValue") 3 [.ref w0, .ref w1, .ref w2] .null) (EV : Exa Z Z.heap va "[Lcom/example/minder/minder/model/ClockValue;") (EW0 : Exa Z Z.heap w0 "com/example/minder/minder/model/ClockValue") (FN0 : Fld Z Z.heap w0 "com/example/minder/minder/model/ClockValue" "name" "Ljava/lang/String;" (.ref nn0)) (EN0 : Exa Z Z.heap nn0 "java/lang/String") (VN0 : Fld Z Z.heap nn0 "java/lang/String" "value" "[B" (.ref tn0)) (DN0 : Fld Z Z.heap nn0 "java/lang/String" "coder" "B" (.int 0)) (AN0 : Arv Z Z.heap tn0 kn0 .byte (Int32.ofNat ([(104 : Int32), (111 : Int32), (117 : Int32), (114 : Int32)] : List Int32).length) (own_vs ([(104 : Int32), (111 : Int32), (117 : Int32), (114 : Int32)] : List Int32)) (.int 0)) (EW1 : Exa Z Z.heap w1 "com/example/minder/minder/model/ClockValue") (FN1 : Fld Z Z.heap w1 "com/example/minder/minder/model/ClockValue" "name" "Ljava/lang/String;" (.ref nn1)) (EN1 : Exa Z Z.heap nn1 "java/lang/String") (VN1 : Fld Z Z.heap nn1 "java/lang/String" "value" "[B" (.ref tn1)) (DN1 : Fld Z Z.heap nn1 "java/lang/String" "coder" "B" (.int 0)) (AN1 : Arv Z Z.heap tn1 kn1 .byte (Int32.ofNat ([(109 : Int32), (105 : Int32), (110 : Int32), (117 : Int32), (116 : Int32), (101 : Int32)] : List Int32).length) (own_vs ([(109 : Int32), (105 : Int32), (110 : Int32), (117 : Int32), (116 : Int32), (101 : Int32)] : List Int32)) (.int 0)) (EW2 : Exa Z Z.heap w2 "com/example/minder/minder/model/ClockValue") (FN2 : Fld Z Z.heap w2 "com/example/minder/minder/model/ClockValue" "name" "Ljava/lang/String;" (.ref nn2)) (EN2 : Exa Z Z.heap nn2 "java/lang/String") (VN2 : Fld Z Z.heap nn2 "java/lang/String" "value" "[B" (.ref tn2)) (DN2 : Fld Z Z.heap nn2 "java/lang/String" "coder" "B" (.int 0)) (AN2 : Arv Z Z.heap tn2 kn2 .byte (Int32.ofNat ([(100 : Int32), (97 : Int32), (121 : Int32), (79 : Int32), (102 : Int32), (87 : Int32), (101 : Int32), (101 : Int32), (107 : Int32)] : List Int32).length) (own_vs ([(100 : Int32), (97 : Int32), (121 : Int32), (79 : Int32), (102 : Int32), (87 : Int32), (101 : Int32), (101 : Int32), (107 : Int32)] : List Int32)) (.int 0)) (M0 : Sta Z Z.heap "com/example/minder/minder/model/ClockValue" "HOUR" "Lcom/example/minder/minder/model/ClockValue;" (.ref w0)) (M1 : Sta Z Z.heap "com/example/minder/minder/model/ClockValue" "MINUTE" "Lcom/example/minder/minder/model/ClockValue;" (.ref w1)) (M2 : Sta Z Z.heap "com/example/minder/minder/model/ClockValue" "DAY_OF_WEEK" "Lcom/example/minder/minder/model/ClockValue;" (.ref w2)) (SF0 : Sta Z Z.heap "jdk/internal/util/Preconditions" "SIOOBE_FORMATTER" "Ljava/util/function/BiFunction;" fm) (rf : fm.isRef = true) (hEL : EW Z a0 own_EL) :
    MetFree l x (head1 (Jvm.Cond.code x code maxLocals ret :: ws) room_1) (fun a U => a = #[(.int p0), (.int p1), (.int p2), (.int p3)] ∧ Z.Warmed39 U.vm ∧ U.heap = h0 ∧ CHv Z own_EL U.vm h0) (fun _ _ _ _ _ => True) (fun _ U o U' => ∃ v L, o = .returned v ∧ Q_rm_law Z p0 p1 p2 p3 cs va vk w0 w1 w2 nn0 nn1 nn2 tn0 tn1 tn2 kn0 kn1 kn2 fm h0 n0 v U'.heap L ∧ ReturnedEndW U o U' L 32 5312) := by
  refine MetFree.of_bodySF (plainFor_of_name pn_com_example_minder_minder_model_ClockValueOfPinLaw) hisR ?_
  intro p e s m args below meth c s₁ Bd hml0 hP hK
  obtain ⟨rfl, hZ, hh, hH⟩ := hP
  have hx := Bd.exec
  have hby := Bd.bytes
  have hlk := Bd.notSynchronized
  have hml : c.maxLocals = 13 := hml0
  have hown : s.vm.findClass "com/example/minder/minder/model/ClockValueOfPinLaw" = some m.cls := findClass_of_methodNamed Bd.named
  have hnm := (name_of_methodNamed Bd.named Bd.method).1
  have X0 : Stand p l e room_1 s m #[(.int p0), (.int p1), (.int p2), (.int p3)] below meth c s₁ [] 0 0 := Stand.of_body Bd
  have e0 : s₁.heap = h0 := by rw [← hh, Bd.state]; rfl
  have N0 := Fr.nil n0
  show OwnEndW p e below s (Q_rm_law Z p0 p1 p2 p3 cs va vk w0 w1 w2 nn0 nn1 nn2 tn0 tn1 tn2 kn0 kn1 kn2 fm h0 n0) 32 5312 (s₁.setTop (entryFrame m #[(.int p0), (.int p1), (.int p2), (.int p3)] maxLocals))
  refine goW (fun t k => castTop (ef_rm_law m p0 p1 p2 p3) k) ?_
  have SC := SC0.ext O.2
  have hS := (State.WarmedH.refl s).since 0
  have hk : 0 ≤ h0.size := Nat.zero_le _
  have wS : ∀ a ∈ Bundle.stringAtoms, a.before a0 Z = true := by
    intro d hd
    simp only [Bundle.stringAtoms, List.mem_cons, List.not_mem_nil, or_false] at hd
    rcases hd with rfl | rfl | rfl | rfl | rfl | rfl | rfl
    · first | exact (hw _ (List.mem_of_getElem? (i := 1) rfl)) | exact (hw _ (List.mem_of_getElem? (i := 2) rfl)) | exact (hw _ (List.mem_of_getElem? (i := 3) rfl)) | exact (hw _ (List.mem_of_getElem? (i := 4) rfl)) | exact (hw _ (List.mem_of_getElem? (i := 5) rfl)) | exact (hw _ (List.mem_of_getElem? (i := 6) rfl)) | exact (hw _ (List.mem_of_getElem? (i := 7) rfl))
    · first | exact (hw _ (List.mem_of_getElem? (i := 1) rfl)) | exact (hw _ (List.mem_of_getElem? (i := 2) rfl)) | exact (hw _ (List.mem_of_getElem? (i := 3) rfl)) | exact (hw _ (List.mem_of_getElem? (i := 4) rfl)) | exact (hw _ (List.mem_of_getElem? (i := 5) rfl)) | exact (hw _ (List.mem_of_getElem? (i := 6) rfl)) | exact (hw _ (List.mem_of_getElem? (i := 7) rfl))
    · first | exact (hw _ (List.mem_of_getElem? (i := 1) rfl)) | exact (hw _ (List.mem_of_getElem? (i := 2) rfl)) | exact (hw _ (List.mem_of_getElem? (i := 3) rfl)) | exact (hw _ (List.mem_of_getElem? (i := 4) rfl)) | exact (hw _ (List.mem_of_getElem? (i := 5) rfl)) | exact (hw _ (List.mem_of_getElem? (i := 6) rfl)) | exact (hw _ (List.mem_of_getElem? (i := 7) rfl))
    · first | exact (hw _ (List.mem_of_getElem? (i := 1) rfl)) | exact (hw _ (List.mem_of_getElem? (i := 2) rfl)) | exact (hw _ (List.mem_of_getElem? (i := 3) rfl)) | exact (hw _ (List.mem_of_getElem? (i := 4) rfl)) | exact (hw _ (List.mem_of_getElem? (i := 5) rfl)) | exact (hw _ (List.mem_of_getElem? (i := 6) rfl)) | exact (hw _ (List.mem_of_getElem? (i := 7) rfl))
    · first | exact (hw _ (List.mem_of_getElem? (i := 1) rfl)) | exact (hw _ (List.mem_of_getElem? (i := 2) rfl)) | exact (hw _ (List.mem_of_getElem? (i := 3) rfl)) | exact (hw _ (List.mem_of_getElem? (i := 4) rfl)) | exact (hw _ (List.mem_of_getElem? (i := 5) rfl)) | exact (hw _ (List.mem_of_getElem? (i := 6) rfl)) | exact (hw _ (List.mem_of_getElem? (i := 7) rfl))
    · first | exact (hw _ (List.mem_of_getElem? (i := 1) rfl)) | exact (hw _ (List.mem_of_getElem? (i := 2) rfl)) | exact (hw _ (List.mem_of_getElem? (i := 3) rfl)) | exact (hw _ (List.mem_of_getElem? (i := 4) rfl)) | exact (hw _ (List.mem_of_getElem? (i := 5) rfl)) | exact (hw _ (List.mem_of_getElem? (i := 6) rfl)) | exact (hw _ (List.mem_of_getElem? (i := 7) rfl))
    · first | exact (hw _ (List.mem_of_getElem? (i := 1) rfl)) | exact (hw _ (List.mem_of_getElem? (i := 2) rfl)) | exact (hw _ (List.mem_of_getElem? (i := 3) rfl)) | exact (hw _ (List.mem_of_getElem? (i := 4) rfl)) | exact (hw _ (List.mem_of_getElem? (i := 5) rfl)) | exact (hw _ (List.mem_of_getElem? (i := 6) rfl)) | exact (hw _ (List.mem_of_getElem? (i := 7) rfl))
  have HC := CHr.refl hH
  show OwnEndW _ _ _ _ _ _ _ (s₁.setTop (mkF m 0 (fL12 p0 p1 p2 p3) []))
  refine goW (fun _ k => by refine XS.iloadN X0.here hx rfl (hb hby at_0) rfl ?_; exact k) ?_
  refine goW (fun _ k => by refine XS.iconst X0.here hx rfl (hb hby at_1) ?_; exact k) ?_
  refine goW (fun _ k => by refine XS.iand X0.here hx rfl (hb hby at_2) rfl ?_; exact k) ?_
  refine goW (fun _ k => by refine XS.istore X0.here hx rfl (hb hby at_3) rfl (l' := (fL13 p0 p1 p2 p3 (p0 &&& (3 : Int32)))) rfl ?_; exact k) ?_
  show OwnEndW _ _ _ _ _ _ _ (s₁.setTop (mkF m 5 (fL13 p0 p1 p2 p3 (p0 &&& (3 : Int32))) []))
  generalize qx1 : (p0 &&& (3 : Int32)) = x1
  show OwnEndW _ _ _ _ _ _ _ (s₁.setTop (mkF m 5 (fL13 p0 p1 p2 p3 x1) []))
  refine goW (fun _ k => by refine XS.iloadN X0.here hx rfl (hb hby at_5) rfl ?_; exact k) ?_
  refine goW (fun _ k => by refine XS.iconst X0.here hx rfl (hb hby at_6) ?_; exact k) ?_
  refine goW (fun _ k => by refine XS.iushr X0.here hx rfl (hb hby at_7) rfl ?_; exact k) ?_
  refine goW (fun _ k => by refine XS.iconst X0.here hx rfl (hb hby at_8) ?_; exact k) ?_
  show OwnEndW _ _ _ _ _ _ _ (s₁.setTop (mkF m 9 (fL13 p0 p1 p2 p3 x1) [(.int (3 : Int32)), (.int ((p0.toUInt32 >>> ((2 : Int32) &&& 31).toUInt32).toInt32))]))
  refine goW (fun _ k => by refine XS.iand X0.here hx rfl (hb hby at_9) rfl ?_; exact k) ?_
  refine goW (fun _ k => by refine XS.istore X0.here hx rfl (hb hby at_10) rfl (l' := (fL14 p0 p1 p2 p3 x1 (((p0.toUInt32 >>> ((2 : Int32) &&& 31).toUInt32).toInt32) &&& (3 : Int32)))) rfl ?_; exact k) ?_
  show OwnEndW _ _ _ _ _ _ _ (s₁.setTop (mkF m 12 (fL14 p0 p1 p2 p3 x1 (((p0.toUInt32 >>> ((2 : Int32) &&& 31).toUInt32).toInt32) &&& (3 : Int32))) []))
  generalize qx2 : (((p0.toUInt32 >>> ((2 : Int32) &&& 31).toUInt32).toInt32) &&& (3 : Int32)) = x2
  have J54 : ∀ (vm1 : Vm) (T1 : State) (L1 : List Loc) (h1 : Heap) (k1 : Nat) (b t : Addr) (kb : ClassId) (bs : List Int32) (X1 : Stand p l e room_1 (s.setVm vm1) m #[(.int p0), (.int p1), (.int p2), (.int p3)] below meth c T1 L1 2 40) (N1 : Fr n0 L1) (e1 : T1.heap = h1) (hS : s.Since vm1 k1) (hk : k1 ≤ h1.size) (hZ : Z.Warmed39 (s.setVm vm1).vm) (hown : (s.setVm vm1).vm.findClass "com/example/minder/minder/model/ClockValueOfPinLaw" = some m.cls) (HC : CHr Z own_EL s.vm h0 vm1 h1) (O : Old Z n0 h1) (Z0 : n0 ≤ h1.size) (hbs : ∀ c ∈ bs, ¬ c < 0 ∧ ¬ (255 : Int32) < c) (lbs : bs.length ≤ 9) (EB : Exa Z h1 b "java/lang/String") (VB : Fld Z h1 b "java/lang/String" "value" "[B" (.ref t)) (DB : Fld Z h1 b "java/lang/String" "coder" "B" (.int 0)) (AB : Arv Z h1 t kb .byte (Int32.ofNat bs.length) (own_vs bs) (.int 0)), OwnEndW p e below s (Q_rm_law Z p0 p1 p2 p3 cs va vk w0 w1 w2 nn0 nn1 nn2 tn0 tn1 tn2 kn0 kn1 kn2 fm h0 n0) 32 5312 (T1.setTop (mkF m 54 (fL15 p0 p1 p2 p3 x1 x2 b) [])) := by
    intro vm1 T1 L1 h1 k1 b t kb bs X1 N1 e1 hS hk hZ hown HC O Z0 hbs lbs EB VB DB AB
    have SC := SC0.ext O.2
    have SK0 := M0.ext O.2
    have SK1 := M1.ext O.2
    have SK2 := M2.ext O.2
    show OwnEndW _ _ _ _ _ _ _ (T1.setTop (mkF m 54 (fL15 p0 p1 p2 p3 x1 x2 b) []))
    refine goW (fun _ k => by refine XS.iloadN X1.here hx rfl (hb hby at_54) rfl ?_; exact k) ?_
    refine goW (fun _ k => by refine XS.sipush X1.here hx rfl (hb hby at_55) ?_; exact k) ?_
    refine goW (fun _ k => by refine XS.iand X1.here hx rfl (hb hby at_58) rfl ?_; exact k) ?_
    refine goW (fun _ k => by refine XS.i2c X1.here hx rfl (hb hby at_59) rfl ?_; exact k) ?_
    show OwnEndW _ _ _ _ _ _ _ (T1.setTop (mkF m 60 (fL15 p0 p1 p2 p3 x1 x2 b) [(.int ((p2 &&& (255 : Int32)).toUInt32.toUInt16.toUInt32.toInt32))]))
    refine goW (fun _ k => by refine XS.istore X1.here hx rfl (hb hby at_60) rfl (l' := (fL16 p0 p1 p2 p3 x1 x2 b ((p2 &&& (255 : Int32)).toUInt32.toUInt16.toUInt32.toInt32))) rfl ?_; exact k) ?_
    show OwnEndW _ _ _ _ _ _ _ (T1.setTop (mkF m 62 (fL16 p0 p1 p2 p3 x1 x2 b ((p2 &&& (255 : Int32)).toUInt32.toUInt16.toUInt32.toInt32)) []))
    generalize qx3 : ((p2 &&& (255 : Int32)).toUInt32.toUInt16.toUInt32.toInt32) = x3
    have hc7 := own_cir p2
    rw [qx3] at hc7
    refine goW (fun _ k => by refine XS.iloadN X1.here hx rfl (hb hby at_62) rfl ?_; exact k) ?_
    show OwnEndW _ _ _ _ _ _ _ (T1.setTop (mkF m 63 (fL16 p0 p1 p2 p3 x1 x2 b x3) [(.int p1)]))
    refine goW (X1.ldcInt hx hown (mvT hZ (hw _ (List.mem_of_getElem? (i := 8) rfl))) (g := (mkF m 63 (fL16 p0 p1 p2 p3 x1 x2 b x3) [(.int p1)])) rfl (hb hby at_63)) ?_
    refine goW (fun _ k => by refine XS.iand X1.here hx rfl (hb hby at_65) rfl ?_; exact k) ?_
    refine goW (fun _ k => by refine XS.bipush X1.here hx rfl (hb hby at_66) ?_; exact k) ?_
    show OwnEndW _ _ _ _ _ _ _ (T1.setTop (mkF m 68 (fL16 p0 p1 p2 p3 x1 x2 b x3) [(.int (10 : Int32)), (.int (p1 &&& (2147483647 : Int32)))]))
    refine goW (fun t k => iremM (g := (mkF m 68 (fL16 p0 p1 p2 p3 x1 x2 b x3) [(.int (10 : Int32)), (.int (p1 &&& (2147483647 : Int32)))])) X1 hx rfl (hb hby at_68) rfl (by decide) k) ?_
    refine goW (fun _ k => by refine XS.istore X1.here hx rfl (hb hby at_69) rfl (l' := (fL17 p0 p1 p2 p3 x1 x2 b x3 ((p1 &&& (2147483647 : Int32)) % (10 : Int32)))) rfl ?_; exact k) ?_
    show OwnEndW _ _ _ _ _ _ _ (T1.setTop (mkF m 71 (fL17 p0 p1 p2 p3 x1 x2 b x3 ((p1 &&& (2147483647 : Int32)) % (10 : Int32))) []))
    generalize qx4 : ((p1 &&& (2147483647 : Int32)) % (10 : Int32)) = x4
    refine goW (fun _ k => by refine XS.iload X1.here hx rfl (hb hby at_71) rfl ?_; exact k) ?_
    show OwnEndW _ _ _ _ _ _ _ (T1.setTop (mkF m 73 (fL17 p0 p1 p2 p3 x1 x2 b x3 x4) [(.int x2)]))
    have J6 : ∀ (x6_s0 : Int32) (qx6_s0 : x6_s0 = (if x2 = (0 : Int32) then (0 : Int32) else (1 : Int32))), OwnEndW p e below s (Q_rm_law Z p0 p1 p2 p3 cs va vk w0 w1 w2 nn0 nn1 nn2 tn0 tn1 tn2 kn0 kn1 kn2 fm h0 n0) 32 5312 (T1.setTop (mkF m 81 (fL17 p0 p1 p2 p3 x1 x2 b x3 x4) [(.int x6_s0)])) := by
      intro x6_s0 qx6_s0
      show OwnEndW _ _ _ _ _ _ _ (T1.setTop (mkF m 81 (fL17 p0 p1 p2 p3 x1 x2 b x3 x4) [(.int x6_s0)]))
      refine goW (fun _ k => by refine XS.istore X1.here hx rfl (hb hby at_81) rfl (l' := (fL18 p0 p1 p2 p3 x1 x2 b x3 x4 x6_s0)) rfl ?_; exact k) ?_
      refine goW (fun _ k => by refine XS.iload X1.here hx rfl (hb hby at_83) rfl ?_; exact k) ?_
      show OwnEndW _ _ _ _ _ _ _ (T1.setTop (mkF m 85 (fL18 p0 p1 p2 p3 x1 x2 b x3 x4 x6_s0) [(.int x2)]))
      have J20 : ∀ (x20_10 : Int32) (qx20_10 : x20_10 = (if x2 = (0 : Int32) then (Int32.ofNat bs.length) else (if x2 = (1 : Int32) then (Int32.ofNat bs.length) else (if x2 = (2 : Int32) then (own_max (0 : Int32) ((Int32.ofNat bs.length) + (if (p3 &&& (1 : Int32)) = (0 : Int32) then (1 : Int32) else (-1 : Int32)))) else ((p3 &&& (2147483647 : Int32)) % (11 : Int32)))))) (T20 : State) (L20 : List Loc) (X20 : Stand p l e room_1 (s.setVm vm1) m #[(.int p0), (.int p1), (.int p2), (.int p3)] below meth c T20 L20 2 40) (N20 : Fr n0 L20) (e20 : T20.heap = h1), OwnEndW p e below s (Q_rm_law Z p0 p1 p2 p3 cs va vk w0 w1 w2 nn0 nn1 nn2 tn0 tn1 tn2 kn0 kn1 kn2 fm h0 n0) 32 5312 (T20.setTop (mkF m 145 (fL19 p0 p1 p2 p3 x1 x2 b x3 x4 x6_s0 x20_10) [])) := by
        intro x20_10 qx20_10 T20 L20 X20 N20 e20
        have hn := own_nr _ _ _ _ lbs qx20_10
        have J169 : OwnEndW p e below s (Q_rm_law Z p0 p1 p2 p3 cs va vk w0 w1 w2 nn0 nn1 nn2 tn0 tn1 tn2 kn0 kn1 kn2 fm h0 n0) 32 5312 (T20.setTop (mkF m 169 (fL19 p0 p1 p2 p3 x1 x2 b x3 x4 x6_s0 x20_10) [])) := by
          have J417 : ∀ (vm2 : Vm) (T2 : State) (L2 : List Loc) (h2 : Heap) (k2 : Nat) (n10 : Int32) (z12 : Slot) (x t : Addr) (kb : ClassId) (ds : List Int32) (oz12 : One z12) (X2 : Stand p l e room_1 (s.setVm vm2) m #[(.int p0), (.int p1), (.int p2), (.int p3)] below meth c T2 L2 12 120) (N2 : Fr n0 L2) (e2 : T2.heap = h2) (hS : s.Since vm2 k2) (hk : k2 ≤ h2.size) (hZ : Z.Warmed39 (s.setVm vm2).vm) (hown : (s.setVm vm2).vm.findClass "com/example/minder/minder/model/ClockValueOfPinLaw" = some m.cls) (HC : CHr Z own_EL s.vm h0 vm2 h2) (O : Old Z n0 h2) (Z0 : n0 ≤ h2.size) (hds : ∀ c ∈ ds, ¬ c < 0 ∧ ¬ (255 : Int32) < c) (lds : ds.length ≤ 4000) (EX : Exa Z h2 x "java/lang/String") (VX : Fld Z h2 x "java/lang/String" "value" "[B" (.ref t)) (DX : Fld Z h2 x "java/lang/String" "coder" "B" (.int 0)) (AX : Arv Z h2 t kb .byte (Int32.ofNat ds.length) (own_vs ds) (.int 0)), OwnEndW p e below s (Q_rm_law Z p0 p1 p2 p3 cs va vk w0 w1 w2 nn0 nn1 nn2 tn0 tn1 tn2 kn0 kn1 kn2 fm h0 n0) 32 5312 (T2.setTop (mkF m 417 (fL20 p0 p1 p2 p3 x1 x2 b x3 x4 x6_s0 n10 x z12) [])) := by
            intro vm2 T2 L2 h2 k2 n10 z12 x t kb ds oz12 X2 N2 e2 hS hk hZ hown HC O Z0 hds lds EX VX DX AX
            have SC := SC0.ext O.2
            have SK0 := M0.ext O.2
            have SK1 := M1.ext O.2
            have SK2 := M2.ext O.2
            show OwnEndW _ _ _ _ _ _ _ (T2.setTop (mkF m 417 (fL20 p0 p1 p2 p3 x1 x2 b x3 x4 x6_s0 n10 x z12) []))
            refine goW (fun _ k => by refine XS.aload X2.here hx rfl (hb hby at_417) rfl rfl ?_; exact k) ?_
            show OwnEndW _ _ _ _ _ _ _ (T2.setTop (mkF m 419 (fL20 p0 p1 p2 p3 x1 x2 b x3 x4 x6_s0 n10 x z12) [(.ref x)]))
            refine goW (fun _ k => by refine XS.ifnonnullYes X2.here hx rfl (pc0 := 419) (pc' := 428) rfl (hb hby at_419) rfl (by decide) (by decide) ?_; exact k) ?_
            refine goW (fun _ k => by refine XS.aload X2.here hx rfl (hb hby at_428) rfl rfl ?_; exact k) ?_
            show OwnEndW _ _ _ _ _ _ _ (T2.setTop (mkF m 430 (fL20 p0 p1 p2 p3 x1 x2 b x3 x4 x6_s0 n10 x z12) [(.ref x)]))
            obtain ⟨b21, T21, h21, k21, t21, kb21, X21, e21, E21, hS, hk, hZ, hown, E_b21, FC_b21, FV_b21, V_t21, -, -, hC21, hL21, hne21, st21⟩ := ldcCH (vm0 := vm2) (EL := own_EL) X2 hx hZ hown (hw _ (List.mem_of_getElem? (i := 0) rfl)) wS e2 hS hk hEL (List.mem_of_getElem? (i := 0) rfl) HC.1 (vs := [(.int (104 : Int32)), (.int (111 : Int32)), (.int (117 : Int32)), (.int (114 : Int32))]) (z := 4) ⟨by decide +kernel, by decide +kernel⟩ (by decide) (by decide) (g := (mkF m 430 (fL20 p0 p1 p2 p3 x1 x2 b x3 x4 x6_s0 n10 x z12) [(.ref x)])) rfl (hb hby at_430) (n := 16) (by decide) (by decide) (by decide) (by decide)
            have HC := HC.trans hC21
            have Z0 := Nat.le_trans Z0 E21.1
            have O := O.ext E21
            have SC := SC.ext E21
            have SK0 := SK0.ext E21
            have SK1 := SK1.ext E21
            have SK2 := SK2.ext E21
            have EX := EX.ext E21
            have VX := VX.ext E21
            have DX := DX.ext E21
            have AX := AX.ext E21
            have V_t21' : Arv Z h21 t21 kb21 .byte (Int32.ofNat ([(104 : Int32), (111 : Int32), (117 : Int32), (114 : Int32)] : List Int32).length) (own_vs ([(104 : Int32), (111 : Int32), (117 : Int32), (114 : Int32)] : List Int32)) (.int 0) := by rw [show own_vs ([(104 : Int32), (111 : Int32), (117 : Int32), (114 : Int32)] : List Int32) = [(.int (104 : Int32)), (.int (111 : Int32)), (.int (117 : Int32)), (.int (114 : Int32))] from by decide +kernel]; exact V_t21
            have V_t21 := V_t21'
            refine goW st21 ?_
            show OwnEndW _ _ _ _ _ _ _ (T21.setTop (mkF m 432 (fL20 p0 p1 p2 p3 x1 x2 b x3 x4 x6_s0 n10 x z12) [(.ref b21), (.ref x)]))
            obtain ⟨_, T22, L22, X22, hQ22, st22⟩ := callVirtB X21 hx hZ hown (hw _ (List.mem_of_getElem? (i := 70) rfl)) (hw _ (List.mem_of_getElem? (i := 71) rfl)) (notFace_of_selects (args := #[]) (mvT hZ (hw _ (List.mem_of_getElem? (i := 73) rfl)))) (hw _ (List.mem_of_getElem? (i := 73) rfl)) (hw _ (List.mem_of_getElem? (i := 72) rfl)) (by decide) (Qc := fun v hp L => ((v = some (.int 1) ∧ ds = ([(104 : Int32), (111 : Int32), (117 : Int32), (114 : Int32)] : List Int32)) ∨ (v = some (.int 0) ∧ ¬ ds = ([(104 : Int32), (111 : Int32), (117 : Int32), (114 : Int32)] : List Int32))) ∧ L = [] ∧ hp = h21) (StrChars.Road.eqW (W := 0) hZ (fun d hd => hw d ((by decide +kernel : ∀ d ∈ StrChars.Road.wordsEq, d ∈ tables_1) d hd)) (kI := 4) (hw _ (List.mem_of_getElem? (i := 2) rfl)) EX VX DX AX (StrChars.Road.codOf rfl (fun c hc => (hds c hc).2)) (own_up _ hds) lds E_b21 FV_b21 FC_b21 V_t21 (StrChars.Road.codOf rfl (fun c hc => ((show ∀ c ∈ ([(104 : Int32), (111 : Int32), (117 : Int32), (114 : Int32)] : List Int32), ¬ c < 0 ∧ ¬ (255 : Int32) < c by decide) c hc).2)) (own_up _ (show ∀ c ∈ ([(104 : Int32), (111 : Int32), (117 : Int32), (114 : Int32)] : List Int32), ¬ c < 0 ∧ ¬ (255 : Int32) < c by decide)) (by decide) (SC0.ext O.2) c1 (by decide) (by decide)) e21 EX (g := (mkF m 432 (fL20 p0 p1 p2 p3 x1 x2 b x3 x4 x6_s0 n10 x z12) [(.ref b21), (.ref x)])) rfl (by rw [hml]; rfl) (argsL := [(.ref b21)]) (rest := []) rfl (lenOf pd__Ljava_lang_Object__Z rfl) rfl (by show 2 * 0 + _ ≤ _; exact Nat.le_of_eq rfl) (hb hby at_432) (by decide) (by decide)
            obtain ⟨hv22, rfl, eq22⟩ := hQ22
            obtain rfl := own_eqv hv22
            rw [List.append_nil] at X22
            refine goW st22 ?_
            show OwnEndW _ _ _ _ _ _ _ (T22.setTop (mkF m 435 (fL20 p0 p1 p2 p3 x1 x2 b x3 x4 x6_s0 n10 x z12) [(.int (if ds = ([(104 : Int32), (111 : Int32), (117 : Int32), (114 : Int32)] : List Int32) then (1 : Int32) else 0))]))
            by_cases hc435_23 : (if ds = ([(104 : Int32), (111 : Int32), (117 : Int32), (114 : Int32)] : List Int32) then (1 : Int32) else 0) = (0 : Int32)
            · refine goW (fun _ k => by refine XS.ifYes X22.here hx rfl (pc0 := 435) (pc' := 446) rfl (hb hby at_435) rfl ((if0 _ _).trans (teq hc435_23).1) (by decide) (by decide) ?_; exact k) ?_
              show OwnEndW _ _ _ _ _ _ _ (T22.setTop (mkF m 446 (fL20 p0 p1 p2 p3 x1 x2 b x3 x4 x6_s0 n10 x z12) []))
              refine goW (fun _ k => by refine XS.aload X22.here hx rfl (hb hby at_446) rfl rfl ?_; exact k) ?_
              show OwnEndW _ _ _ _ _ _ _ (T22.setTop (mkF m 448 (fL20 p0 p1 p2 p3 x1 x2 b x3 x4 x6_s0 n10 x z12) [(.ref x)]))
              obtain ⟨b24, T24, h24, k24, t24, kb24, X24, e24, E24, hS, hk, hZ, hown, E_b24, FC_b24, FV_b24, V_t24, -, -, hC24, hL24, hne24, st24⟩ := ldcCH (vm0 := T21.vm) (EL := own_EL) X22 hx hZ hown (hw _ (List.mem_of_getElem? (i := 105) rfl)) wS eq22 hS hk hEL (List.mem_of_getElem? (i := 1) rfl) HC.1 (vs := [(.int (109 : Int32)), (.int (105 : Int32)), (.int (110 : Int32)), (.int (117 : Int32)), (.int (116 : Int32)), (.int (101 : Int32))]) (z := 6) ⟨by decide +kernel, by decide +kernel⟩ (by decide) (by decide) (g := (mkF m 448 (fL20 p0 p1 p2 p3 x1 x2 b x3 x4 x6_s0 n10 x z12) [(.ref x)])) rfl (hb hby at_448) (n := 24) (by decide) (by decide) (by decide) (by decide)
              have HC := HC.trans hC24
              have Z0 := Nat.le_trans Z0 E24.1
              have O := O.ext E24
              have SC := SC.ext E24
              have SK0 := SK0.ext E24
              have SK1 := SK1.ext E24
              have SK2 := SK2.ext E24
              have EX := EX.ext E24
              have VX := VX.ext E24
              have DX := DX.ext E24
              have AX := AX.ext E24
              have E_b21 := E_b21.ext E24
              have FV_b21 := FV_b21.ext E24
              have FC_b21 := FC_b21.ext E24
              have V_t21 := V_t21.ext E24
              have V_t24' : Arv Z h24 t24 kb24 .byte (Int32.ofNat ([(109 : Int32), (105 : Int32), (110 : Int32), (117 : Int32), (116 : Int32), (101 : Int32)] : List Int32).length) (own_vs ([(109 : Int32), (105 : Int32), (110 : Int32), (117 : Int32), (116 : Int32), (101 : Int32)] : List Int32)) (.int 0) := by rw [show own_vs ([(109 : Int32), (105 : Int32), (110 : Int32), (117 : Int32), (116 : Int32), (101 : Int32)] : List Int32) = [(.int (109 : Int32)), (.int (105 : Int32)), (.int (110 : Int32)), (.int (117 : Int32)), (.int (116 : Int32)), (.int (101 : Int32))] from by decide +kernel]; exact V_t24
              have V_t24 := V_t24'
              refine goW st24 ?_
              show OwnEndW _ _ _ _ _ _ _ (T24.setTop (mkF m 450 (fL20 p0 p1 p2 p3 x1 x2 b x3 x4 x6_s0 n10 x z12) [(.ref b24), (.ref x)]))
              obtain ⟨_, T25, L25, X25, hQ25, st25⟩ := callVirtB X24 hx hZ hown (hw _ (List.mem_of_getElem? (i := 70) rfl)) (hw _ (List.mem_of_getElem? (i := 71) rfl)) (notFace_of_selects (args := #[]) (mvT hZ (hw _ (List.mem_of_getElem? (i := 73) rfl)))) (hw _ (List.mem_of_getElem? (i := 73) rfl)) (hw _ (List.mem_of_getElem? (i := 72) rfl)) (by decide) (Qc := fun v hp L => ((v = some (.int 1) ∧ ds = ([(109 : Int32), (105 : Int32), (110 : Int32), (117 : Int32), (116 : Int32), (101 : Int32)] : List Int32)) ∨ (v = some (.int 0) ∧ ¬ ds = ([(109 : Int32), (105 : Int32), (110 : Int32), (117 : Int32), (116 : Int32), (101 : Int32)] : List Int32))) ∧ L = [] ∧ hp = h24) (StrChars.Road.eqW (W := 0) hZ (fun d hd => hw d ((by decide +kernel : ∀ d ∈ StrChars.Road.wordsEq, d ∈ tables_1) d hd)) (kI := 4) (hw _ (List.mem_of_getElem? (i := 2) rfl)) EX VX DX AX (StrChars.Road.codOf rfl (fun c hc => (hds c hc).2)) (own_up _ hds) lds E_b24 FV_b24 FC_b24 V_t24 (StrChars.Road.codOf rfl (fun c hc => ((show ∀ c ∈ ([(109 : Int32), (105 : Int32), (110 : Int32), (117 : Int32), (116 : Int32), (101 : Int32)] : List Int32), ¬ c < 0 ∧ ¬ (255 : Int32) < c by decide) c hc).2)) (own_up _ (show ∀ c ∈ ([(109 : Int32), (105 : Int32), (110 : Int32), (117 : Int32), (116 : Int32), (101 : Int32)] : List Int32), ¬ c < 0 ∧ ¬ (255 : Int32) < c by decide)) (by decide) (SC0.ext O.2) c1 (by decide) (by decide)) e24 EX (g := (mkF m 450 (fL20 p0 p1 p2 p3 x1 x2 b x3 x4 x6_s0 n10 x z12) [(.ref b24), (.ref x)])) rfl (by rw [hml]; rfl) (argsL := [(.ref b24)]) (rest := []) rfl (lenOf pd__Ljava_lang_Object__Z rfl) rfl (by show 2 * 0 + _ ≤ _; exact Nat.le_of_eq rfl) (hb hby at_450) (by decide) (by decide)
              obtain ⟨hv25, rfl, eq25⟩ := hQ25
              obtain rfl := own_eqv hv25
              rw [List.append_nil] at X25
              refine goW st25 ?_
              show OwnEndW _ _ _ _ _ _ _ (T25.setTop (mkF m 453 (fL20 p0 p1 p2 p3 x1 x2 b x3 x4 x6_s0 n10 x z12) [(.int (if ds = ([(109 : Int32), (105 : Int32), (110 : Int32), (117 : Int32), (116 : Int32), (101 : Int32)] : List Int32) then (1 : Int32) else 0))]))
              by_cases hc453_26 : (if ds = ([(109 : Int32), (105 : Int32), (110 : Int32), (117 : Int32), (116 : Int32), (101 : Int32)] : List Int32) then (1 : Int32) else 0) = (0 : Int32)
              · refine goW (fun _ k => by refine XS.ifYes X25.here hx rfl (pc0 := 453) (pc' := 464) rfl (hb hby at_453) rfl ((if0 _ _).trans (teq hc453_26).1) (by decide) (by decide) ?_; exact k) ?_
                show OwnEndW _ _ _ _ _ _ _ (T25.setTop (mkF m 464 (fL20 p0 p1 p2 p3 x1 x2 b x3 x4 x6_s0 n10 x z12) []))
                refine goW (fun _ k => by refine XS.aload X25.here hx rfl (hb hby at_464) rfl rfl ?_; exact k) ?_
                show OwnEndW _ _ _ _ _ _ _ (T25.setTop (mkF m 466 (fL20 p0 p1 p2 p3 x1 x2 b x3 x4 x6_s0 n10 x z12) [(.ref x)]))
                obtain ⟨b27, T27, h27, k27, t27, kb27, X27, e27, E27, hS, hk, hZ, hown, E_b27, FC_b27, FV_b27, V_t27, -, -, hC27, hL27, hne27, st27⟩ := ldcCH (vm0 := T24.vm) (EL := own_EL) X25 hx hZ hown (hw _ (List.mem_of_getElem? (i := 106) rfl)) wS eq25 hS hk hEL (List.mem_of_getElem? (i := 2) rfl) HC.1 (vs := [(.int (100 : Int32)), (.int (97 : Int32)), (.int (121 : Int32)), (.int (79 : Int32)), (.int (102 : Int32)), (.int (87 : Int32)), (.int (101 : Int32)), (.int (101 : Int32)), (.int (107 : Int32))]) (z := 9) ⟨by decide +kernel, by decide +kernel⟩ (by decide) (by decide) (g := (mkF m 466 (fL20 p0 p1 p2 p3 x1 x2 b x3 x4 x6_s0 n10 x z12) [(.ref x)])) rfl (hb hby at_466) (n := 36) (by decide) (by decide) (by decide) (by decide)
                have HC := HC.trans hC27
                have Z0 := Nat.le_trans Z0 E27.1
                have O := O.ext E27
                have SC := SC.ext E27
                have SK0 := SK0.ext E27
                have SK1 := SK1.ext E27
                have SK2 := SK2.ext E27
                have EX := EX.ext E27
                have VX := VX.ext E27
                have DX := DX.ext E27
                have AX := AX.ext E27
                have E_b21 := E_b21.ext E27
                have FV_b21 := FV_b21.ext E27
                have FC_b21 := FC_b21.ext E27
                have V_t21 := V_t21.ext E27
                have E_b24 := E_b24.ext E27
                have FV_b24 := FV_b24.ext E27
                have FC_b24 := FC_b24.ext E27
                have V_t24 := V_t24.ext E27
                have V_t27' : Arv Z h27 t27 kb27 .byte (Int32.ofNat ([(100 : Int32), (97 : Int32), (121 : Int32), (79 : Int32), (102 : Int32), (87 : Int32), (101 : Int32), (101 : Int32), (107 : Int32)] : List Int32).length) (own_vs ([(100 : Int32), (97 : Int32), (121 : Int32), (79 : Int32), (102 : Int32), (87 : Int32), (101 : Int32), (101 : Int32), (107 : Int32)] : List Int32)) (.int 0) := by rw [show own_vs ([(100 : Int32), (97 : Int32), (121 : Int32), (79 : Int32), (102 : Int32), (87 : Int32), (101 : Int32), (101 : Int32), (107 : Int32)] : List Int32) = [(.int (100 : Int32)), (.int (97 : Int32)), (.int (121 : Int32)), (.int (79 : Int32)), (.int (102 : Int32)), (.int (87 : Int32)), (.int (101 : Int32)), (.int (101 : Int32)), (.int (107 : Int32))] from by decide +kernel]; exact V_t27
                have V_t27 := V_t27'
                refine goW st27 ?_
                show OwnEndW _ _ _ _ _ _ _ (T27.setTop (mkF m 468 (fL20 p0 p1 p2 p3 x1 x2 b x3 x4 x6_s0 n10 x z12) [(.ref b27), (.ref x)]))
                obtain ⟨_, T28, L28, X28, hQ28, st28⟩ := callVirtB X27 hx hZ hown (hw _ (List.mem_of_getElem? (i := 70) rfl)) (hw _ (List.mem_of_getElem? (i := 71) rfl)) (notFace_of_selects (args := #[]) (mvT hZ (hw _ (List.mem_of_getElem? (i := 73) rfl)))) (hw _ (List.mem_of_getElem? (i := 73) rfl)) (hw _ (List.mem_of_getElem? (i := 72) rfl)) (by decide) (Qc := fun v hp L => ((v = some (.int 1) ∧ ds = ([(100 : Int32), (97 : Int32), (121 : Int32), (79 : Int32), (102 : Int32), (87 : Int32), (101 : Int32), (101 : Int32), (107 : Int32)] : List Int32)) ∨ (v = some (.int 0) ∧ ¬ ds = ([(100 : Int32), (97 : Int32), (121 : Int32), (79 : Int32), (102 : Int32), (87 : Int32), (101 : Int32), (101 : Int32), (107 : Int32)] : List Int32))) ∧ L = [] ∧ hp = h27) (StrChars.Road.eqW (W := 0) hZ (fun d hd => hw d ((by decide +kernel : ∀ d ∈ StrChars.Road.wordsEq, d ∈ tables_1) d hd)) (kI := 4) (hw _ (List.mem_of_getElem? (i := 2) rfl)) EX VX DX AX (StrChars.Road.codOf rfl (fun c hc => (hds c hc).2)) (own_up _ hds) lds E_b27 FV_b27 FC_b27 V_t27 (StrChars.Road.codOf rfl (fun c hc => ((show ∀ c ∈ ([(100 : Int32), (97 : Int32), (121 : Int32), (79 : Int32), (102 : Int32), (87 : Int32), (101 : Int32), (101 : Int32), (107 : Int32)] : List Int32), ¬ c < 0 ∧ ¬ (255 : Int32) < c by decide) c hc).2)) (own_up _ (show ∀ c ∈ ([(100 : Int32), (97 : Int32), (121 : Int32), (79 : Int32), (102 : Int32), (87 : Int32), (101 : Int32), (101 : Int32), (107 : Int32)] : List Int32), ¬ c < 0 ∧ ¬ (255 : Int32) < c by decide)) (by decide) (SC0.ext O.2) c1 (by decide) (by decide)) e27 EX (g := (mkF m 468 (fL20 p0 p1 p2 p3 x1 x2 b x3 x4 x6_s0 n10 x z12) [(.ref b27), (.ref x)])) rfl (by rw [hml]; rfl) (argsL := [(.ref b27)]) (rest := []) rfl (lenOf pd__Ljava_lang_Object__Z rfl) rfl (by show 2 * 0 + _ ≤ _; exact Nat.le_of_eq rfl) (hb hby at_468) (by decide) (by decide)
                obtain ⟨hv28, rfl, eq28⟩ := hQ28
                obtain rfl := own_eqv hv28
                rw [List.append_nil] at X28
                refine goW st28 ?_
                show OwnEndW _ _ _ _ _ _ _ (T28.setTop (mkF m 471 (fL20 p0 p1 p2 p3 x1 x2 b x3 x4 x6_s0 n10 x z12) [(.int (if ds = ([(100 : Int32), (97 : Int32), (121 : Int32), (79 : Int32), (102 : Int32), (87 : Int32), (101 : Int32), (101 : Int32), (107 : Int32)] : List Int32) then (1 : Int32) else 0))]))
                by_cases hc471_29 : (if ds = ([(100 : Int32), (97 : Int32), (121 : Int32), (79 : Int32), (102 : Int32), (87 : Int32), (101 : Int32), (101 : Int32), (107 : Int32)] : List Int32) then (1 : Int32) else 0) = (0 : Int32)
                · refine goW (fun _ k => by refine XS.ifYes X28.here hx rfl (pc0 := 471) (pc' := 482) rfl (hb hby at_471) rfl ((if0 _ _).trans (teq hc471_29).1) (by decide) (by decide) ?_; exact k) ?_
                  show OwnEndW _ _ _ _ _ _ _ (T28.setTop (mkF m 482 (fL20 p0 p1 p2 p3 x1 x2 b x3 x4 x6_s0 n10 x z12) []))
                  refine goW (fun _ k => by refine XS.aconstNull X28.here hx rfl (hb hby at_482) ?_; exact k) ?_
                  refine goW (fun _ k => by refine XS.astore X28.here hx rfl (hb hby at_483) rfl rfl (l' := (fL21 p0 p1 p2 p3 x1 x2 b x3 x4 x6_s0 n10 x)) (XS.store1 (o := z12) rfl oz12 rfl) ?_; exact k) ?_
                  refine goW (fun _ k => by refine XS.aload X28.here hx rfl (hb hby at_485) rfl rfl ?_; exact k) ?_
                  show OwnEndW _ _ _ _ _ _ _ (T28.setTop (mkF m 487 (fL21 p0 p1 p2 p3 x1 x2 b x3 x4 x6_s0 n10 x) [(.ref x)]))
                  obtain ⟨_, T30, L30, X30, hQ30, st30⟩ := callStat X28 hx hZ hown (hw _ (List.mem_of_getElem? (i := 82) rfl)) (hw _ (List.mem_of_getElem? (i := 83) rfl)) (hw _ (List.mem_of_getElem? (i := 80) rfl)) (hw _ (List.mem_of_getElem? (i := 84) rfl)) (by decide) (rm_ofs l Z a0 hw [] x t kb ds cs va vk w0 w1 w2 nn0 nn1 nn2 tn0 tn1 tn2 kn0 kn1 kn2 h27 n0 Z0 O SC0 c1 SV VV EV EW0 FN0 EN0 VN0 DN0 AN0 EW1 FN1 EN1 VN1 DN1 AN1 EW2 FN2 EN2 VN2 DN2 AN2 hds lds EX VX DX AX) (W := 0) (by decide) (by decide) eq28 (g := (mkF m 487 (fL21 p0 p1 p2 p3 x1 x2 b x3 x4 x6_s0 n10 x) [(.ref x)])) rfl (by rw [hml]; rfl) (argsL := [(.ref x)]) (rest := []) rfl (lenOf pd__Ljava_lang_String__Lcom_example_minder_minder_model_ClockValue_ rfl) rfl (by show 2 * 0 + _ ≤ _; exact Nat.le_of_eq rfl) (hb hby at_487) (by decide) (by decide)
                  obtain ⟨hv30, Nq30, K30⟩ := hQ30
                  rw [if_neg (fun q => own_f hc435_23 q.symm), if_neg (fun q => own_f hc453_26 q.symm), if_neg (fun q => own_f hc471_29 q.symm)] at hv30
                  subst hv30
                  have N30 := Fr.app N2 Nq30
                  have HCn := HC.trans (CHr.keep K30 sf0 HC.1)
                  have HC := HCn
                  have Z0 := Nat.le_trans Z0 K30.1
                  have O := O.keep K30 all0
                  have EX := EX.keep K30
                  have VX := VX.keep K30 nin0
                  have DX := DX.keep K30 nin0
                  have AX := AX.keep K30 nin0
                  have E_b21 := E_b21.keep K30
                  have FV_b21 := FV_b21.keep K30 nin0
                  have FC_b21 := FC_b21.keep K30 nin0
                  have V_t21 := V_t21.keep K30 nin0
                  have E_b24 := E_b24.keep K30
                  have FV_b24 := FV_b24.keep K30 nin0
                  have FC_b24 := FC_b24.keep K30 nin0
                  have V_t24 := V_t24.keep K30 nin0
                  have hk := Nat.le_trans hk K30.1
                  have E_b27 := E_b27.keep K30
                  have FV_b27 := FV_b27.keep K30 nin0
                  have FC_b27 := FC_b27.keep K30 nin0
                  have V_t27 := V_t27.keep K30 nin0
                  have SC := SC0.ext O.2
                  have SK0 := M0.ext O.2
                  have SK1 := M1.ext O.2
                  have SK2 := M2.ext O.2
                  refine goW st30 ?_
                  refine goW (fun _ k => by refine XS.aload X30.here hx rfl (hb hby at_490) rfl rfl ?_; exact k) ?_
                  show OwnEndW _ _ _ _ _ _ _ (T30.setTop (mkF m 492 (fL21 p0 p1 p2 p3 x1 x2 b x3 x4 x6_s0 n10 x) [.null, .null]))
                  refine goW (fun t k => Jvm.RoadKit.acmp (g := (mkF m 492 (fL21 p0 p1 p2 p3 x1 x2 b x3 x4 x6_s0 n10 x) [.null, .null])) X30 hx rfl rfl rfl (pc0 := 492) (pc' := 495) (same := true) rfl (hb hby at_492) rfl (decide_eq_true rfl) (by decide) (by decide) k) ?_
                  refine goW (fun _ k => by refine XS.iconst X30.here hx rfl (hb hby at_495) ?_; exact k) ?_
                  refine goW (fun _ k => by refine XS.goto X30.here hx rfl (pc0 := 496) (pc' := 500) rfl (hb hby at_496) (by decide) (by decide) ?_; exact k) ?_
                  show OwnEndW _ _ _ _ _ _ _ (T30.setTop (mkF m 500 (fL21 p0 p1 p2 p3 x1 x2 b x3 x4 x6_s0 n10 x) [(.int (1 : Int32))]))
                  refine endNW (vm₁ := T27.vm) X30 hS hk hx hlk (t := .boolean) (by simp) Bd.returns (hb hby at_500) rfl (by decide) (by decide) ?_
                  exact ⟨rfl, N30⟩
                · refine goW (fun _ k => by refine XS.ifNo X28.here hx rfl (hb hby at_471) rfl ((if0 _ _).trans (feq hc471_29).1) ?_; exact k) ?_
                  show OwnEndW _ _ _ _ _ _ _ (T28.setTop (mkF m 474 (fL20 p0 p1 p2 p3 x1 x2 b x3 x4 x6_s0 n10 x z12) []))
                  obtain ⟨T31, X31, e31, st31⟩ := getS2 X28 hx hZ hown (host := "") (Or.inl (hw _ (List.mem_of_getElem? (i := 114) rfl))) Via.refl eq28 SK2 (g := (mkF m 474 (fL20 p0 p1 p2 p3 x1 x2 b x3 x4 x6_s0 n10 x z12) [])) rfl (hb hby at_474)
                  refine goW st31 ?_
                  refine goW (fun _ k => by refine XS.astore X31.here hx rfl (hb hby at_477) rfl rfl (l' := (fL22 p0 p1 p2 p3 x1 x2 b x3 x4 x6_s0 n10 x w2)) (XS.store1 (o := z12) rfl oz12 rfl) ?_; exact k) ?_
                  refine goW (fun _ k => by refine XS.goto X31.here hx rfl (pc0 := 479) (pc' := 485) rfl (hb hby at_479) (by decide) (by decide) ?_; exact k) ?_
                  refine goW (fun _ k => by refine XS.aload X31.here hx rfl (hb hby at_485) rfl rfl ?_; exact k) ?_
                  show OwnEndW _ _ _ _ _ _ _ (T31.setTop (mkF m 487 (fL22 p0 p1 p2 p3 x1 x2 b x3 x4 x6_s0 n10 x w2) [(.ref x)]))
                  obtain ⟨_, T32, L32, X32, hQ32, st32⟩ := callStat X31 hx hZ hown (hw _ (List.mem_of_getElem? (i := 82) rfl)) (hw _ (List.mem_of_getElem? (i := 83) rfl)) (hw _ (List.mem_of_getElem? (i := 80) rfl)) (hw _ (List.mem_of_getElem? (i := 84) rfl)) (by decide) (rm_ofs l Z a0 hw [] x t kb ds cs va vk w0 w1 w2 nn0 nn1 nn2 tn0 tn1 tn2 kn0 kn1 kn2 h27 n0 Z0 O SC0 c1 SV VV EV EW0 FN0 EN0 VN0 DN0 AN0 EW1 FN1 EN1 VN1 DN1 AN1 EW2 FN2 EN2 VN2 DN2 AN2 hds lds EX VX DX AX) (W := 0) (by decide) (by decide) e31 (g := (mkF m 487 (fL22 p0 p1 p2 p3 x1 x2 b x3 x4 x6_s0 n10 x w2) [(.ref x)])) rfl (by rw [hml]; rfl) (argsL := [(.ref x)]) (rest := []) rfl (lenOf pd__Ljava_lang_String__Lcom_example_minder_minder_model_ClockValue_ rfl) rfl (by show 2 * 0 + _ ≤ _; exact Nat.le_of_eq rfl) (hb hby at_487) (by decide) (by decide)
                  obtain ⟨hv32, Nq32, K32⟩ := hQ32
                  rw [if_neg (fun q => own_f hc435_23 q.symm), if_neg (fun q => own_f hc453_26 q.symm), if_pos (own_t hc471_29).symm] at hv32
                  subst hv32
                  have N32 := Fr.app N2 Nq32
                  have HCn := HC.trans (CHr.keep K32 sf0 HC.1)
                  have HC := HCn
                  have Z0 := Nat.le_trans Z0 K32.1
                  have O := O.keep K32 all0
                  have EX := EX.keep K32
                  have VX := VX.keep K32 nin0
                  have DX := DX.keep K32 nin0
                  have AX := AX.keep K32 nin0
                  have E_b21 := E_b21.keep K32
                  have FV_b21 := FV_b21.keep K32 nin0
                  have FC_b21 := FC_b21.keep K32 nin0
                  have V_t21 := V_t21.keep K32 nin0
                  have E_b24 := E_b24.keep K32
                  have FV_b24 := FV_b24.keep K32 nin0
                  have FC_b24 := FC_b24.keep K32 nin0
                  have V_t24 := V_t24.keep K32 nin0
                  have hk := Nat.le_trans hk K32.1
                  have E_b27 := E_b27.keep K32
                  have FV_b27 := FV_b27.keep K32 nin0
                  have FC_b27 := FC_b27.keep K32 nin0
                  have V_t27 := V_t27.keep K32 nin0
                  have SC := SC0.ext O.2
                  have SK0 := M0.ext O.2
                  have SK1 := M1.ext O.2
                  have SK2 := M2.ext O.2
                  refine goW st32 ?_
                  refine goW (fun _ k => by refine XS.aload X32.here hx rfl (hb hby at_490) rfl rfl ?_; exact k) ?_
                  show OwnEndW _ _ _ _ _ _ _ (T32.setTop (mkF m 492 (fL22 p0 p1 p2 p3 x1 x2 b x3 x4 x6_s0 n10 x w2) [(.ref w2), (.ref w2)]))
                  refine goW (fun t k => Jvm.RoadKit.acmp (g := (mkF m 492 (fL22 p0 p1 p2 p3 x1 x2 b x3 x4 x6_s0 n10 x w2) [(.ref w2), (.ref w2)])) X32 hx rfl rfl rfl (pc0 := 492) (pc' := 495) (same := true) rfl (hb hby at_492) rfl (decide_eq_true rfl) (by decide) (by decide) k) ?_
                  refine goW (fun _ k => by refine XS.iconst X32.here hx rfl (hb hby at_495) ?_; exact k) ?_
                  refine goW (fun _ k => by refine XS.goto X32.here hx rfl (pc0 := 496) (pc' := 500) rfl (hb hby at_496) (by decide) (by decide) ?_; exact k) ?_
                  show OwnEndW _ _ _ _ _ _ _ (T32.setTop (mkF m 500 (fL22 p0 p1 p2 p3 x1 x2 b x3 x4 x6_s0 n10 x w2) [(.int (1 : Int32))]))
                  refine endNW (vm₁ := T27.vm) X32 hS hk hx hlk (t := .boolean) (by simp) Bd.returns (hb hby at_500) rfl (by decide) (by decide) ?_
                  exact ⟨rfl, N32⟩
              · refine goW (fun _ k => by refine XS.ifNo X25.here hx rfl (hb hby at_453) rfl ((if0 _ _).trans (feq hc453_26).1) ?_; exact k) ?_
                show OwnEndW _ _ _ _ _ _ _ (T25.setTop (mkF m 456 (fL20 p0 p1 p2 p3 x1 x2 b x3 x4 x6_s0 n10 x z12) []))
                obtain ⟨T33, X33, e33, st33⟩ := getS2 X25 hx hZ hown (host := "") (Or.inl (hw _ (List.mem_of_getElem? (i := 112) rfl))) Via.refl eq25 SK1 (g := (mkF m 456 (fL20 p0 p1 p2 p3 x1 x2 b x3 x4 x6_s0 n10 x z12) [])) rfl (hb hby at_456)
                refine goW st33 ?_
                refine goW (fun _ k => by refine XS.astore X33.here hx rfl (hb hby at_459) rfl rfl (l' := (fL22 p0 p1 p2 p3 x1 x2 b x3 x4 x6_s0 n10 x w1)) (XS.store1 (o := z12) rfl oz12 rfl) ?_; exact k) ?_
                refine goW (fun _ k => by refine XS.goto X33.here hx rfl (pc0 := 461) (pc' := 485) rfl (hb hby at_461) (by decide) (by decide) ?_; exact k) ?_
                refine goW (fun _ k => by refine XS.aload X33.here hx rfl (hb hby at_485) rfl rfl ?_; exact k) ?_
                show OwnEndW _ _ _ _ _ _ _ (T33.setTop (mkF m 487 (fL22 p0 p1 p2 p3 x1 x2 b x3 x4 x6_s0 n10 x w1) [(.ref x)]))
                obtain ⟨_, T34, L34, X34, hQ34, st34⟩ := callStat X33 hx hZ hown (hw _ (List.mem_of_getElem? (i := 82) rfl)) (hw _ (List.mem_of_getElem? (i := 83) rfl)) (hw _ (List.mem_of_getElem? (i := 80) rfl)) (hw _ (List.mem_of_getElem? (i := 84) rfl)) (by decide) (rm_ofs l Z a0 hw [] x t kb ds cs va vk w0 w1 w2 nn0 nn1 nn2 tn0 tn1 tn2 kn0 kn1 kn2 h24 n0 Z0 O SC0 c1 SV VV EV EW0 FN0 EN0 VN0 DN0 AN0 EW1 FN1 EN1 VN1 DN1 AN1 EW2 FN2 EN2 VN2 DN2 AN2 hds lds EX VX DX AX) (W := 0) (by decide) (by decide) e33 (g := (mkF m 487 (fL22 p0 p1 p2 p3 x1 x2 b x3 x4 x6_s0 n10 x w1) [(.ref x)])) rfl (by rw [hml]; rfl) (argsL := [(.ref x)]) (rest := []) rfl (lenOf pd__Ljava_lang_String__Lcom_example_minder_minder_model_ClockValue_ rfl) rfl (by show 2 * 0 + _ ≤ _; exact Nat.le_of_eq rfl) (hb hby at_487) (by decide) (by decide)
                obtain ⟨hv34, Nq34, K34⟩ := hQ34
                rw [if_neg (fun q => own_f hc435_23 q.symm), if_pos (own_t hc453_26).symm] at hv34
                subst hv34
                have N34 := Fr.app N2 Nq34
                have HCn := HC.trans (CHr.keep K34 sf0 HC.1)
                have HC := HCn
                have Z0 := Nat.le_trans Z0 K34.1
                have O := O.keep K34 all0
                have EX := EX.keep K34
                have VX := VX.keep K34 nin0
                have DX := DX.keep K34 nin0
                have AX := AX.keep K34 nin0
                have E_b21 := E_b21.keep K34
                have FV_b21 := FV_b21.keep K34 nin0
                have FC_b21 := FC_b21.keep K34 nin0
                have V_t21 := V_t21.keep K34 nin0
                have hk := Nat.le_trans hk K34.1
                have E_b24 := E_b24.keep K34
                have FV_b24 := FV_b24.keep K34 nin0
                have FC_b24 := FC_b24.keep K34 nin0
                have V_t24 := V_t24.keep K34 nin0
                have SC := SC0.ext O.2
                have SK0 := M0.ext O.2
                have SK1 := M1.ext O.2
                have SK2 := M2.ext O.2
                refine goW st34 ?_
                refine goW (fun _ k => by refine XS.aload X34.here hx rfl (hb hby at_490) rfl rfl ?_; exact k) ?_
                show OwnEndW _ _ _ _ _ _ _ (T34.setTop (mkF m 492 (fL22 p0 p1 p2 p3 x1 x2 b x3 x4 x6_s0 n10 x w1) [(.ref w1), (.ref w1)]))
                refine goW (fun t k => Jvm.RoadKit.acmp (g := (mkF m 492 (fL22 p0 p1 p2 p3 x1 x2 b x3 x4 x6_s0 n10 x w1) [(.ref w1), (.ref w1)])) X34 hx rfl rfl rfl (pc0 := 492) (pc' := 495) (same := true) rfl (hb hby at_492) rfl (decide_eq_true rfl) (by decide) (by decide) k) ?_
                refine goW (fun _ k => by refine XS.iconst X34.here hx rfl (hb hby at_495) ?_; exact k) ?_
                refine goW (fun _ k => by refine XS.goto X34.here hx rfl (pc0 := 496) (pc' := 500) rfl (hb hby at_496) (by decide) (by decide) ?_; exact k) ?_
                show OwnEndW _ _ _ _ _ _ _ (T34.setTop (mkF m 500 (fL22 p0 p1 p2 p3 x1 x2 b x3 x4 x6_s0 n10 x w1) [(.int (1 : Int32))]))
                refine endNW (vm₁ := T24.vm) X34 hS hk hx hlk (t := .boolean) (by simp) Bd.returns (hb hby at_500) rfl (by decide) (by decide) ?_
                exact ⟨rfl, N34⟩
            · refine goW (fun _ k => by refine XS.ifNo X22.here hx rfl (hb hby at_435) rfl ((if0 _ _).trans (feq hc435_23).1) ?_; exact k) ?_
              show OwnEndW _ _ _ _ _ _ _ (T22.setTop (mkF m 438 (fL20 p0 p1 p2 p3 x1 x2 b x3 x4 x6_s0 n10 x z12) []))
              obtain ⟨T35, X35, e35, st35⟩ := getS2 X22 hx hZ hown (host := "") (Or.inl (hw _ (List.mem_of_getElem? (i := 79) rfl))) Via.refl eq22 SK0 (g := (mkF m 438 (fL20 p0 p1 p2 p3 x1 x2 b x3 x4 x6_s0 n10 x z12) [])) rfl (hb hby at_438)
              refine goW st35 ?_
              refine goW (fun _ k => by refine XS.astore X35.here hx rfl (hb hby at_441) rfl rfl (l' := (fL22 p0 p1 p2 p3 x1 x2 b x3 x4 x6_s0 n10 x w0)) (XS.store1 (o := z12) rfl oz12 rfl) ?_; exact k) ?_
              refine goW (fun _ k => by refine XS.goto X35.here hx rfl (pc0 := 443) (pc' := 485) rfl (hb hby at_443) (by decide) (by decide) ?_; exact k) ?_
              refine goW (fun _ k => by refine XS.aload X35.here hx rfl (hb hby at_485) rfl rfl ?_; exact k) ?_
              show OwnEndW _ _ _ _ _ _ _ (T35.setTop (mkF m 487 (fL22 p0 p1 p2 p3 x1 x2 b x3 x4 x6_s0 n10 x w0) [(.ref x)]))
              obtain ⟨_, T36, L36, X36, hQ36, st36⟩ := callStat X35 hx hZ hown (hw _ (List.mem_of_getElem? (i := 82) rfl)) (hw _ (List.mem_of_getElem? (i := 83) rfl)) (hw _ (List.mem_of_getElem? (i := 80) rfl)) (hw _ (List.mem_of_getElem? (i := 84) rfl)) (by decide) (rm_ofs l Z a0 hw [] x t kb ds cs va vk w0 w1 w2 nn0 nn1 nn2 tn0 tn1 tn2 kn0 kn1 kn2 h21 n0 Z0 O SC0 c1 SV VV EV EW0 FN0 EN0 VN0 DN0 AN0 EW1 FN1 EN1 VN1 DN1 AN1 EW2 FN2 EN2 VN2 DN2 AN2 hds lds EX VX DX AX) (W := 0) (by decide) (by decide) e35 (g := (mkF m 487 (fL22 p0 p1 p2 p3 x1 x2 b x3 x4 x6_s0 n10 x w0) [(.ref x)])) rfl (by rw [hml]; rfl) (argsL := [(.ref x)]) (rest := []) rfl (lenOf pd__Ljava_lang_String__Lcom_example_minder_minder_model_ClockValue_ rfl) rfl (by show 2 * 0 + _ ≤ _; exact Nat.le_of_eq rfl) (hb hby at_487) (by decide) (by decide)
              obtain ⟨hv36, Nq36, K36⟩ := hQ36
              rw [if_pos (own_t hc435_23).symm] at hv36
              subst hv36
              have N36 := Fr.app N2 Nq36
              have HCn := HC.trans (CHr.keep K36 sf0 HC.1)
              have HC := HCn
              have Z0 := Nat.le_trans Z0 K36.1
              have O := O.keep K36 all0
              have EX := EX.keep K36
              have VX := VX.keep K36 nin0
              have DX := DX.keep K36 nin0
              have AX := AX.keep K36 nin0
              have hk := Nat.le_trans hk K36.1
              have E_b21 := E_b21.keep K36
              have FV_b21 := FV_b21.keep K36 nin0
              have FC_b21 := FC_b21.keep K36 nin0
              have V_t21 := V_t21.keep K36 nin0
              have SC := SC0.ext O.2
              have SK0 := M0.ext O.2
              have SK1 := M1.ext O.2
              have SK2 := M2.ext O.2
              refine goW st36 ?_
              refine goW (fun _ k => by refine XS.aload X36.here hx rfl (hb hby at_490) rfl rfl ?_; exact k) ?_
              show OwnEndW _ _ _ _ _ _ _ (T36.setTop (mkF m 492 (fL22 p0 p1 p2 p3 x1 x2 b x3 x4 x6_s0 n10 x w0) [(.ref w0), (.ref w0)]))
              refine goW (fun t k => Jvm.RoadKit.acmp (g := (mkF m 492 (fL22 p0 p1 p2 p3 x1 x2 b x3 x4 x6_s0 n10 x w0) [(.ref w0), (.ref w0)])) X36 hx rfl rfl rfl (pc0 := 492) (pc' := 495) (same := true) rfl (hb hby at_492) rfl (decide_eq_true rfl) (by decide) (by decide) k) ?_
              refine goW (fun _ k => by refine XS.iconst X36.here hx rfl (hb hby at_495) ?_; exact k) ?_
              refine goW (fun _ k => by refine XS.goto X36.here hx rfl (pc0 := 496) (pc' := 500) rfl (hb hby at_496) (by decide) (by decide) ?_; exact k) ?_
              show OwnEndW _ _ _ _ _ _ _ (T36.setTop (mkF m 500 (fL22 p0 p1 p2 p3 x1 x2 b x3 x4 x6_s0 n10 x w0) [(.int (1 : Int32))]))
              refine endNW (vm₁ := T21.vm) X36 hS hk hx hlk (t := .boolean) (by simp) Bd.returns (hb hby at_500) rfl (by decide) (by decide) ?_
              exact ⟨rfl, N36⟩
          rcases own_n11 hn with h10 | h10 | h10 | h10 | h10 | h10 | h10 | h10 | h10 | h10 | h10
          · rw [h10]
            show OwnEndW _ _ _ _ _ _ _ (T20.setTop (mkF m 169 (fL19 p0 p1 p2 p3 x1 x2 b x3 x4 x6_s0 (0 : Int32)) []))
            refine goW (fun _ k => by refine XS.iload X20.here hx rfl (hb hby at_169) rfl ?_; exact k) ?_
            show OwnEndW _ _ _ _ _ _ _ (T20.setTop (mkF m 171 (fL19 p0 p1 p2 p3 x1 x2 b x3 x4 x6_s0 (0 : Int32)) [(.int (0 : Int32))]))
            obtain ⟨T37, h37, k37, X37, e37, E37, A37, st37⟩ := newP X20 hx hZ (hw _ (List.mem_of_getElem? (i := 22) rfl)) e20 (g := (mkF m 171 (fL19 p0 p1 p2 p3 x1 x2 b x3 x4 x6_s0 (0 : Int32)) [(.int (0 : Int32))])) rfl (hb hby at_171) rfl (by decide) (cap := 0) (by decide) (by decide) (by decide) (by decide)
            obtain ⟨b37, g37⟩ : ∃ z, z = h1.size := ⟨_, rfl⟩
            rw [← g37] at A37 st37
            have ne_b_b37 : b ≠ b37 := fun q => absurd EB.lt (by rw [q, g37]; exact Nat.lt_irrefl _)
            have ne_t_b37 : t ≠ b37 := fun q => absurd AB.lt (by rw [q, g37]; exact Nat.lt_irrefl _)
            have sf_b37 : Safe Z own_EL vm1 h1 b37 := Safe.new (Nat.le_of_eq g37.symm)
            have g_b37 : n0 ≤ b37 := Nat.le_trans Z0 (Nat.le_of_eq g37.symm)
            have sf_b37 := Safe.ext E37 HC.1 sf_b37
            have HC := HC.trans (CHr.ext E37 HC.1)
            have Z0 := Nat.le_trans Z0 E37.1
            have O := O.ext E37
            have hk := Nat.le_trans hk E37.1
            have SC := SC.ext E37
            have SK0 := SK0.ext E37
            have SK1 := SK1.ext E37
            have SK2 := SK2.ext E37
            have EB := EB.ext E37
            have VB := VB.ext E37
            have DB := DB.ext E37
            have AB := AB.ext E37
            have V_b37 : Arv Z h37 b37 k37 .char (0 : Int32) [] (.int (0 : Int32)) := (Arv.new A37 (by decide)).pad (pad_rep [] (.int (0 : Int32)) 0)
            refine goW st37 ?_
            refine goW (fun _ k => by refine XS.astore X37.here hx rfl (hb hby at_173) rfl rfl (l' := (fL23 p0 p1 p2 p3 x1 x2 b x3 x4 x6_s0 (0 : Int32) b37)) rfl ?_; exact k) ?_
            refine goW (fun _ k => by refine XS.iload X37.here hx rfl (hb hby at_175) rfl ?_; exact k) ?_
            show OwnEndW _ _ _ _ _ _ _ (T37.setTop (mkF m 177 (fL23 p0 p1 p2 p3 x1 x2 b x3 x4 x6_s0 (0 : Int32) b37) [(.int (0 : Int32))]))
            refine goW (fun _ k => by refine XS.ifYes X37.here hx rfl (pc0 := 177) (pc' := 196) rfl (hb hby at_177) rfl ((if0 _ _).trans (flt (by decide)).2.2.2) (by decide) (by decide) ?_; exact k) ?_
            refine goW (fun _ k => by refine XS.iload X37.here hx rfl (hb hby at_196) rfl ?_; exact k) ?_
            refine goW (fun _ k => by refine XS.iconst X37.here hx rfl (hb hby at_198) ?_; exact k) ?_
            show OwnEndW _ _ _ _ _ _ _ (T37.setTop (mkF m 199 (fL23 p0 p1 p2 p3 x1 x2 b x3 x4 x6_s0 (0 : Int32) b37) [(.int (1 : Int32)), (.int (0 : Int32))]))
            refine goW (fun _ k => by refine XS.icmpYes X37.here hx rfl (pc0 := 199) (pc' := 218) rfl (hb hby at_199) rfl (flt (by decide)).2.2.2 (by decide) (by decide) ?_; exact k) ?_
            refine goW (fun _ k => by refine XS.iload X37.here hx rfl (hb hby at_218) rfl ?_; exact k) ?_
            refine goW (fun _ k => by refine XS.iconst X37.here hx rfl (hb hby at_220) ?_; exact k) ?_
            show OwnEndW _ _ _ _ _ _ _ (T37.setTop (mkF m 221 (fL23 p0 p1 p2 p3 x1 x2 b x3 x4 x6_s0 (0 : Int32) b37) [(.int (2 : Int32)), (.int (0 : Int32))]))
            refine goW (fun _ k => by refine XS.icmpYes X37.here hx rfl (pc0 := 221) (pc' := 240) rfl (hb hby at_221) rfl (flt (by decide)).2.2.2 (by decide) (by decide) ?_; exact k) ?_
            refine goW (fun _ k => by refine XS.iload X37.here hx rfl (hb hby at_240) rfl ?_; exact k) ?_
            refine goW (fun _ k => by refine XS.iconst X37.here hx rfl (hb hby at_242) ?_; exact k) ?_
            show OwnEndW _ _ _ _ _ _ _ (T37.setTop (mkF m 243 (fL23 p0 p1 p2 p3 x1 x2 b x3 x4 x6_s0 (0 : Int32) b37) [(.int (3 : Int32)), (.int (0 : Int32))]))
            refine goW (fun _ k => by refine XS.icmpYes X37.here hx rfl (pc0 := 243) (pc' := 262) rfl (hb hby at_243) rfl (flt (by decide)).2.2.2 (by decide) (by decide) ?_; exact k) ?_
            refine goW (fun _ k => by refine XS.iload X37.here hx rfl (hb hby at_262) rfl ?_; exact k) ?_
            refine goW (fun _ k => by refine XS.iconst X37.here hx rfl (hb hby at_264) ?_; exact k) ?_
            show OwnEndW _ _ _ _ _ _ _ (T37.setTop (mkF m 265 (fL23 p0 p1 p2 p3 x1 x2 b x3 x4 x6_s0 (0 : Int32) b37) [(.int (4 : Int32)), (.int (0 : Int32))]))
            refine goW (fun _ k => by refine XS.icmpYes X37.here hx rfl (pc0 := 265) (pc' := 284) rfl (hb hby at_265) rfl (flt (by decide)).2.2.2 (by decide) (by decide) ?_; exact k) ?_
            refine goW (fun _ k => by refine XS.iload X37.here hx rfl (hb hby at_284) rfl ?_; exact k) ?_
            refine goW (fun _ k => by refine XS.iconst X37.here hx rfl (hb hby at_286) ?_; exact k) ?_
            show OwnEndW _ _ _ _ _ _ _ (T37.setTop (mkF m 287 (fL23 p0 p1 p2 p3 x1 x2 b x3 x4 x6_s0 (0 : Int32) b37) [(.int (5 : Int32)), (.int (0 : Int32))]))
            refine goW (fun _ k => by refine XS.icmpYes X37.here hx rfl (pc0 := 287) (pc' := 306) rfl (hb hby at_287) rfl (flt (by decide)).2.2.2 (by decide) (by decide) ?_; exact k) ?_
            refine goW (fun _ k => by refine XS.iload X37.here hx rfl (hb hby at_306) rfl ?_; exact k) ?_
            refine goW (fun _ k => by refine XS.bipush X37.here hx rfl (hb hby at_308) ?_; exact k) ?_
            show OwnEndW _ _ _ _ _ _ _ (T37.setTop (mkF m 310 (fL23 p0 p1 p2 p3 x1 x2 b x3 x4 x6_s0 (0 : Int32) b37) [(.int (6 : Int32)), (.int (0 : Int32))]))
            refine goW (fun _ k => by refine XS.icmpYes X37.here hx rfl (pc0 := 310) (pc' := 331) rfl (hb hby at_310) rfl (flt (by decide)).2.2.2 (by decide) (by decide) ?_; exact k) ?_
            refine goW (fun _ k => by refine XS.iload X37.here hx rfl (hb hby at_331) rfl ?_; exact k) ?_
            refine goW (fun _ k => by refine XS.bipush X37.here hx rfl (hb hby at_333) ?_; exact k) ?_
            show OwnEndW _ _ _ _ _ _ _ (T37.setTop (mkF m 335 (fL23 p0 p1 p2 p3 x1 x2 b x3 x4 x6_s0 (0 : Int32) b37) [(.int (7 : Int32)), (.int (0 : Int32))]))
            refine goW (fun _ k => by refine XS.icmpYes X37.here hx rfl (pc0 := 335) (pc' := 356) rfl (hb hby at_335) rfl (flt (by decide)).2.2.2 (by decide) (by decide) ?_; exact k) ?_
            refine goW (fun _ k => by refine XS.iload X37.here hx rfl (hb hby at_356) rfl ?_; exact k) ?_
            refine goW (fun _ k => by refine XS.bipush X37.here hx rfl (hb hby at_358) ?_; exact k) ?_
            show OwnEndW _ _ _ _ _ _ _ (T37.setTop (mkF m 360 (fL23 p0 p1 p2 p3 x1 x2 b x3 x4 x6_s0 (0 : Int32) b37) [(.int (8 : Int32)), (.int (0 : Int32))]))
            refine goW (fun _ k => by refine XS.icmpYes X37.here hx rfl (pc0 := 360) (pc' := 381) rfl (hb hby at_360) rfl (flt (by decide)).2.2.2 (by decide) (by decide) ?_; exact k) ?_
            refine goW (fun _ k => by refine XS.iload X37.here hx rfl (hb hby at_381) rfl ?_; exact k) ?_
            refine goW (fun _ k => by refine XS.bipush X37.here hx rfl (hb hby at_383) ?_; exact k) ?_
            show OwnEndW _ _ _ _ _ _ _ (T37.setTop (mkF m 385 (fL23 p0 p1 p2 p3 x1 x2 b x3 x4 x6_s0 (0 : Int32) b37) [(.int (9 : Int32)), (.int (0 : Int32))]))
            refine goW (fun _ k => by refine XS.icmpYes X37.here hx rfl (pc0 := 385) (pc' := 406) rfl (hb hby at_385) rfl (flt (by decide)).2.2.2 (by decide) (by decide) ?_; exact k) ?_
            show OwnEndW _ _ _ _ _ _ _ (T37.setTop (mkF m 406 (fL23 p0 p1 p2 p3 x1 x2 b x3 x4 x6_s0 (0 : Int32) b37) []))
            obtain ⟨T38, h38, X38, e38, E38, A38, D38, -, st38⟩ := newO X37 hx hZ hown (hw _ (List.mem_of_getElem? (i := 49) rfl)) (hw _ (List.mem_of_getElem? (i := 2) rfl)) (hw _ (List.mem_of_getElem? (i := 1) rfl)) e37 (g := (mkF m 406 (fL23 p0 p1 p2 p3 x1 x2 b x3 x4 x6_s0 (0 : Int32) b37) [])) rfl (hb hby at_406) (by decide) (by decide)
            obtain ⟨b38, g38⟩ : ∃ z, z = h37.size := ⟨_, rfl⟩
            rw [← g38] at A38 D38 st38
            have ne_b_b38 : b ≠ b38 := fun q => absurd EB.lt (by rw [q, g38]; exact Nat.lt_irrefl _)
            have ne_t_b38 : t ≠ b38 := fun q => absurd AB.lt (by rw [q, g38]; exact Nat.lt_irrefl _)
            have ne_b37_b38 : b37 ≠ b38 := fun q => absurd V_b37.lt (by rw [q, g38]; exact Nat.lt_irrefl _)
            have sf_b38 : Safe Z own_EL vm1 h37 b38 := Safe.new (Nat.le_of_eq g38.symm)
            have g_b38 : n0 ≤ b38 := Nat.le_trans Z0 (Nat.le_of_eq g38.symm)
            have sf_b37 := Safe.ext E38 HC.1 sf_b37
            have sf_b38 := Safe.ext E38 HC.1 sf_b38
            have HC := HC.trans (CHr.ext E38 HC.1)
            have Z0 := Nat.le_trans Z0 E38.1
            have O := O.ext E38
            have hk := Nat.le_trans hk E38.1
            have SC := SC.ext E38
            have SK0 := SK0.ext E38
            have SK1 := SK1.ext E38
            have SK2 := SK2.ext E38
            have EB := EB.ext E38
            have VB := VB.ext E38
            have DB := DB.ext E38
            have AB := AB.ext E38
            have V_b37 := V_b37.ext E38
            have F_value_b38 : Fld Z h38 b38 "java/lang/String" "value" "[B" .null := D38 (Or.inr (hw _ (List.mem_of_getElem? (i := 4) rfl))) (ty := (.array .byte)) (by decide)
            have F_coder_b38 : Fld Z h38 b38 "java/lang/String" "coder" "B" (.int (0 : Int32)) := D38 (Or.inr (hw _ (List.mem_of_getElem? (i := 5) rfl))) (ty := .byte) (by decide)
            have E_b38 := A38
            refine goW st38 ?_
            refine goW (fun _ k => by refine XS.dup X38.here hx rfl (hb hby at_409) rfl rfl ?_; exact k) ?_
            refine goW (fun _ k => by refine XS.aload X38.here hx rfl (hb hby at_410) rfl rfl ?_; exact k) ?_
            show OwnEndW _ _ _ _ _ _ _ (T38.setTop (mkF m 412 (fL23 p0 p1 p2 p3 x1 x2 b x3 x4 x6_s0 (0 : Int32) b37) [(.ref b37), (.ref b38), (.ref b38)]))
            obtain ⟨_, T39, L39, k39, X39, hQ39, hC39, hS, hk, hZ, hown, st39⟩ := callInitS (vm0 := vm1) X38 hx hZ hown rfl (hw _ (List.mem_of_getElem? (i := 50) rfl)) (hw _ (List.mem_of_getElem? (i := 51) rfl)) (hw _ (List.mem_of_getElem? (i := 1) rfl)) (hw _ (List.mem_of_getElem? (i := 52) rfl)) (by decide) (rm_se1 l Z a0 hw [] b38 b37 k37 h38 n0 g_b38 E_b38 F_value_b38 F_coder_b38 V_b37 hEL) hEL HC hS hk (W := 1) (by decide) (by decide) e38 (g := (mkF m 412 (fL23 p0 p1 p2 p3 x1 x2 b x3 x4 x6_s0 (0 : Int32) b37) [(.ref b37), (.ref b38), (.ref b38)])) rfl (by rw [hml]; rfl) (argsL := [(.ref b37)]) (rest := [(.ref b38)]) rfl (lenOf pd___C_V rfl) rfl (by show 2 * 0 + _ ≤ _; exact Nat.le_of_eq rfl) (hb hby at_412) (by decide) (by decide)
            obtain ⟨t39, kb39, rfl, Nq39, K39, F_value_b38, F_coder_b38, V_t39⟩ := hQ39
            have N39 := Fr.app N20 Nq39
            have Z0 := Nat.le_trans Z0 K39.1
            have O := O.keep K39 (allS g_b38 all0)
            have EB := EB.keep K39
            have VB := VB.keep K39 (ninS ne_b_b38 nin0)
            have DB := DB.keep K39 (ninS ne_b_b38 nin0)
            have AB := AB.keep K39 (ninS ne_t_b38 nin0)
            have V_b37 := V_b37.keep K39 (ninS ne_b37_b38 nin0)
            have E_b38 := E_b38.keep K39
            have SC := SC0.ext O.2
            have SK0 := M0.ext O.2
            have SK1 := M1.ext O.2
            have SK2 := M2.ext O.2
            have HC := HC.trans hC39
            refine goW st39 ?_
            refine goW (fun _ k => by refine XS.astore X39.here hx rfl (hb hby at_415) rfl rfl (l' := (fL22 p0 p1 p2 p3 x1 x2 b x3 x4 x6_s0 (0 : Int32) b38 b37)) rfl ?_; exact k) ?_
            exact J417 T39.vm _ _ _ _ (0 : Int32) (.val (.ref b37)) b38 t39 kb39 ([] : List Int32) (One.val rfl) (up X39 (by decide) (by decide)) N39 rfl hS hk hZ hown HC O Z0 (by decide) (Nat.le_of_ble_eq_true rfl) E_b38 F_value_b38 F_coder_b38 V_t39
          · rw [h10]
            show OwnEndW _ _ _ _ _ _ _ (T20.setTop (mkF m 169 (fL19 p0 p1 p2 p3 x1 x2 b x3 x4 x6_s0 (1 : Int32)) []))
            refine goW (fun _ k => by refine XS.iload X20.here hx rfl (hb hby at_169) rfl ?_; exact k) ?_
            show OwnEndW _ _ _ _ _ _ _ (T20.setTop (mkF m 171 (fL19 p0 p1 p2 p3 x1 x2 b x3 x4 x6_s0 (1 : Int32)) [(.int (1 : Int32))]))
            obtain ⟨T40, h40, k40, X40, e40, E40, A40, st40⟩ := newP X20 hx hZ (hw _ (List.mem_of_getElem? (i := 22) rfl)) e20 (g := (mkF m 171 (fL19 p0 p1 p2 p3 x1 x2 b x3 x4 x6_s0 (1 : Int32)) [(.int (1 : Int32))])) rfl (hb hby at_171) rfl (by decide) (cap := 1) (by decide) (by decide) (by decide) (by decide)
            obtain ⟨b40, g40⟩ : ∃ z, z = h1.size := ⟨_, rfl⟩
            rw [← g40] at A40 st40
            have ne_b_b40 : b ≠ b40 := fun q => absurd EB.lt (by rw [q, g40]; exact Nat.lt_irrefl _)
            have ne_t_b40 : t ≠ b40 := fun q => absurd AB.lt (by rw [q, g40]; exact Nat.lt_irrefl _)
            have sf_b40 : Safe Z own_EL vm1 h1 b40 := Safe.new (Nat.le_of_eq g40.symm)
            have g_b40 : n0 ≤ b40 := Nat.le_trans Z0 (Nat.le_of_eq g40.symm)
            have sf_b40 := Safe.ext E40 HC.1 sf_b40
            have HC := HC.trans (CHr.ext E40 HC.1)
            have Z0 := Nat.le_trans Z0 E40.1
            have O := O.ext E40
            have hk := Nat.le_trans hk E40.1
            have SC := SC.ext E40
            have SK0 := SK0.ext E40
            have SK1 := SK1.ext E40
            have SK2 := SK2.ext E40
            have EB := EB.ext E40
            have VB := VB.ext E40
            have DB := DB.ext E40
            have AB := AB.ext E40
            have V_b40 : Arv Z h40 b40 k40 .char (1 : Int32) [(.int (0 : Int32))] (.int (0 : Int32)) := (Arv.new A40 (by decide)).pad (pad_rep [] (.int (0 : Int32)) 1)
            refine goW st40 ?_
            refine goW (fun _ k => by refine XS.astore X40.here hx rfl (hb hby at_173) rfl rfl (l' := (fL23 p0 p1 p2 p3 x1 x2 b x3 x4 x6_s0 (1 : Int32) b40)) rfl ?_; exact k) ?_
            refine goW (fun _ k => by refine XS.iload X40.here hx rfl (hb hby at_175) rfl ?_; exact k) ?_
            show OwnEndW _ _ _ _ _ _ _ (T40.setTop (mkF m 177 (fL23 p0 p1 p2 p3 x1 x2 b x3 x4 x6_s0 (1 : Int32) b40) [(.int (1 : Int32))]))
            refine goW (fun _ k => by refine XS.ifNo X40.here hx rfl (hb hby at_177) rfl ((if0 _ _).trans (tlt (by decide)).2.2.2) ?_; exact k) ?_
            refine goW (fun _ k => by refine XS.aload X40.here hx rfl (hb hby at_180) rfl rfl ?_; exact k) ?_
            refine goW (fun _ k => by refine XS.iconst X40.here hx rfl (hb hby at_182) ?_; exact k) ?_
            refine goW (fun _ k => by refine XS.aload X40.here hx rfl (hb hby at_183) rfl rfl ?_; exact k) ?_
            show OwnEndW _ _ _ _ _ _ _ (T40.setTop (mkF m 185 (fL23 p0 p1 p2 p3 x1 x2 b x3 x4 x6_s0 (1 : Int32) b40) [(.ref b), (.int (0 : Int32)), (.ref b40)]))
            refine goW (fun _ k => by refine XS.iconst X40.here hx rfl (hb hby at_185) ?_; exact k) ?_
            refine goW (fun _ k => by refine XS.iload X40.here hx rfl (hb hby at_186) rfl ?_; exact k) ?_
            refine goW (fun _ k => by refine XS.iload X40.here hx rfl (hb hby at_188) rfl ?_; exact k) ?_
            refine goW (fun _ k => by refine XS.iload X40.here hx rfl (hb hby at_190) rfl ?_; exact k) ?_
            show OwnEndW _ _ _ _ _ _ _ (T40.setTop (mkF m 192 (fL23 p0 p1 p2 p3 x1 x2 b x3 x4 x6_s0 (1 : Int32) b40) [(.int x6_s0), (.int x3), (.int x4), (.int (0 : Int32)), (.ref b), (.int (0 : Int32)), (.ref b40)]))
            obtain ⟨_, T41, L41, X41, hQ41, st41⟩ := callStat X40 hx hZ hown (hw _ (List.mem_of_getElem? (i := 23) rfl)) (hw _ (List.mem_of_getElem? (i := 24) rfl)) (hw _ (List.mem_of_getElem? (i := 25) rfl)) (hw _ (List.mem_of_getElem? (i := 26) rfl)) (by decide) (rm_pick l Z a0 hw [] b x4 x3 x6_s0 0 t kb bs cs fm h40 n0 (by decide) hc7 hbs lbs EB VB DB AB O SC0 c1 SF0 rf) (W := 2) (by decide) (by decide) e40 (g := (mkF m 192 (fL23 p0 p1 p2 p3 x1 x2 b x3 x4 x6_s0 (1 : Int32) b40) [(.int x6_s0), (.int x3), (.int x4), (.int (0 : Int32)), (.ref b), (.int (0 : Int32)), (.ref b40)])) rfl (by rw [hml]; rfl) (argsL := [(.ref b), (.int (0 : Int32)), (.int x4), (.int x3), (.int x6_s0)]) (rest := [(.int (0 : Int32)), (.ref b40)]) rfl (lenOf pd__Ljava_lang_String_IICZ_C rfl) rfl (by show 2 * 0 + _ ≤ _; exact Nat.le_of_eq rfl) (hb hby at_192) (by decide) (by decide)
            obtain ⟨c41, rfl, hr41, Nq41, eq41⟩ := hQ41
            have N41 := Fr.app N20 Nq41
            refine goW st41 ?_
            show OwnEndW _ _ _ _ _ _ _ (T41.setTop (mkF m 195 (fL23 p0 p1 p2 p3 x1 x2 b x3 x4 x6_s0 (1 : Int32) b40) [(.int c41), (.int (0 : Int32)), (.ref b40)]))
            obtain ⟨T42, h42, X42, e42, W42, V_b40', st42⟩ := stCv X41 hx hZ eq41 V_b40 (j := (0 : Int32)) (i := 0) (by decide) (by decide) (by decide) (Nat.le_of_ble_eq_true rfl) (g := (mkF m 195 (fL23 p0 p1 p2 p3 x1 x2 b x3 x4 x6_s0 (1 : Int32) b40) [(.int c41), (.int (0 : Int32)), (.ref b40)])) rfl rfl (hb hby at_195)
            have N42 := Fr.snoc X42 N41 g_b40
            rw [own_narc hr41] at V_b40'
            have HCn := HC.trans (CHr.wr W42 sf_b40 HC.1)
            have sf_b40n := Safe.wr W42 sf_b40 HC.1 sf_b40
            have HC := HCn
            have sf_b40 := sf_b40n
            have Z0 := Nat.le_trans Z0 (Keep.of_wr W42).1
            have O := O.wr W42 g_b40
            have hk := Nat.le_trans hk (Keep.of_wr W42).1
            have SC := SC.wr W42
            have SK0 := SK0.wr W42
            have SK1 := SK1.wr W42
            have SK2 := SK2.wr W42
            have EB := EB.wr W42
            have VB := VB.other W42 (Or.inl ne_b_b40)
            have DB := DB.other W42 (Or.inl ne_b_b40)
            have AB := AB.other W42 ne_t_b40
            have V_b40 : Arv Z h42 b40 k40 .char (1 : Int32) [(.int c41)] (.int (0 : Int32)) := V_b40'
            refine goW st42 ?_
            refine goW (fun _ k => by refine XS.iload X42.here hx rfl (hb hby at_196) rfl ?_; exact k) ?_
            refine goW (fun _ k => by refine XS.iconst X42.here hx rfl (hb hby at_198) ?_; exact k) ?_
            show OwnEndW _ _ _ _ _ _ _ (T42.setTop (mkF m 199 (fL23 p0 p1 p2 p3 x1 x2 b x3 x4 x6_s0 (1 : Int32) b40) [(.int (1 : Int32)), (.int (1 : Int32))]))
            refine goW (fun _ k => by refine XS.icmpYes X42.here hx rfl (pc0 := 199) (pc' := 218) rfl (hb hby at_199) rfl (flt (by decide)).2.2.2 (by decide) (by decide) ?_; exact k) ?_
            refine goW (fun _ k => by refine XS.iload X42.here hx rfl (hb hby at_218) rfl ?_; exact k) ?_
            refine goW (fun _ k => by refine XS.iconst X42.here hx rfl (hb hby at_220) ?_; exact k) ?_
            show OwnEndW _ _ _ _ _ _ _ (T42.setTop (mkF m 221 (fL23 p0 p1 p2 p3 x1 x2 b x3 x4 x6_s0 (1 : Int32) b40) [(.int (2 : Int32)), (.int (1 : Int32))]))
            refine goW (fun _ k => by refine XS.icmpYes X42.here hx rfl (pc0 := 221) (pc' := 240) rfl (hb hby at_221) rfl (flt (by decide)).2.2.2 (by decide) (by decide) ?_; exact k) ?_
            refine goW (fun _ k => by refine XS.iload X42.here hx rfl (hb hby at_240) rfl ?_; exact k) ?_
            refine goW (fun _ k => by refine XS.iconst X42.here hx rfl (hb hby at_242) ?_; exact k) ?_
            show OwnEndW _ _ _ _ _ _ _ (T42.setTop (mkF m 243 (fL23 p0 p1 p2 p3 x1 x2 b x3 x4 x6_s0 (1 : Int32) b40) [(.int (3 : Int32)), (.int (1 : Int32))]))
            refine goW (fun _ k => by refine XS.icmpYes X42.here hx rfl (pc0 := 243) (pc' := 262) rfl (hb hby at_243) rfl (flt (by decide)).2.2.2 (by decide) (by decide) ?_; exact k) ?_
            refine goW (fun _ k => by refine XS.iload X42.here hx rfl (hb hby at_262) rfl ?_; exact k) ?_
            refine goW (fun _ k => by refine XS.iconst X42.here hx rfl (hb hby at_264) ?_; exact k) ?_
            show OwnEndW _ _ _ _ _ _ _ (T42.setTop (mkF m 265 (fL23 p0 p1 p2 p3 x1 x2 b x3 x4 x6_s0 (1 : Int32) b40) [(.int (4 : Int32)), (.int (1 : Int32))]))
            refine goW (fun _ k => by refine XS.icmpYes X42.here hx rfl (pc0 := 265) (pc' := 284) rfl (hb hby at_265) rfl (flt (by decide)).2.2.2 (by decide) (by decide) ?_; exact k) ?_
            refine goW (fun _ k => by refine XS.iload X42.here hx rfl (hb hby at_284) rfl ?_; exact k) ?_
            refine goW (fun _ k => by refine XS.iconst X42.here hx rfl (hb hby at_286) ?_; exact k) ?_
            show OwnEndW _ _ _ _ _ _ _ (T42.setTop (mkF m 287 (fL23 p0 p1 p2 p3 x1 x2 b x3 x4 x6_s0 (1 : Int32) b40) [(.int (5 : Int32)), (.int (1 : Int32))]))
            refine goW (fun _ k => by refine XS.icmpYes X42.here hx rfl (pc0 := 287) (pc' := 306) rfl (hb hby at_287) rfl (flt (by decide)).2.2.2 (by decide) (by decide) ?_; exact k) ?_
            refine goW (fun _ k => by refine XS.iload X42.here hx rfl (hb hby at_306) rfl ?_; exact k) ?_
            refine goW (fun _ k => by refine XS.bipush X42.here hx rfl (hb hby at_308) ?_; exact k) ?_
            show OwnEndW _ _ _ _ _ _ _ (T42.setTop (mkF m 310 (fL23 p0 p1 p2 p3 x1 x2 b x3 x4 x6_s0 (1 : Int32) b40) [(.int (6 : Int32)), (.int (1 : Int32))]))
            refine goW (fun _ k => by refine XS.icmpYes X42.here hx rfl (pc0 := 310) (pc' := 331) rfl (hb hby at_310) rfl (flt (by decide)).2.2.2 (by decide) (by decide) ?_; exact k) ?_
            refine goW (fun _ k => by refine XS.iload X42.here hx rfl (hb hby at_331) rfl ?_; exact k) ?_
            refine goW (fun _ k => by refine XS.bipush X42.here hx rfl (hb hby at_333) ?_; exact k) ?_
            show OwnEndW _ _ _ _ _ _ _ (T42.setTop (mkF m 335 (fL23 p0 p1 p2 p3 x1 x2 b x3 x4 x6_s0 (1 : Int32) b40) [(.int (7 : Int32)), (.int (1 : Int32))]))
            refine goW (fun _ k => by refine XS.icmpYes X42.here hx rfl (pc0 := 335) (pc' := 356) rfl (hb hby at_335) rfl (flt (by decide)).2.2.2 (by decide) (by decide) ?_; exact k) ?_
            refine goW (fun _ k => by refine XS.iload X42.here hx rfl (hb hby at_356) rfl ?_; exact k) ?_
            refine goW (fun _ k => by refine XS.bipush X42.here hx rfl (hb hby at_358) ?_; exact k) ?_
            show OwnEndW _ _ _ _ _ _ _ (T42.setTop (mkF m 360 (fL23 p0 p1 p2 p3 x1 x2 b x3 x4 x6_s0 (1 : Int32) b40) [(.int (8 : Int32)), (.int (1 : Int32))]))
            refine goW (fun _ k => by refine XS.icmpYes X42.here hx rfl (pc0 := 360) (pc' := 381) rfl (hb hby at_360) rfl (flt (by decide)).2.2.2 (by decide) (by decide) ?_; exact k) ?_
            refine goW (fun _ k => by refine XS.iload X42.here hx rfl (hb hby at_381) rfl ?_; exact k) ?_
            refine goW (fun _ k => by refine XS.bipush X42.here hx rfl (hb hby at_383) ?_; exact k) ?_
            show OwnEndW _ _ _ _ _ _ _ (T42.setTop (mkF m 385 (fL23 p0 p1 p2 p3 x1 x2 b x3 x4 x6_s0 (1 : Int32) b40) [(.int (9 : Int32)), (.int (1 : Int32))]))
            refine goW (fun _ k => by refine XS.icmpYes X42.here hx rfl (pc0 := 385) (pc' := 406) rfl (hb hby at_385) rfl (flt (by decide)).2.2.2 (by decide) (by decide) ?_; exact k) ?_
            show OwnEndW _ _ _ _ _ _ _ (T42.setTop (mkF m 406 (fL23 p0 p1 p2 p3 x1 x2 b x3 x4 x6_s0 (1 : Int32) b40) []))
            obtain ⟨T43, h43, X43, e43, E43, A43, D43, -, st43⟩ := newO X42 hx hZ hown (hw _ (List.mem_of_getElem? (i := 49) rfl)) (hw _ (List.mem_of_getElem? (i := 2) rfl)) (hw _ (List.mem_of_getElem? (i := 1) rfl)) e42 (g := (mkF m 406 (fL23 p0 p1 p2 p3 x1 x2 b x3 x4 x6_s0 (1 : Int32) b40) [])) rfl (hb hby at_406) (by decide) (by decide)
            obtain ⟨b43, g43⟩ : ∃ z, z = h42.size := ⟨_, rfl⟩
            rw [← g43] at A43 D43 st43
            have ne_b_b43 : b ≠ b43 := fun q => absurd EB.lt (by rw [q, g43]; exact Nat.lt_irrefl _)
            have ne_t_b43 : t ≠ b43 := fun q => absurd AB.lt (by rw [q, g43]; exact Nat.lt_irrefl _)
            have ne_b40_b43 : b40 ≠ b43 := fun q => absurd V_b40.lt (by rw [q, g43]; exact Nat.lt_irrefl _)
            have sf_b43 : Safe Z own_EL vm1 h42 b43 := Safe.new (Nat.le_of_eq g43.symm)
            have g_b43 : n0 ≤ b43 := Nat.le_trans Z0 (Nat.le_of_eq g43.symm)
            have sf_b40 := Safe.ext E43 HC.1 sf_b40
            have sf_b43 := Safe.ext E43 HC.1 sf_b43
            have HC := HC.trans (CHr.ext E43 HC.1)
            have Z0 := Nat.le_trans Z0 E43.1
            have O := O.ext E43
            have hk := Nat.le_trans hk E43.1
            have SC := SC.ext E43
            have SK0 := SK0.ext E43
            have SK1 := SK1.ext E43
            have SK2 := SK2.ext E43
            have EB := EB.ext E43
            have VB := VB.ext E43
            have DB := DB.ext E43
            have AB := AB.ext E43
            have V_b40 := V_b40.ext E43
            have F_value_b43 : Fld Z h43 b43 "java/lang/String" "value" "[B" .null := D43 (Or.inr (hw _ (List.mem_of_getElem? (i := 4) rfl))) (ty := (.array .byte)) (by decide)
            have F_coder_b43 : Fld Z h43 b43 "java/lang/String" "coder" "B" (.int (0 : Int32)) := D43 (Or.inr (hw _ (List.mem_of_getElem? (i := 5) rfl))) (ty := .byte) (by decide)
            have E_b43 := A43
            refine goW st43 ?_
            refine goW (fun _ k => by refine XS.dup X43.here hx rfl (hb hby at_409) rfl rfl ?_; exact k) ?_
            refine goW (fun _ k => by refine XS.aload X43.here hx rfl (hb hby at_410) rfl rfl ?_; exact k) ?_
            show OwnEndW _ _ _ _ _ _ _ (T43.setTop (mkF m 412 (fL23 p0 p1 p2 p3 x1 x2 b x3 x4 x6_s0 (1 : Int32) b40) [(.ref b40), (.ref b43), (.ref b43)]))
            have hp44 : ∀ c ∈ ([c41] : List Int32), ¬ c < 0 ∧ ¬ (255 : Int32) < c := by
              intro c hc
              simp only [List.mem_cons, List.not_mem_nil, or_false] at hc
              rcases hc with rfl
              · exact hr41
            obtain ⟨_, T44, L44, X44, hQ44, st44⟩ := callInitB X43 hx hZ hown rfl (hw _ (List.mem_of_getElem? (i := 50) rfl)) (hw _ (List.mem_of_getElem? (i := 51) rfl)) (hw _ (List.mem_of_getElem? (i := 52) rfl)) (by decide) (StrChars.Road.backV (W := 1) hZ (fun d hd => hw d ((by decide +kernel : ∀ d ∈ StrChars.Road.words, d ∈ tables_1) d hd)) (kI := 4) (hw _ (List.mem_of_getElem? (i := 2) rfl)) (cs := ([c41] : List Int32)) (bs := (([c41] : List Int32)).map (fun c => c.toInt8.toInt32)) (n := 1) g_b43 Z0 E_b43 F_value_b43 F_coder_b43 V_b40 SC c1 rfl rfl (by decide) (by decide) hp44 rfl (by decide) (by decide)) e43 (g := (mkF m 412 (fL23 p0 p1 p2 p3 x1 x2 b x3 x4 x6_s0 (1 : Int32) b40) [(.ref b40), (.ref b43), (.ref b43)])) rfl (by rw [hml]; rfl) (argsL := [(.ref b40)]) (rest := [(.ref b43)]) rfl (lenOf pd___C_V rfl) rfl (by show 2 * 0 + _ ≤ _; exact Nat.le_of_eq rfl) (hb hby at_412) (by decide) (by decide)
            obtain ⟨rfl, Nq44, K44, E_b43, F_coder_b43, t44, kb44, g_t44, sq44, nt44, F_value_b43, V_t44⟩ := hQ44
            have N44 := Fr.app N42 Nq44
            have HCn := HC.trans (CHr.keep K44 (sfS sf_b43 sf0) HC.1)
            have sf_b40n := Safe.keep K44 (sfS sf_b43 sf0) HC.1 sf_b40
            have sf_b43n := Safe.keep K44 (sfS sf_b43 sf0) HC.1 sf_b43
            have HC := HCn
            have sf_b40 := sf_b40n
            have sf_b43 := sf_b43n
            have Z0 := Nat.le_trans Z0 K44.1
            have O := O.keep K44 (allS g_b43 all0)
            have hk := Nat.le_trans hk K44.1
            have EB := EB.keep K44
            have VB := VB.keep K44 (ninS ne_b_b43 nin0)
            have DB := DB.keep K44 (ninS ne_b_b43 nin0)
            have AB := AB.keep K44 (ninS ne_t_b43 nin0)
            have V_b40 := V_b40.keep K44 (ninS ne_b40_b43 nin0)
            have SC := SC0.ext O.2
            have SK0 := M0.ext O.2
            have SK1 := M1.ext O.2
            have SK2 := M2.ext O.2
            refine goW st44 ?_
            refine goW (fun _ k => by refine XS.astore X44.here hx rfl (hb hby at_415) rfl rfl (l' := (fL22 p0 p1 p2 p3 x1 x2 b x3 x4 x6_s0 (1 : Int32) b43 b40)) rfl ?_; exact k) ?_
            exact J417 vm1 _ _ _ _ (1 : Int32) (.val (.ref b40)) b43 t44 kb44 ([c41] : List Int32) (One.val rfl) (up X44 (by decide) (by decide)) N44 rfl hS hk hZ hown HC O Z0 hp44 (Nat.le_of_ble_eq_true rfl) E_b43 F_value_b43 F_coder_b43 V_t44
          · rw [h10]
            show OwnEndW _ _ _ _ _ _ _ (T20.setTop (mkF m 169 (fL19 p0 p1 p2 p3 x1 x2 b x3 x4 x6_s0 (2 : Int32)) []))
            refine goW (fun _ k => by refine XS.iload X20.here hx rfl (hb hby at_169) rfl ?_; exact k) ?_
            show OwnEndW _ _ _ _ _ _ _ (T20.setTop (mkF m 171 (fL19 p0 p1 p2 p3 x1 x2 b x3 x4 x6_s0 (2 : Int32)) [(.int (2 : Int32))]))
            obtain ⟨T45, h45, k45, X45, e45, E45, A45, st45⟩ := newP X20 hx hZ (hw _ (List.mem_of_getElem? (i := 22) rfl)) e20 (g := (mkF m 171 (fL19 p0 p1 p2 p3 x1 x2 b x3 x4 x6_s0 (2 : Int32)) [(.int (2 : Int32))])) rfl (hb hby at_171) rfl (by decide) (cap := 2) (by decide) (by decide) (by decide) (by decide)
            obtain ⟨b45, g45⟩ : ∃ z, z = h1.size := ⟨_, rfl⟩
            rw [← g45] at A45 st45
            have ne_b_b45 : b ≠ b45 := fun q => absurd EB.lt (by rw [q, g45]; exact Nat.lt_irrefl _)
            have ne_t_b45 : t ≠ b45 := fun q => absurd AB.lt (by rw [q, g45]; exact Nat.lt_irrefl _)
            have sf_b45 : Safe Z own_EL vm1 h1 b45 := Safe.new (Nat.le_of_eq g45.symm)
            have g_b45 : n0 ≤ b45 := Nat.le_trans Z0 (Nat.le_of_eq g45.symm)
            have sf_b45 := Safe.ext E45 HC.1 sf_b45
            have HC := HC.trans (CHr.ext E45 HC.1)
            have Z0 := Nat.le_trans Z0 E45.1
            have O := O.ext E45
            have hk := Nat.le_trans hk E45.1
            have SC := SC.ext E45
            have SK0 := SK0.ext E45
            have SK1 := SK1.ext E45
            have SK2 := SK2.ext E45
            have EB := EB.ext E45
            have VB := VB.ext E45
            have DB := DB.ext E45
            have AB := AB.ext E45
            have V_b45 : Arv Z h45 b45 k45 .char (2 : Int32) [(.int (0 : Int32)), (.int (0 : Int32))] (.int (0 : Int32)) := (Arv.new A45 (by decide)).pad (pad_rep [] (.int (0 : Int32)) 2)
            refine goW st45 ?_
            refine goW (fun _ k => by refine XS.astore X45.here hx rfl (hb hby at_173) rfl rfl (l' := (fL23 p0 p1 p2 p3 x1 x2 b x3 x4 x6_s0 (2 : Int32) b45)) rfl ?_; exact k) ?_
            refine goW (fun _ k => by refine XS.iload X45.here hx rfl (hb hby at_175) rfl ?_; exact k) ?_
            show OwnEndW _ _ _ _ _ _ _ (T45.setTop (mkF m 177 (fL23 p0 p1 p2 p3 x1 x2 b x3 x4 x6_s0 (2 : Int32) b45) [(.int (2 : Int32))]))
            refine goW (fun _ k => by refine XS.ifNo X45.here hx rfl (hb hby at_177) rfl ((if0 _ _).trans (tlt (by decide)).2.2.2) ?_; exact k) ?_
            refine goW (fun _ k => by refine XS.aload X45.here hx rfl (hb hby at_180) rfl rfl ?_; exact k) ?_
            refine goW (fun _ k => by refine XS.iconst X45.here hx rfl (hb hby at_182) ?_; exact k) ?_
            refine goW (fun _ k => by refine XS.aload X45.here hx rfl (hb hby at_183) rfl rfl ?_; exact k) ?_
            show OwnEndW _ _ _ _ _ _ _ (T45.setTop (mkF m 185 (fL23 p0 p1 p2 p3 x1 x2 b x3 x4 x6_s0 (2 : Int32) b45) [(.ref b), (.int (0 : Int32)), (.ref b45)]))
            refine goW (fun _ k => by refine XS.iconst X45.here hx rfl (hb hby at_185) ?_; exact k) ?_
            refine goW (fun _ k => by refine XS.iload X45.here hx rfl (hb hby at_186) rfl ?_; exact k) ?_
            refine goW (fun _ k => by refine XS.iload X45.here hx rfl (hb hby at_188) rfl ?_; exact k) ?_
            refine goW (fun _ k => by refine XS.iload X45.here hx rfl (hb hby at_190) rfl ?_; exact k) ?_
            show OwnEndW _ _ _ _ _ _ _ (T45.setTop (mkF m 192 (fL23 p0 p1 p2 p3 x1 x2 b x3 x4 x6_s0 (2 : Int32) b45) [(.int x6_s0), (.int x3), (.int x4), (.int (0 : Int32)), (.ref b), (.int (0 : Int32)), (.ref b45)]))
            obtain ⟨_, T46, L46, X46, hQ46, st46⟩ := callStat X45 hx hZ hown (hw _ (List.mem_of_getElem? (i := 23) rfl)) (hw _ (List.mem_of_getElem? (i := 24) rfl)) (hw _ (List.mem_of_getElem? (i := 25) rfl)) (hw _ (List.mem_of_getElem? (i := 26) rfl)) (by decide) (rm_pick l Z a0 hw [] b x4 x3 x6_s0 0 t kb bs cs fm h45 n0 (by decide) hc7 hbs lbs EB VB DB AB O SC0 c1 SF0 rf) (W := 2) (by decide) (by decide) e45 (g := (mkF m 192 (fL23 p0 p1 p2 p3 x1 x2 b x3 x4 x6_s0 (2 : Int32) b45) [(.int x6_s0), (.int x3), (.int x4), (.int (0 : Int32)), (.ref b), (.int (0 : Int32)), (.ref b45)])) rfl (by rw [hml]; rfl) (argsL := [(.ref b), (.int (0 : Int32)), (.int x4), (.int x3), (.int x6_s0)]) (rest := [(.int (0 : Int32)), (.ref b45)]) rfl (lenOf pd__Ljava_lang_String_IICZ_C rfl) rfl (by show 2 * 0 + _ ≤ _; exact Nat.le_of_eq rfl) (hb hby at_192) (by decide) (by decide)
            obtain ⟨c46, rfl, hr46, Nq46, eq46⟩ := hQ46
            have N46 := Fr.app N20 Nq46
            refine goW st46 ?_
            show OwnEndW _ _ _ _ _ _ _ (T46.setTop (mkF m 195 (fL23 p0 p1 p2 p3 x1 x2 b x3 x4 x6_s0 (2 : Int32) b45) [(.int c46), (.int (0 : Int32)), (.ref b45)]))
            obtain ⟨T47, h47, X47, e47, W47, V_b45', st47⟩ := stCv X46 hx hZ eq46 V_b45 (j := (0 : Int32)) (i := 0) (by decide) (by decide) (by decide) (Nat.le_of_ble_eq_true rfl) (g := (mkF m 195 (fL23 p0 p1 p2 p3 x1 x2 b x3 x4 x6_s0 (2 : Int32) b45) [(.int c46), (.int (0 : Int32)), (.ref b45)])) rfl rfl (hb hby at_195)
            have N47 := Fr.snoc X47 N46 g_b45
            rw [own_narc hr46] at V_b45'
            have HCn := HC.trans (CHr.wr W47 sf_b45 HC.1)
            have sf_b45n := Safe.wr W47 sf_b45 HC.1 sf_b45
            have HC := HCn
            have sf_b45 := sf_b45n
            have Z0 := Nat.le_trans Z0 (Keep.of_wr W47).1
            have O := O.wr W47 g_b45
            have hk := Nat.le_trans hk (Keep.of_wr W47).1
            have SC := SC.wr W47
            have SK0 := SK0.wr W47
            have SK1 := SK1.wr W47
            have SK2 := SK2.wr W47
            have EB := EB.wr W47
            have VB := VB.other W47 (Or.inl ne_b_b45)
            have DB := DB.other W47 (Or.inl ne_b_b45)
            have AB := AB.other W47 ne_t_b45
            have V_b45 : Arv Z h47 b45 k45 .char (2 : Int32) [(.int c46), (.int (0 : Int32))] (.int (0 : Int32)) := V_b45'
            refine goW st47 ?_
            refine goW (fun _ k => by refine XS.iload X47.here hx rfl (hb hby at_196) rfl ?_; exact k) ?_
            refine goW (fun _ k => by refine XS.iconst X47.here hx rfl (hb hby at_198) ?_; exact k) ?_
            show OwnEndW _ _ _ _ _ _ _ (T47.setTop (mkF m 199 (fL23 p0 p1 p2 p3 x1 x2 b x3 x4 x6_s0 (2 : Int32) b45) [(.int (1 : Int32)), (.int (2 : Int32))]))
            refine goW (fun _ k => by refine XS.icmpNo X47.here hx rfl (hb hby at_199) rfl (tlt (by decide)).2.2.2 ?_; exact k) ?_
            refine goW (fun _ k => by refine XS.aload X47.here hx rfl (hb hby at_202) rfl rfl ?_; exact k) ?_
            refine goW (fun _ k => by refine XS.iconst X47.here hx rfl (hb hby at_204) ?_; exact k) ?_
            refine goW (fun _ k => by refine XS.aload X47.here hx rfl (hb hby at_205) rfl rfl ?_; exact k) ?_
            show OwnEndW _ _ _ _ _ _ _ (T47.setTop (mkF m 207 (fL23 p0 p1 p2 p3 x1 x2 b x3 x4 x6_s0 (2 : Int32) b45) [(.ref b), (.int (1 : Int32)), (.ref b45)]))
            refine goW (fun _ k => by refine XS.iconst X47.here hx rfl (hb hby at_207) ?_; exact k) ?_
            refine goW (fun _ k => by refine XS.iload X47.here hx rfl (hb hby at_208) rfl ?_; exact k) ?_
            refine goW (fun _ k => by refine XS.iload X47.here hx rfl (hb hby at_210) rfl ?_; exact k) ?_
            refine goW (fun _ k => by refine XS.iload X47.here hx rfl (hb hby at_212) rfl ?_; exact k) ?_
            show OwnEndW _ _ _ _ _ _ _ (T47.setTop (mkF m 214 (fL23 p0 p1 p2 p3 x1 x2 b x3 x4 x6_s0 (2 : Int32) b45) [(.int x6_s0), (.int x3), (.int x4), (.int (1 : Int32)), (.ref b), (.int (1 : Int32)), (.ref b45)]))
            obtain ⟨_, T48, L48, X48, hQ48, st48⟩ := callStat X47 hx hZ hown (hw _ (List.mem_of_getElem? (i := 23) rfl)) (hw _ (List.mem_of_getElem? (i := 24) rfl)) (hw _ (List.mem_of_getElem? (i := 25) rfl)) (hw _ (List.mem_of_getElem? (i := 26) rfl)) (by decide) (rm_pick l Z a0 hw [] b x4 x3 x6_s0 1 t kb bs cs fm h47 n0 (by decide) hc7 hbs lbs EB VB DB AB O SC0 c1 SF0 rf) (W := 2) (by decide) (by decide) e47 (g := (mkF m 214 (fL23 p0 p1 p2 p3 x1 x2 b x3 x4 x6_s0 (2 : Int32) b45) [(.int x6_s0), (.int x3), (.int x4), (.int (1 : Int32)), (.ref b), (.int (1 : Int32)), (.ref b45)])) rfl (by rw [hml]; rfl) (argsL := [(.ref b), (.int (1 : Int32)), (.int x4), (.int x3), (.int x6_s0)]) (rest := [(.int (1 : Int32)), (.ref b45)]) rfl (lenOf pd__Ljava_lang_String_IICZ_C rfl) rfl (by show 2 * 0 + _ ≤ _; exact Nat.le_of_eq rfl) (hb hby at_214) (by decide) (by decide)
            obtain ⟨c48, rfl, hr48, Nq48, eq48⟩ := hQ48
            have N48 := Fr.app N47 Nq48
            refine goW st48 ?_
            show OwnEndW _ _ _ _ _ _ _ (T48.setTop (mkF m 217 (fL23 p0 p1 p2 p3 x1 x2 b x3 x4 x6_s0 (2 : Int32) b45) [(.int c48), (.int (1 : Int32)), (.ref b45)]))
            obtain ⟨T49, h49, X49, e49, W49, V_b45', st49⟩ := stCv X48 hx hZ eq48 V_b45 (j := (1 : Int32)) (i := 1) (by decide) (by decide) (by decide) (Nat.le_of_ble_eq_true rfl) (g := (mkF m 217 (fL23 p0 p1 p2 p3 x1 x2 b x3 x4 x6_s0 (2 : Int32) b45) [(.int c48), (.int (1 : Int32)), (.ref b45)])) rfl rfl (hb hby at_217)
            have N49 := Fr.snoc X49 N48 g_b45
            rw [own_narc hr48] at V_b45'
            have HCn := HC.trans (CHr.wr W49 sf_b45 HC.1)
            have sf_b45n := Safe.wr W49 sf_b45 HC.1 sf_b45
            have HC := HCn
            have sf_b45 := sf_b45n
            have Z0 := Nat.le_trans Z0 (Keep.of_wr W49).1
            have O := O.wr W49 g_b45
            have hk := Nat.le_trans hk (Keep.of_wr W49).1
            have SC := SC.wr W49
            have SK0 := SK0.wr W49
            have SK1 := SK1.wr W49
            have SK2 := SK2.wr W49
            have EB := EB.wr W49
            have VB := VB.other W49 (Or.inl ne_b_b45)
            have DB := DB.other W49 (Or.inl ne_b_b45)
            have AB := AB.other W49 ne_t_b45
            have V_b45 : Arv Z h49 b45 k45 .char (2 : Int32) [(.int c46), (.int c48)] (.int (0 : Int32)) := V_b45'
            refine goW st49 ?_
            refine goW (fun _ k => by refine XS.iload X49.here hx rfl (hb hby at_218) rfl ?_; exact k) ?_
            refine goW (fun _ k => by refine XS.iconst X49.here hx rfl (hb hby at_220) ?_; exact k) ?_
            show OwnEndW _ _ _ _ _ _ _ (T49.setTop (mkF m 221 (fL23 p0 p1 p2 p3 x1 x2 b x3 x4 x6_s0 (2 : Int32) b45) [(.int (2 : Int32)), (.int (2 : Int32))]))
            refine goW (fun _ k => by refine XS.icmpYes X49.here hx rfl (pc0 := 221) (pc' := 240) rfl (hb hby at_221) rfl (flt (by decide)).2.2.2 (by decide) (by decide) ?_; exact k) ?_
            refine goW (fun _ k => by refine XS.iload X49.here hx rfl (hb hby at_240) rfl ?_; exact k) ?_
            refine goW (fun _ k => by refine XS.iconst X49.here hx rfl (hb hby at_242) ?_; exact k) ?_
            show OwnEndW _ _ _ _ _ _ _ (T49.setTop (mkF m 243 (fL23 p0 p1 p2 p3 x1 x2 b x3 x4 x6_s0 (2 : Int32) b45) [(.int (3 : Int32)), (.int (2 : Int32))]))
            refine goW (fun _ k => by refine XS.icmpYes X49.here hx rfl (pc0 := 243) (pc' := 262) rfl (hb hby at_243) rfl (flt (by decide)).2.2.2 (by decide) (by decide) ?_; exact k) ?_
            refine goW (fun _ k => by refine XS.iload X49.here hx rfl (hb hby at_262) rfl ?_; exact k) ?_
            refine goW (fun _ k => by refine XS.iconst X49.here hx rfl (hb hby at_264) ?_; exact k) ?_
            show OwnEndW _ _ _ _ _ _ _ (T49.setTop (mkF m 265 (fL23 p0 p1 p2 p3 x1 x2 b x3 x4 x6_s0 (2 : Int32) b45) [(.int (4 : Int32)), (.int (2 : Int32))]))
            refine goW (fun _ k => by refine XS.icmpYes X49.here hx rfl (pc0 := 265) (pc' := 284) rfl (hb hby at_265) rfl (flt (by decide)).2.2.2 (by decide) (by decide) ?_; exact k) ?_
            refine goW (fun _ k => by refine XS.iload X49.here hx rfl (hb hby at_284) rfl ?_; exact k) ?_
            refine goW (fun _ k => by refine XS.iconst X49.here hx rfl (hb hby at_286) ?_; exact k) ?_
            show OwnEndW _ _ _ _ _ _ _ (T49.setTop (mkF m 287 (fL23 p0 p1 p2 p3 x1 x2 b x3 x4 x6_s0 (2 : Int32) b45) [(.int (5 : Int32)), (.int (2 : Int32))]))
            refine goW (fun _ k => by refine XS.icmpYes X49.here hx rfl (pc0 := 287) (pc' := 306) rfl (hb hby at_287) rfl (flt (by decide)).2.2.2 (by decide) (by decide) ?_; exact k) ?_
            refine goW (fun _ k => by refine XS.iload X49.here hx rfl (hb hby at_306) rfl ?_; exact k) ?_
            refine goW (fun _ k => by refine XS.bipush X49.here hx rfl (hb hby at_308) ?_; exact k) ?_
            show OwnEndW _ _ _ _ _ _ _ (T49.setTop (mkF m 310 (fL23 p0 p1 p2 p3 x1 x2 b x3 x4 x6_s0 (2 : Int32) b45) [(.int (6 : Int32)), (.int (2 : Int32))]))
            refine goW (fun _ k => by refine XS.icmpYes X49.here hx rfl (pc0 := 310) (pc' := 331) rfl (hb hby at_310) rfl (flt (by decide)).2.2.2 (by decide) (by decide) ?_; exact k) ?_
            refine goW (fun _ k => by refine XS.iload X49.here hx rfl (hb hby at_331) rfl ?_; exact k) ?_
            refine goW (fun _ k => by refine XS.bipush X49.here hx rfl (hb hby at_333) ?_; exact k) ?_
            show OwnEndW _ _ _ _ _ _ _ (T49.setTop (mkF m 335 (fL23 p0 p1 p2 p3 x1 x2 b x3 x4 x6_s0 (2 : Int32) b45) [(.int (7 : Int32)), (.int (2 : Int32))]))
            refine goW (fun _ k => by refine XS.icmpYes X49.here hx rfl (pc0 := 335) (pc' := 356) rfl (hb hby at_335) rfl (flt (by decide)).2.2.2 (by decide) (by decide) ?_; exact k) ?_
            refine goW (fun _ k => by refine XS.iload X49.here hx rfl (hb hby at_356) rfl ?_; exact k) ?_
            refine goW (fun _ k => by refine XS.bipush X49.here hx rfl (hb hby at_358) ?_; exact k) ?_
            show OwnEndW _ _ _ _ _ _ _ (T49.setTop (mkF m 360 (fL23 p0 p1 p2 p3 x1 x2 b x3 x4 x6_s0 (2 : Int32) b45) [(.int (8 : Int32)), (.int (2 : Int32))]))
            refine goW (fun _ k => by refine XS.icmpYes X49.here hx rfl (pc0 := 360) (pc' := 381) rfl (hb hby at_360) rfl (flt (by decide)).2.2.2 (by decide) (by decide) ?_; exact k) ?_
            refine goW (fun _ k => by refine XS.iload X49.here hx rfl (hb hby at_381) rfl ?_; exact k) ?_
            refine goW (fun _ k => by refine XS.bipush X49.here hx rfl (hb hby at_383) ?_; exact k) ?_
            show OwnEndW _ _ _ _ _ _ _ (T49.setTop (mkF m 385 (fL23 p0 p1 p2 p3 x1 x2 b x3 x4 x6_s0 (2 : Int32) b45) [(.int (9 : Int32)), (.int (2 : Int32))]))
            refine goW (fun _ k => by refine XS.icmpYes X49.here hx rfl (pc0 := 385) (pc' := 406) rfl (hb hby at_385) rfl (flt (by decide)).2.2.2 (by decide) (by decide) ?_; exact k) ?_
            show OwnEndW _ _ _ _ _ _ _ (T49.setTop (mkF m 406 (fL23 p0 p1 p2 p3 x1 x2 b x3 x4 x6_s0 (2 : Int32) b45) []))
            obtain ⟨T50, h50, X50, e50, E50, A50, D50, -, st50⟩ := newO X49 hx hZ hown (hw _ (List.mem_of_getElem? (i := 49) rfl)) (hw _ (List.mem_of_getElem? (i := 2) rfl)) (hw _ (List.mem_of_getElem? (i := 1) rfl)) e49 (g := (mkF m 406 (fL23 p0 p1 p2 p3 x1 x2 b x3 x4 x6_s0 (2 : Int32) b45) [])) rfl (hb hby at_406) (by decide) (by decide)
            obtain ⟨b50, g50⟩ : ∃ z, z = h49.size := ⟨_, rfl⟩
            rw [← g50] at A50 D50 st50
            have ne_b_b50 : b ≠ b50 := fun q => absurd EB.lt (by rw [q, g50]; exact Nat.lt_irrefl _)
            have ne_t_b50 : t ≠ b50 := fun q => absurd AB.lt (by rw [q, g50]; exact Nat.lt_irrefl _)
            have ne_b45_b50 : b45 ≠ b50 := fun q => absurd V_b45.lt (by rw [q, g50]; exact Nat.lt_irrefl _)
            have sf_b50 : Safe Z own_EL vm1 h49 b50 := Safe.new (Nat.le_of_eq g50.symm)
            have g_b50 : n0 ≤ b50 := Nat.le_trans Z0 (Nat.le_of_eq g50.symm)
            have sf_b45 := Safe.ext E50 HC.1 sf_b45
            have sf_b50 := Safe.ext E50 HC.1 sf_b50
            have HC := HC.trans (CHr.ext E50 HC.1)
            have Z0 := Nat.le_trans Z0 E50.1
            have O := O.ext E50
            have hk := Nat.le_trans hk E50.1
            have SC := SC.ext E50
            have SK0 := SK0.ext E50
            have SK1 := SK1.ext E50
            have SK2 := SK2.ext E50
            have EB := EB.ext E50
            have VB := VB.ext E50
            have DB := DB.ext E50
            have AB := AB.ext E50
            have V_b45 := V_b45.ext E50
            have F_value_b50 : Fld Z h50 b50 "java/lang/String" "value" "[B" .null := D50 (Or.inr (hw _ (List.mem_of_getElem? (i := 4) rfl))) (ty := (.array .byte)) (by decide)
            have F_coder_b50 : Fld Z h50 b50 "java/lang/String" "coder" "B" (.int (0 : Int32)) := D50 (Or.inr (hw _ (List.mem_of_getElem? (i := 5) rfl))) (ty := .byte) (by decide)
            have E_b50 := A50
            refine goW st50 ?_
            refine goW (fun _ k => by refine XS.dup X50.here hx rfl (hb hby at_409) rfl rfl ?_; exact k) ?_
            refine goW (fun _ k => by refine XS.aload X50.here hx rfl (hb hby at_410) rfl rfl ?_; exact k) ?_
            show OwnEndW _ _ _ _ _ _ _ (T50.setTop (mkF m 412 (fL23 p0 p1 p2 p3 x1 x2 b x3 x4 x6_s0 (2 : Int32) b45) [(.ref b45), (.ref b50), (.ref b50)]))
            have hp51 : ∀ c ∈ ([c46, c48] : List Int32), ¬ c < 0 ∧ ¬ (255 : Int32) < c := by
              intro c hc
              simp only [List.mem_cons, List.not_mem_nil, or_false] at hc
              rcases hc with rfl | rfl
              · exact hr46
              · exact hr48
            obtain ⟨_, T51, L51, X51, hQ51, st51⟩ := callInitB X50 hx hZ hown rfl (hw _ (List.mem_of_getElem? (i := 50) rfl)) (hw _ (List.mem_of_getElem? (i := 51) rfl)) (hw _ (List.mem_of_getElem? (i := 52) rfl)) (by decide) (StrChars.Road.backV (W := 1) hZ (fun d hd => hw d ((by decide +kernel : ∀ d ∈ StrChars.Road.words, d ∈ tables_1) d hd)) (kI := 4) (hw _ (List.mem_of_getElem? (i := 2) rfl)) (cs := ([c46, c48] : List Int32)) (bs := (([c46, c48] : List Int32)).map (fun c => c.toInt8.toInt32)) (n := 2) g_b50 Z0 E_b50 F_value_b50 F_coder_b50 V_b45 SC c1 rfl rfl (by decide) (by decide) hp51 rfl (by decide) (by decide)) e50 (g := (mkF m 412 (fL23 p0 p1 p2 p3 x1 x2 b x3 x4 x6_s0 (2 : Int32) b45) [(.ref b45), (.ref b50), (.ref b50)])) rfl (by rw [hml]; rfl) (argsL := [(.ref b45)]) (rest := [(.ref b50)]) rfl (lenOf pd___C_V rfl) rfl (by show 2 * 0 + _ ≤ _; exact Nat.le_of_eq rfl) (hb hby at_412) (by decide) (by decide)
            obtain ⟨rfl, Nq51, K51, E_b50, F_coder_b50, t51, kb51, g_t51, sq51, nt51, F_value_b50, V_t51⟩ := hQ51
            have N51 := Fr.app N49 Nq51
            have HCn := HC.trans (CHr.keep K51 (sfS sf_b50 sf0) HC.1)
            have sf_b45n := Safe.keep K51 (sfS sf_b50 sf0) HC.1 sf_b45
            have sf_b50n := Safe.keep K51 (sfS sf_b50 sf0) HC.1 sf_b50
            have HC := HCn
            have sf_b45 := sf_b45n
            have sf_b50 := sf_b50n
            have Z0 := Nat.le_trans Z0 K51.1
            have O := O.keep K51 (allS g_b50 all0)
            have hk := Nat.le_trans hk K51.1
            have EB := EB.keep K51
            have VB := VB.keep K51 (ninS ne_b_b50 nin0)
            have DB := DB.keep K51 (ninS ne_b_b50 nin0)
            have AB := AB.keep K51 (ninS ne_t_b50 nin0)
            have V_b45 := V_b45.keep K51 (ninS ne_b45_b50 nin0)
            have SC := SC0.ext O.2
            have SK0 := M0.ext O.2
            have SK1 := M1.ext O.2
            have SK2 := M2.ext O.2
            refine goW st51 ?_
            refine goW (fun _ k => by refine XS.astore X51.here hx rfl (hb hby at_415) rfl rfl (l' := (fL22 p0 p1 p2 p3 x1 x2 b x3 x4 x6_s0 (2 : Int32) b50 b45)) rfl ?_; exact k) ?_
            exact J417 vm1 _ _ _ _ (2 : Int32) (.val (.ref b45)) b50 t51 kb51 ([c46, c48] : List Int32) (One.val rfl) (up X51 (by decide) (by decide)) N51 rfl hS hk hZ hown HC O Z0 hp51 (Nat.le_of_ble_eq_true rfl) E_b50 F_value_b50 F_coder_b50 V_t51
          · rw [h10]
            show OwnEndW _ _ _ _ _ _ _ (T20.setTop (mkF m 169 (fL19 p0 p1 p2 p3 x1 x2 b x3 x4 x6_s0 (3 : Int32)) []))
            refine goW (fun _ k => by refine XS.iload X20.here hx rfl (hb hby at_169) rfl ?_; exact k) ?_
            show OwnEndW _ _ _ _ _ _ _ (T20.setTop (mkF m 171 (fL19 p0 p1 p2 p3 x1 x2 b x3 x4 x6_s0 (3 : Int32)) [(.int (3 : Int32))]))
            obtain ⟨T52, h52, k52, X52, e52, E52, A52, st52⟩ := newP X20 hx hZ (hw _ (List.mem_of_getElem? (i := 22) rfl)) e20 (g := (mkF m 171 (fL19 p0 p1 p2 p3 x1 x2 b x3 x4 x6_s0 (3 : Int32)) [(.int (3 : Int32))])) rfl (hb hby at_171) rfl (by decide) (cap := 3) (by decide) (by decide) (by decide) (by decide)
            obtain ⟨b52, g52⟩ : ∃ z, z = h1.size := ⟨_, rfl⟩
            rw [← g52] at A52 st52
            have ne_b_b52 : b ≠ b52 := fun q => absurd EB.lt (by rw [q, g52]; exact Nat.lt_irrefl _)
            have ne_t_b52 : t ≠ b52 := fun q => absurd AB.lt (by rw [q, g52]; exact Nat.lt_irrefl _)
            have sf_b52 : Safe Z own_EL vm1 h1 b52 := Safe.new (Nat.le_of_eq g52.symm)
            have g_b52 : n0 ≤ b52 := Nat.le_trans Z0 (Nat.le_of_eq g52.symm)
            have sf_b52 := Safe.ext E52 HC.1 sf_b52
            have HC := HC.trans (CHr.ext E52 HC.1)
            have Z0 := Nat.le_trans Z0 E52.1
            have O := O.ext E52
            have hk := Nat.le_trans hk E52.1
            have SC := SC.ext E52
            have SK0 := SK0.ext E52
            have SK1 := SK1.ext E52
            have SK2 := SK2.ext E52
            have EB := EB.ext E52
            have VB := VB.ext E52
            have DB := DB.ext E52
            have AB := AB.ext E52
            have V_b52 : Arv Z h52 b52 k52 .char (3 : Int32) [(.int (0 : Int32)), (.int (0 : Int32)), (.int (0 : Int32))] (.int (0 : Int32)) := (Arv.new A52 (by decide)).pad (pad_rep [] (.int (0 : Int32)) 3)
            refine goW st52 ?_
            refine goW (fun _ k => by refine XS.astore X52.here hx rfl (hb hby at_173) rfl rfl (l' := (fL23 p0 p1 p2 p3 x1 x2 b x3 x4 x6_s0 (3 : Int32) b52)) rfl ?_; exact k) ?_
            refine goW (fun _ k => by refine XS.iload X52.here hx rfl (hb hby at_175) rfl ?_; exact k) ?_
            show OwnEndW _ _ _ _ _ _ _ (T52.setTop (mkF m 177 (fL23 p0 p1 p2 p3 x1 x2 b x3 x4 x6_s0 (3 : Int32) b52) [(.int (3 : Int32))]))
            refine goW (fun _ k => by refine XS.ifNo X52.here hx rfl (hb hby at_177) rfl ((if0 _ _).trans (tlt (by decide)).2.2.2) ?_; exact k) ?_
            refine goW (fun _ k => by refine XS.aload X52.here hx rfl (hb hby at_180) rfl rfl ?_; exact k) ?_
            refine goW (fun _ k => by refine XS.iconst X52.here hx rfl (hb hby at_182) ?_; exact k) ?_
            refine goW (fun _ k => by refine XS.aload X52.here hx rfl (hb hby at_183) rfl rfl ?_; exact k) ?_
            show OwnEndW _ _ _ _ _ _ _ (T52.setTop (mkF m 185 (fL23 p0 p1 p2 p3 x1 x2 b x3 x4 x6_s0 (3 : Int32) b52) [(.ref b), (.int (0 : Int32)), (.ref b52)]))
            refine goW (fun _ k => by refine XS.iconst X52.here hx rfl (hb hby at_185) ?_; exact k) ?_
            refine goW (fun _ k => by refine XS.iload X52.here hx rfl (hb hby at_186) rfl ?_; exact k) ?_
            refine goW (fun _ k => by refine XS.iload X52.here hx rfl (hb hby at_188) rfl ?_; exact k) ?_
            refine goW (fun _ k => by refine XS.iload X52.here hx rfl (hb hby at_190) rfl ?_; exact k) ?_
            show OwnEndW _ _ _ _ _ _ _ (T52.setTop (mkF m 192 (fL23 p0 p1 p2 p3 x1 x2 b x3 x4 x6_s0 (3 : Int32) b52) [(.int x6_s0), (.int x3), (.int x4), (.int (0 : Int32)), (.ref b), (.int (0 : Int32)), (.ref b52)]))
            obtain ⟨_, T53, L53, X53, hQ53, st53⟩ := callStat X52 hx hZ hown (hw _ (List.mem_of_getElem? (i := 23) rfl)) (hw _ (List.mem_of_getElem? (i := 24) rfl)) (hw _ (List.mem_of_getElem? (i := 25) rfl)) (hw _ (List.mem_of_getElem? (i := 26) rfl)) (by decide) (rm_pick l Z a0 hw [] b x4 x3 x6_s0 0 t kb bs cs fm h52 n0 (by decide) hc7 hbs lbs EB VB DB AB O SC0 c1 SF0 rf) (W := 2) (by decide) (by decide) e52 (g := (mkF m 192 (fL23 p0 p1 p2 p3 x1 x2 b x3 x4 x6_s0 (3 : Int32) b52) [(.int x6_s0), (.int x3), (.int x4), (.int (0 : Int32)), (.ref b), (.int (0 : Int32)), (.ref b52)])) rfl (by rw [hml]; rfl) (argsL := [(.ref b), (.int (0 : Int32)), (.int x4), (.int x3), (.int x6_s0)]) (rest := [(.int (0 : Int32)), (.ref b52)]) rfl (lenOf pd__Ljava_lang_String_IICZ_C rfl) rfl (by show 2 * 0 + _ ≤ _; exact Nat.le_of_eq rfl) (hb hby at_192) (by decide) (by decide)
            obtain ⟨c53, rfl, hr53, Nq53, eq53⟩ := hQ53
            have N53 := Fr.app N20 Nq53
            refine goW st53 ?_
            show OwnEndW _ _ _ _ _ _ _ (T53.setTop (mkF m 195 (fL23 p0 p1 p2 p3 x1 x2 b x3 x4 x6_s0 (3 : Int32) b52) [(.int c53), (.int (0 : Int32)), (.ref b52)]))
            obtain ⟨T54, h54, X54, e54, W54, V_b52', st54⟩ := stCv X53 hx hZ eq53 V_b52 (j := (0 : Int32)) (i := 0) (by decide) (by decide) (by decide) (Nat.le_of_ble_eq_true rfl) (g := (mkF m 195 (fL23 p0 p1 p2 p3 x1 x2 b x3 x4 x6_s0 (3 : Int32) b52) [(.int c53), (.int (0 : Int32)), (.ref b52)])) rfl rfl (hb hby at_195)
            have N54 := Fr.snoc X54 N53 g_b52
            rw [own_narc hr53] at V_b52'
            have HCn := HC.trans (CHr.wr W54 sf_b52 HC.1)
            have sf_b52n := Safe.wr W54 sf_b52 HC.1 sf_b52
            have HC := HCn
            have sf_b52 := sf_b52n
            have Z0 := Nat.le_trans Z0 (Keep.of_wr W54).1
            have O := O.wr W54 g_b52
            have hk := Nat.le_trans hk (Keep.of_wr W54).1
            have SC := SC.wr W54
            have SK0 := SK0.wr W54
            have SK1 := SK1.wr W54
            have SK2 := SK2.wr W54
            have EB := EB.wr W54
            have VB := VB.other W54 (Or.inl ne_b_b52)
            have DB := DB.other W54 (Or.inl ne_b_b52)
            have AB := AB.other W54 ne_t_b52
            have V_b52 : Arv Z h54 b52 k52 .char (3 : Int32) [(.int c53), (.int (0 : Int32)), (.int (0 : Int32))] (.int (0 : Int32)) := V_b52'
            refine goW st54 ?_
            refine goW (fun _ k => by refine XS.iload X54.here hx rfl (hb hby at_196) rfl ?_; exact k) ?_
            refine goW (fun _ k => by refine XS.iconst X54.here hx rfl (hb hby at_198) ?_; exact k) ?_
            show OwnEndW _ _ _ _ _ _ _ (T54.setTop (mkF m 199 (fL23 p0 p1 p2 p3 x1 x2 b x3 x4 x6_s0 (3 : Int32) b52) [(.int (1 : Int32)), (.int (3 : Int32))]))
            refine goW (fun _ k => by refine XS.icmpNo X54.here hx rfl (hb hby at_199) rfl (tlt (by decide)).2.2.2 ?_; exact k) ?_
            refine goW (fun _ k => by refine XS.aload X54.here hx rfl (hb hby at_202) rfl rfl ?_; exact k) ?_
            refine goW (fun _ k => by refine XS.iconst X54.here hx rfl (hb hby at_204) ?_; exact k) ?_
            refine goW (fun _ k => by refine XS.aload X54.here hx rfl (hb hby at_205) rfl rfl ?_; exact k) ?_
            show OwnEndW _ _ _ _ _ _ _ (T54.setTop (mkF m 207 (fL23 p0 p1 p2 p3 x1 x2 b x3 x4 x6_s0 (3 : Int32) b52) [(.ref b), (.int (1 : Int32)), (.ref b52)]))
            refine goW (fun _ k => by refine XS.iconst X54.here hx rfl (hb hby at_207) ?_; exact k) ?_
            refine goW (fun _ k => by refine XS.iload X54.here hx rfl (hb hby at_208) rfl ?_; exact k) ?_
            refine goW (fun _ k => by refine XS.iload X54.here hx rfl (hb hby at_210) rfl ?_; exact k) ?_
            refine goW (fun _ k => by refine XS.iload X54.here hx rfl (hb hby at_212) rfl ?_; exact k) ?_
            show OwnEndW _ _ _ _ _ _ _ (T54.setTop (mkF m 214 (fL23 p0 p1 p2 p3 x1 x2 b x3 x4 x6_s0 (3 : Int32) b52) [(.int x6_s0), (.int x3), (.int x4), (.int (1 : Int32)), (.ref b), (.int (1 : Int32)), (.ref b52)]))
            obtain ⟨_, T55, L55, X55, hQ55, st55⟩ := callStat X54 hx hZ hown (hw _ (List.mem_of_getElem? (i := 23) rfl)) (hw _ (List.mem_of_getElem? (i := 24) rfl)) (hw _ (List.mem_of_getElem? (i := 25) rfl)) (hw _ (List.mem_of_getElem? (i := 26) rfl)) (by decide) (rm_pick l Z a0 hw [] b x4 x3 x6_s0 1 t kb bs cs fm h54 n0 (by decide) hc7 hbs lbs EB VB DB AB O SC0 c1 SF0 rf) (W := 2) (by decide) (by decide) e54 (g := (mkF m 214 (fL23 p0 p1 p2 p3 x1 x2 b x3 x4 x6_s0 (3 : Int32) b52) [(.int x6_s0), (.int x3), (.int x4), (.int (1 : Int32)), (.ref b), (.int (1 : Int32)), (.ref b52)])) rfl (by rw [hml]; rfl) (argsL := [(.ref b), (.int (1 : Int32)), (.int x4), (.int x3), (.int x6_s0)]) (rest := [(.int (1 : Int32)), (.ref b52)]) rfl (lenOf pd__Ljava_lang_String_IICZ_C rfl) rfl (by show 2 * 0 + _ ≤ _; exact Nat.le_of_eq rfl) (hb hby at_214) (by decide) (by decide)
            obtain ⟨c55, rfl, hr55, Nq55, eq55⟩ := hQ55
            have N55 := Fr.app N54 Nq55
            refine goW st55 ?_
            show OwnEndW _ _ _ _ _ _ _ (T55.setTop (mkF m 217 (fL23 p0 p1 p2 p3 x1 x2 b x3 x4 x6_s0 (3 : Int32) b52) [(.int c55), (.int (1 : Int32)), (.ref b52)]))
            obtain ⟨T56, h56, X56, e56, W56, V_b52', st56⟩ := stCv X55 hx hZ eq55 V_b52 (j := (1 : Int32)) (i := 1) (by decide) (by decide) (by decide) (Nat.le_of_ble_eq_true rfl) (g := (mkF m 217 (fL23 p0 p1 p2 p3 x1 x2 b x3 x4 x6_s0 (3 : Int32) b52) [(.int c55), (.int (1 : Int32)), (.ref b52)])) rfl rfl (hb hby at_217)
            have N56 := Fr.snoc X56 N55 g_b52
            rw [own_narc hr55] at V_b52'
            have HCn := HC.trans (CHr.wr W56 sf_b52 HC.1)
            have sf_b52n := Safe.wr W56 sf_b52 HC.1 sf_b52
            have HC := HCn
            have sf_b52 := sf_b52n
            have Z0 := Nat.le_trans Z0 (Keep.of_wr W56).1
            have O := O.wr W56 g_b52
            have hk := Nat.le_trans hk (Keep.of_wr W56).1
            have SC := SC.wr W56
            have SK0 := SK0.wr W56
            have SK1 := SK1.wr W56
            have SK2 := SK2.wr W56
            have EB := EB.wr W56
            have VB := VB.other W56 (Or.inl ne_b_b52)
            have DB := DB.other W56 (Or.inl ne_b_b52)
            have AB := AB.other W56 ne_t_b52
            have V_b52 : Arv Z h56 b52 k52 .char (3 : Int32) [(.int c53), (.int c55), (.int (0 : Int32))] (.int (0 : Int32)) := V_b52'
            refine goW st56 ?_
            refine goW (fun _ k => by refine XS.iload X56.here hx rfl (hb hby at_218) rfl ?_; exact k) ?_
            refine goW (fun _ k => by refine XS.iconst X56.here hx rfl (hb hby at_220) ?_; exact k) ?_
            show OwnEndW _ _ _ _ _ _ _ (T56.setTop (mkF m 221 (fL23 p0 p1 p2 p3 x1 x2 b x3 x4 x6_s0 (3 : Int32) b52) [(.int (2 : Int32)), (.int (3 : Int32))]))
            refine goW (fun _ k => by refine XS.icmpNo X56.here hx rfl (hb hby at_221) rfl (tlt (by decide)).2.2.2 ?_; exact k) ?_
            refine goW (fun _ k => by refine XS.aload X56.here hx rfl (hb hby at_224) rfl rfl ?_; exact k) ?_
            refine goW (fun _ k => by refine XS.iconst X56.here hx rfl (hb hby at_226) ?_; exact k) ?_
            refine goW (fun _ k => by refine XS.aload X56.here hx rfl (hb hby at_227) rfl rfl ?_; exact k) ?_
            show OwnEndW _ _ _ _ _ _ _ (T56.setTop (mkF m 229 (fL23 p0 p1 p2 p3 x1 x2 b x3 x4 x6_s0 (3 : Int32) b52) [(.ref b), (.int (2 : Int32)), (.ref b52)]))
            refine goW (fun _ k => by refine XS.iconst X56.here hx rfl (hb hby at_229) ?_; exact k) ?_
            refine goW (fun _ k => by refine XS.iload X56.here hx rfl (hb hby at_230) rfl ?_; exact k) ?_
            refine goW (fun _ k => by refine XS.iload X56.here hx rfl (hb hby at_232) rfl ?_; exact k) ?_
            refine goW (fun _ k => by refine XS.iload X56.here hx rfl (hb hby at_234) rfl ?_; exact k) ?_
            show OwnEndW _ _ _ _ _ _ _ (T56.setTop (mkF m 236 (fL23 p0 p1 p2 p3 x1 x2 b x3 x4 x6_s0 (3 : Int32) b52) [(.int x6_s0), (.int x3), (.int x4), (.int (2 : Int32)), (.ref b), (.int (2 : Int32)), (.ref b52)]))
            obtain ⟨_, T57, L57, X57, hQ57, st57⟩ := callStat X56 hx hZ hown (hw _ (List.mem_of_getElem? (i := 23) rfl)) (hw _ (List.mem_of_getElem? (i := 24) rfl)) (hw _ (List.mem_of_getElem? (i := 25) rfl)) (hw _ (List.mem_of_getElem? (i := 26) rfl)) (by decide) (rm_pick l Z a0 hw [] b x4 x3 x6_s0 2 t kb bs cs fm h56 n0 (by decide) hc7 hbs lbs EB VB DB AB O SC0 c1 SF0 rf) (W := 2) (by decide) (by decide) e56 (g := (mkF m 236 (fL23 p0 p1 p2 p3 x1 x2 b x3 x4 x6_s0 (3 : Int32) b52) [(.int x6_s0), (.int x3), (.int x4), (.int (2 : Int32)), (.ref b), (.int (2 : Int32)), (.ref b52)])) rfl (by rw [hml]; rfl) (argsL := [(.ref b), (.int (2 : Int32)), (.int x4), (.int x3), (.int x6_s0)]) (rest := [(.int (2 : Int32)), (.ref b52)]) rfl (lenOf pd__Ljava_lang_String_IICZ_C rfl) rfl (by show 2 * 0 + _ ≤ _; exact Nat.le_of_eq rfl) (hb hby at_236) (by decide) (by decide)
            obtain ⟨c57, rfl, hr57, Nq57, eq57⟩ := hQ57
            have N57 := Fr.app N56 Nq57
            refine goW st57 ?_
            show OwnEndW _ _ _ _ _ _ _ (T57.setTop (mkF m 239 (fL23 p0 p1 p2 p3 x1 x2 b x3 x4 x6_s0 (3 : Int32) b52) [(.int c57), (.int (2 : Int32)), (.ref b52)]))
            obtain ⟨T58, h58, X58, e58, W58, V_b52', st58⟩ := stCv X57 hx hZ eq57 V_b52 (j := (2 : Int32)) (i := 2) (by decide) (by decide) (by decide) (Nat.le_of_ble_eq_true rfl) (g := (mkF m 239 (fL23 p0 p1 p2 p3 x1 x2 b x3 x4 x6_s0 (3 : Int32) b52) [(.int c57), (.int (2 : Int32)), (.ref b52)])) rfl rfl (hb hby at_239)
            have N58 := Fr.snoc X58 N57 g_b52
            rw [own_narc hr57] at V_b52'
            have HCn := HC.trans (CHr.wr W58 sf_b52 HC.1)
            have sf_b52n := Safe.wr W58 sf_b52 HC.1 sf_b52
            have HC := HCn
            have sf_b52 := sf_b52n
            have Z0 := Nat.le_trans Z0 (Keep.of_wr W58).1
            have O := O.wr W58 g_b52
            have hk := Nat.le_trans hk (Keep.of_wr W58).1
            have SC := SC.wr W58
            have SK0 := SK0.wr W58
            have SK1 := SK1.wr W58
            have SK2 := SK2.wr W58
            have EB := EB.wr W58
            have VB := VB.other W58 (Or.inl ne_b_b52)
            have DB := DB.other W58 (Or.inl ne_b_b52)
            have AB := AB.other W58 ne_t_b52
            have V_b52 : Arv Z h58 b52 k52 .char (3 : Int32) [(.int c53), (.int c55), (.int c57)] (.int (0 : Int32)) := V_b52'
            refine goW st58 ?_
            refine goW (fun _ k => by refine XS.iload X58.here hx rfl (hb hby at_240) rfl ?_; exact k) ?_
            refine goW (fun _ k => by refine XS.iconst X58.here hx rfl (hb hby at_242) ?_; exact k) ?_
            show OwnEndW _ _ _ _ _ _ _ (T58.setTop (mkF m 243 (fL23 p0 p1 p2 p3 x1 x2 b x3 x4 x6_s0 (3 : Int32) b52) [(.int (3 : Int32)), (.int (3 : Int32))]))
            refine goW (fun _ k => by refine XS.icmpYes X58.here hx rfl (pc0 := 243) (pc' := 262) rfl (hb hby at_243) rfl (flt (by decide)).2.2.2 (by decide) (by decide) ?_; exact k) ?_
            refine goW (fun _ k => by refine XS.iload X58.here hx rfl (hb hby at_262) rfl ?_; exact k) ?_
            refine goW (fun _ k => by refine XS.iconst X58.here hx rfl (hb hby at_264) ?_; exact k) ?_
            show OwnEndW _ _ _ _ _ _ _ (T58.setTop (mkF m 265 (fL23 p0 p1 p2 p3 x1 x2 b x3 x4 x6_s0 (3 : Int32) b52) [(.int (4 : Int32)), (.int (3 : Int32))]))
            refine goW (fun _ k => by refine XS.icmpYes X58.here hx rfl (pc0 := 265) (pc' := 284) rfl (hb hby at_265) rfl (flt (by decide)).2.2.2 (by decide) (by decide) ?_; exact k) ?_
            refine goW (fun _ k => by refine XS.iload X58.here hx rfl (hb hby at_284) rfl ?_; exact k) ?_
            refine goW (fun _ k => by refine XS.iconst X58.here hx rfl (hb hby at_286) ?_; exact k) ?_
            show OwnEndW _ _ _ _ _ _ _ (T58.setTop (mkF m 287 (fL23 p0 p1 p2 p3 x1 x2 b x3 x4 x6_s0 (3 : Int32) b52) [(.int (5 : Int32)), (.int (3 : Int32))]))
            refine goW (fun _ k => by refine XS.icmpYes X58.here hx rfl (pc0 := 287) (pc' := 306) rfl (hb hby at_287) rfl (flt (by decide)).2.2.2 (by decide) (by decide) ?_; exact k) ?_
            refine goW (fun _ k => by refine XS.iload X58.here hx rfl (hb hby at_306) rfl ?_; exact k) ?_
            refine goW (fun _ k => by refine XS.bipush X58.here hx rfl (hb hby at_308) ?_; exact k) ?_
            show OwnEndW _ _ _ _ _ _ _ (T58.setTop (mkF m 310 (fL23 p0 p1 p2 p3 x1 x2 b x3 x4 x6_s0 (3 : Int32) b52) [(.int (6 : Int32)), (.int (3 : Int32))]))
            refine goW (fun _ k => by refine XS.icmpYes X58.here hx rfl (pc0 := 310) (pc' := 331) rfl (hb hby at_310) rfl (flt (by decide)).2.2.2 (by decide) (by decide) ?_; exact k) ?_
            refine goW (fun _ k => by refine XS.iload X58.here hx rfl (hb hby at_331) rfl ?_; exact k) ?_
            refine goW (fun _ k => by refine XS.bipush X58.here hx rfl (hb hby at_333) ?_; exact k) ?_
            show OwnEndW _ _ _ _ _ _ _ (T58.setTop (mkF m 335 (fL23 p0 p1 p2 p3 x1 x2 b x3 x4 x6_s0 (3 : Int32) b52) [(.int (7 : Int32)), (.int (3 : Int32))]))
            refine goW (fun _ k => by refine XS.icmpYes X58.here hx rfl (pc0 := 335) (pc' := 356) rfl (hb hby at_335) rfl (flt (by decide)).2.2.2 (by decide) (by decide) ?_; exact k) ?_
            refine goW (fun _ k => by refine XS.iload X58.here hx rfl (hb hby at_356) rfl ?_; exact k) ?_
            refine goW (fun _ k => by refine XS.bipush X58.here hx rfl (hb hby at_358) ?_; exact k) ?_
            show OwnEndW _ _ _ _ _ _ _ (T58.setTop (mkF m 360 (fL23 p0 p1 p2 p3 x1 x2 b x3 x4 x6_s0 (3 : Int32) b52) [(.int (8 : Int32)), (.int (3 : Int32))]))
            refine goW (fun _ k => by refine XS.icmpYes X58.here hx rfl (pc0 := 360) (pc' := 381) rfl (hb hby at_360) rfl (flt (by decide)).2.2.2 (by decide) (by decide) ?_; exact k) ?_
            refine goW (fun _ k => by refine XS.iload X58.here hx rfl (hb hby at_381) rfl ?_; exact k) ?_
            refine goW (fun _ k => by refine XS.bipush X58.here hx rfl (hb hby at_383) ?_; exact k) ?_
            show OwnEndW _ _ _ _ _ _ _ (T58.setTop (mkF m 385 (fL23 p0 p1 p2 p3 x1 x2 b x3 x4 x6_s0 (3 : Int32) b52) [(.int (9 : Int32)), (.int (3 : Int32))]))
            refine goW (fun _ k => by refine XS.icmpYes X58.here hx rfl (pc0 := 385) (pc' := 406) rfl (hb hby at_385) rfl (flt (by decide)).2.2.2 (by decide) (by decide) ?_; exact k) ?_
            show OwnEndW _ _ _ _ _ _ _ (T58.setTop (mkF m 406 (fL23 p0 p1 p2 p3 x1 x2 b x3 x4 x6_s0 (3 : Int32) b52) []))
            obtain ⟨T59, h59, X59, e59, E59, A59, D59, -, st59⟩ := newO X58 hx hZ hown (hw _ (List.mem_of_getElem? (i := 49) rfl)) (hw _ (List.mem_of_getElem? (i := 2) rfl)) (hw _ (List.mem_of_getElem? (i := 1) rfl)) e58 (g := (mkF m 406 (fL23 p0 p1 p2 p3 x1 x2 b x3 x4 x6_s0 (3 : Int32) b52) [])) rfl (hb hby at_406) (by decide) (by decide)
            obtain ⟨b59, g59⟩ : ∃ z, z = h58.size := ⟨_, rfl⟩
            rw [← g59] at A59 D59 st59
            have ne_b_b59 : b ≠ b59 := fun q => absurd EB.lt (by rw [q, g59]; exact Nat.lt_irrefl _)
            have ne_t_b59 : t ≠ b59 := fun q => absurd AB.lt (by rw [q, g59]; exact Nat.lt_irrefl _)
            have ne_b52_b59 : b52 ≠ b59 := fun q => absurd V_b52.lt (by rw [q, g59]; exact Nat.lt_irrefl _)
            have sf_b59 : Safe Z own_EL vm1 h58 b59 := Safe.new (Nat.le_of_eq g59.symm)
            have g_b59 : n0 ≤ b59 := Nat.le_trans Z0 (Nat.le_of_eq g59.symm)
            have sf_b52 := Safe.ext E59 HC.1 sf_b52
            have sf_b59 := Safe.ext E59 HC.1 sf_b59
            have HC := HC.trans (CHr.ext E59 HC.1)
            have Z0 := Nat.le_trans Z0 E59.1
            have O := O.ext E59
            have hk := Nat.le_trans hk E59.1
            have SC := SC.ext E59
            have SK0 := SK0.ext E59
            have SK1 := SK1.ext E59
            have SK2 := SK2.ext E59
            have EB := EB.ext E59
            have VB := VB.ext E59
            have DB := DB.ext E59
            have AB := AB.ext E59
            have V_b52 := V_b52.ext E59
            have F_value_b59 : Fld Z h59 b59 "java/lang/String" "value" "[B" .null := D59 (Or.inr (hw _ (List.mem_of_getElem? (i := 4) rfl))) (ty := (.array .byte)) (by decide)
            have F_coder_b59 : Fld Z h59 b59 "java/lang/String" "coder" "B" (.int (0 : Int32)) := D59 (Or.inr (hw _ (List.mem_of_getElem? (i := 5) rfl))) (ty := .byte) (by decide)
            have E_b59 := A59
            refine goW st59 ?_
            refine goW (fun _ k => by refine XS.dup X59.here hx rfl (hb hby at_409) rfl rfl ?_; exact k) ?_
            refine goW (fun _ k => by refine XS.aload X59.here hx rfl (hb hby at_410) rfl rfl ?_; exact k) ?_
            show OwnEndW _ _ _ _ _ _ _ (T59.setTop (mkF m 412 (fL23 p0 p1 p2 p3 x1 x2 b x3 x4 x6_s0 (3 : Int32) b52) [(.ref b52), (.ref b59), (.ref b59)]))
            have hp60 : ∀ c ∈ ([c53, c55, c57] : List Int32), ¬ c < 0 ∧ ¬ (255 : Int32) < c := by
              intro c hc
              simp only [List.mem_cons, List.not_mem_nil, or_false] at hc
              rcases hc with rfl | rfl | rfl
              · exact hr53
              · exact hr55
              · exact hr57
            obtain ⟨_, T60, L60, X60, hQ60, st60⟩ := callInitB X59 hx hZ hown rfl (hw _ (List.mem_of_getElem? (i := 50) rfl)) (hw _ (List.mem_of_getElem? (i := 51) rfl)) (hw _ (List.mem_of_getElem? (i := 52) rfl)) (by decide) (StrChars.Road.backV (W := 1) hZ (fun d hd => hw d ((by decide +kernel : ∀ d ∈ StrChars.Road.words, d ∈ tables_1) d hd)) (kI := 4) (hw _ (List.mem_of_getElem? (i := 2) rfl)) (cs := ([c53, c55, c57] : List Int32)) (bs := (([c53, c55, c57] : List Int32)).map (fun c => c.toInt8.toInt32)) (n := 3) g_b59 Z0 E_b59 F_value_b59 F_coder_b59 V_b52 SC c1 rfl rfl (by decide) (by decide) hp60 rfl (by decide) (by decide)) e59 (g := (mkF m 412 (fL23 p0 p1 p2 p3 x1 x2 b x3 x4 x6_s0 (3 : Int32) b52) [(.ref b52), (.ref b59), (.ref b59)])) rfl (by rw [hml]; rfl) (argsL := [(.ref b52)]) (rest := [(.ref b59)]) rfl (lenOf pd___C_V rfl) rfl (by show 2 * 0 + _ ≤ _; exact Nat.le_of_eq rfl) (hb hby at_412) (by decide) (by decide)
            obtain ⟨rfl, Nq60, K60, E_b59, F_coder_b59, t60, kb60, g_t60, sq60, nt60, F_value_b59, V_t60⟩ := hQ60
            have N60 := Fr.app N58 Nq60
            have HCn := HC.trans (CHr.keep K60 (sfS sf_b59 sf0) HC.1)
            have sf_b52n := Safe.keep K60 (sfS sf_b59 sf0) HC.1 sf_b52
            have sf_b59n := Safe.keep K60 (sfS sf_b59 sf0) HC.1 sf_b59
            have HC := HCn
            have sf_b52 := sf_b52n
            have sf_b59 := sf_b59n
            have Z0 := Nat.le_trans Z0 K60.1
            have O := O.keep K60 (allS g_b59 all0)
            have hk := Nat.le_trans hk K60.1
            have EB := EB.keep K60
            have VB := VB.keep K60 (ninS ne_b_b59 nin0)
            have DB := DB.keep K60 (ninS ne_b_b59 nin0)
            have AB := AB.keep K60 (ninS ne_t_b59 nin0)
            have V_b52 := V_b52.keep K60 (ninS ne_b52_b59 nin0)
            have SC := SC0.ext O.2
            have SK0 := M0.ext O.2
            have SK1 := M1.ext O.2
            have SK2 := M2.ext O.2
            refine goW st60 ?_
            refine goW (fun _ k => by refine XS.astore X60.here hx rfl (hb hby at_415) rfl rfl (l' := (fL22 p0 p1 p2 p3 x1 x2 b x3 x4 x6_s0 (3 : Int32) b59 b52)) rfl ?_; exact k) ?_
            exact J417 vm1 _ _ _ _ (3 : Int32) (.val (.ref b52)) b59 t60 kb60 ([c53, c55, c57] : List Int32) (One.val rfl) (up X60 (by decide) (by decide)) N60 rfl hS hk hZ hown HC O Z0 hp60 (Nat.le_of_ble_eq_true rfl) E_b59 F_value_b59 F_coder_b59 V_t60
          · rw [h10]
            show OwnEndW _ _ _ _ _ _ _ (T20.setTop (mkF m 169 (fL19 p0 p1 p2 p3 x1 x2 b x3 x4 x6_s0 (4 : Int32)) []))
            refine goW (fun _ k => by refine XS.iload X20.here hx rfl (hb hby at_169) rfl ?_; exact k) ?_
            show OwnEndW _ _ _ _ _ _ _ (T20.setTop (mkF m 171 (fL19 p0 p1 p2 p3 x1 x2 b x3 x4 x6_s0 (4 : Int32)) [(.int (4 : Int32))]))
            obtain ⟨T61, h61, k61, X61, e61, E61, A61, st61⟩ := newP X20 hx hZ (hw _ (List.mem_of_getElem? (i := 22) rfl)) e20 (g := (mkF m 171 (fL19 p0 p1 p2 p3 x1 x2 b x3 x4 x6_s0 (4 : Int32)) [(.int (4 : Int32))])) rfl (hb hby at_171) rfl (by decide) (cap := 4) (by decide) (by decide) (by decide) (by decide)
            obtain ⟨b61, g61⟩ : ∃ z, z = h1.size := ⟨_, rfl⟩
            rw [← g61] at A61 st61
            have ne_b_b61 : b ≠ b61 := fun q => absurd EB.lt (by rw [q, g61]; exact Nat.lt_irrefl _)
            have ne_t_b61 : t ≠ b61 := fun q => absurd AB.lt (by rw [q, g61]; exact Nat.lt_irrefl _)
            have sf_b61 : Safe Z own_EL vm1 h1 b61 := Safe.new (Nat.le_of_eq g61.symm)
            have g_b61 : n0 ≤ b61 := Nat.le_trans Z0 (Nat.le_of_eq g61.symm)
            have sf_b61 := Safe.ext E61 HC.1 sf_b61
            have HC := HC.trans (CHr.ext E61 HC.1)
            have Z0 := Nat.le_trans Z0 E61.1
            have O := O.ext E61
            have hk := Nat.le_trans hk E61.1
            have SC := SC.ext E61
            have SK0 := SK0.ext E61
            have SK1 := SK1.ext E61
            have SK2 := SK2.ext E61
            have EB := EB.ext E61
            have VB := VB.ext E61
            have DB := DB.ext E61
            have AB := AB.ext E61
            have V_b61 : Arv Z h61 b61 k61 .char (4 : Int32) [(.int (0 : Int32)), (.int (0 : Int32)), (.int (0 : Int32)), (.int (0 : Int32))] (.int (0 : Int32)) := (Arv.new A61 (by decide)).pad (pad_rep [] (.int (0 : Int32)) 4)
            refine goW st61 ?_
            refine goW (fun _ k => by refine XS.astore X61.here hx rfl (hb hby at_173) rfl rfl (l' := (fL23 p0 p1 p2 p3 x1 x2 b x3 x4 x6_s0 (4 : Int32) b61)) rfl ?_; exact k) ?_
            refine goW (fun _ k => by refine XS.iload X61.here hx rfl (hb hby at_175) rfl ?_; exact k) ?_
            show OwnEndW _ _ _ _ _ _ _ (T61.setTop (mkF m 177 (fL23 p0 p1 p2 p3 x1 x2 b x3 x4 x6_s0 (4 : Int32) b61) [(.int (4 : Int32))]))
            refine goW (fun _ k => by refine XS.ifNo X61.here hx rfl (hb hby at_177) rfl ((if0 _ _).trans (tlt (by decide)).2.2.2) ?_; exact k) ?_
            refine goW (fun _ k => by refine XS.aload X61.here hx rfl (hb hby at_180) rfl rfl ?_; exact k) ?_
            refine goW (fun _ k => by refine XS.iconst X61.here hx rfl (hb hby at_182) ?_; exact k) ?_
            refine goW (fun _ k => by refine XS.aload X61.here hx rfl (hb hby at_183) rfl rfl ?_; exact k) ?_
            show OwnEndW _ _ _ _ _ _ _ (T61.setTop (mkF m 185 (fL23 p0 p1 p2 p3 x1 x2 b x3 x4 x6_s0 (4 : Int32) b61) [(.ref b), (.int (0 : Int32)), (.ref b61)]))
            refine goW (fun _ k => by refine XS.iconst X61.here hx rfl (hb hby at_185) ?_; exact k) ?_
            refine goW (fun _ k => by refine XS.iload X61.here hx rfl (hb hby at_186) rfl ?_; exact k) ?_
            refine goW (fun _ k => by refine XS.iload X61.here hx rfl (hb hby at_188) rfl ?_; exact k) ?_
            refine goW (fun _ k => by refine XS.iload X61.here hx rfl (hb hby at_190) rfl ?_; exact k) ?_
            show OwnEndW _ _ _ _ _ _ _ (T61.setTop (mkF m 192 (fL23 p0 p1 p2 p3 x1 x2 b x3 x4 x6_s0 (4 : Int32) b61) [(.int x6_s0), (.int x3), (.int x4), (.int (0 : Int32)), (.ref b), (.int (0 : Int32)), (.ref b61)]))
            obtain ⟨_, T62, L62, X62, hQ62, st62⟩ := callStat X61 hx hZ hown (hw _ (List.mem_of_getElem? (i := 23) rfl)) (hw _ (List.mem_of_getElem? (i := 24) rfl)) (hw _ (List.mem_of_getElem? (i := 25) rfl)) (hw _ (List.mem_of_getElem? (i := 26) rfl)) (by decide) (rm_pick l Z a0 hw [] b x4 x3 x6_s0 0 t kb bs cs fm h61 n0 (by decide) hc7 hbs lbs EB VB DB AB O SC0 c1 SF0 rf) (W := 2) (by decide) (by decide) e61 (g := (mkF m 192 (fL23 p0 p1 p2 p3 x1 x2 b x3 x4 x6_s0 (4 : Int32) b61) [(.int x6_s0), (.int x3), (.int x4), (.int (0 : Int32)), (.ref b), (.int (0 : Int32)), (.ref b61)])) rfl (by rw [hml]; rfl) (argsL := [(.ref b), (.int (0 : Int32)), (.int x4), (.int x3), (.int x6_s0)]) (rest := [(.int (0 : Int32)), (.ref b61)]) rfl (lenOf pd__Ljava_lang_String_IICZ_C rfl) rfl (by show 2 * 0 + _ ≤ _; exact Nat.le_of_eq rfl) (hb hby at_192) (by decide) (by decide)
            obtain ⟨c62, rfl, hr62, Nq62, eq62⟩ := hQ62
            have N62 := Fr.app N20 Nq62
            refine goW st62 ?_
            show OwnEndW _ _ _ _ _ _ _ (T62.setTop (mkF m 195 (fL23 p0 p1 p2 p3 x1 x2 b x3 x4 x6_s0 (4 : Int32) b61) [(.int c62), (.int (0 : Int32)), (.ref b61)]))
            obtain ⟨T63, h63, X63, e63, W63, V_b61', st63⟩ := stCv X62 hx hZ eq62 V_b61 (j := (0 : Int32)) (i := 0) (by decide) (by decide) (by decide) (Nat.le_of_ble_eq_true rfl) (g := (mkF m 195 (fL23 p0 p1 p2 p3 x1 x2 b x3 x4 x6_s0 (4 : Int32) b61) [(.int c62), (.int (0 : Int32)), (.ref b61)])) rfl rfl (hb hby at_195)
            have N63 := Fr.snoc X63 N62 g_b61
            rw [own_narc hr62] at V_b61'
            have HCn := HC.trans (CHr.wr W63 sf_b61 HC.1)
            have sf_b61n := Safe.wr W63 sf_b61 HC.1 sf_b61
            have HC := HCn
            have sf_b61 := sf_b61n
            have Z0 := Nat.le_trans Z0 (Keep.of_wr W63).1
            have O := O.wr W63 g_b61
            have hk := Nat.le_trans hk (Keep.of_wr W63).1
            have SC := SC.wr W63
            have SK0 := SK0.wr W63
            have SK1 := SK1.wr W63
            have SK2 := SK2.wr W63
            have EB := EB.wr W63
            have VB := VB.other W63 (Or.inl ne_b_b61)
            have DB := DB.other W63 (Or.inl ne_b_b61)
            have AB := AB.other W63 ne_t_b61
            have V_b61 : Arv Z h63 b61 k61 .char (4 : Int32) [(.int c62), (.int (0 : Int32)), (.int (0 : Int32)), (.int (0 : Int32))] (.int (0 : Int32)) := V_b61'
            refine goW st63 ?_
            refine goW (fun _ k => by refine XS.iload X63.here hx rfl (hb hby at_196) rfl ?_; exact k) ?_
            refine goW (fun _ k => by refine XS.iconst X63.here hx rfl (hb hby at_198) ?_; exact k) ?_
            show OwnEndW _ _ _ _ _ _ _ (T63.setTop (mkF m 199 (fL23 p0 p1 p2 p3 x1 x2 b x3 x4 x6_s0 (4 : Int32) b61) [(.int (1 : Int32)), (.int (4 : Int32))]))
            refine goW (fun _ k => by refine XS.icmpNo X63.here hx rfl (hb hby at_199) rfl (tlt (by decide)).2.2.2 ?_; exact k) ?_
            refine goW (fun _ k => by refine XS.aload X63.here hx rfl (hb hby at_202) rfl rfl ?_; exact k) ?_
            refine goW (fun _ k => by refine XS.iconst X63.here hx rfl (hb hby at_204) ?_; exact k) ?_
            refine goW (fun _ k => by refine XS.aload X63.here hx rfl (hb hby at_205) rfl rfl ?_; exact k) ?_
            show OwnEndW _ _ _ _ _ _ _ (T63.setTop (mkF m 207 (fL23 p0 p1 p2 p3 x1 x2 b x3 x4 x6_s0 (4 : Int32) b61) [(.ref b), (.int (1 : Int32)), (.ref b61)]))
            refine goW (fun _ k => by refine XS.iconst X63.here hx rfl (hb hby at_207) ?_; exact k) ?_
            refine goW (fun _ k => by refine XS.iload X63.here hx rfl (hb hby at_208) rfl ?_; exact k) ?_
            refine goW (fun _ k => by refine XS.iload X63.here hx rfl (hb hby at_210) rfl ?_; exact k) ?_
            refine goW (fun _ k => by refine XS.iload X63.here hx rfl (hb hby at_212) rfl ?_; exact k) ?_
            show OwnEndW _ _ _ _ _ _ _ (T63.setTop (mkF m 214 (fL23 p0 p1 p2 p3 x1 x2 b x3 x4 x6_s0 (4 : Int32) b61) [(.int x6_s0), (.int x3), (.int x4), (.int (1 : Int32)), (.ref b), (.int (1 : Int32)), (.ref b61)]))
            obtain ⟨_, T64, L64, X64, hQ64, st64⟩ := callStat X63 hx hZ hown (hw _ (List.mem_of_getElem? (i := 23) rfl)) (hw _ (List.mem_of_getElem? (i := 24) rfl)) (hw _ (List.mem_of_getElem? (i := 25) rfl)) (hw _ (List.mem_of_getElem? (i := 26) rfl)) (by decide) (rm_pick l Z a0 hw [] b x4 x3 x6_s0 1 t kb bs cs fm h63 n0 (by decide) hc7 hbs lbs EB VB DB AB O SC0 c1 SF0 rf) (W := 2) (by decide) (by decide) e63 (g := (mkF m 214 (fL23 p0 p1 p2 p3 x1 x2 b x3 x4 x6_s0 (4 : Int32) b61) [(.int x6_s0), (.int x3), (.int x4), (.int (1 : Int32)), (.ref b), (.int (1 : Int32)), (.ref b61)])) rfl (by rw [hml]; rfl) (argsL := [(.ref b), (.int (1 : Int32)), (.int x4), (.int x3), (.int x6_s0)]) (rest := [(.int (1 : Int32)), (.ref b61)]) rfl (lenOf pd__Ljava_lang_String_IICZ_C rfl) rfl (by show 2 * 0 + _ ≤ _; exact Nat.le_of_eq rfl) (hb hby at_214) (by decide) (by decide)
            obtain ⟨c64, rfl, hr64, Nq64, eq64⟩ := hQ64
            have N64 := Fr.app N63 Nq64
            refine goW st64 ?_
            show OwnEndW _ _ _ _ _ _ _ (T64.setTop (mkF m 217 (fL23 p0 p1 p2 p3 x1 x2 b x3 x4 x6_s0 (4 : Int32) b61) [(.int c64), (.int (1 : Int32)), (.ref b61)]))
            obtain ⟨T65, h65, X65, e65, W65, V_b61', st65⟩ := stCv X64 hx hZ eq64 V_b61 (j := (1 : Int32)) (i := 1) (by decide) (by decide) (by decide) (Nat.le_of_ble_eq_true rfl) (g := (mkF m 217 (fL23 p0 p1 p2 p3 x1 x2 b x3 x4 x6_s0 (4 : Int32) b61) [(.int c64), (.int (1 : Int32)), (.ref b61)])) rfl rfl (hb hby at_217)
            have N65 := Fr.snoc X65 N64 g_b61
            rw [own_narc hr64] at V_b61'
            have HCn := HC.trans (CHr.wr W65 sf_b61 HC.1)
            have sf_b61n := Safe.wr W65 sf_b61 HC.1 sf_b61
            have HC := HCn
            have sf_b61 := sf_b61n
            have Z0 := Nat.le_trans Z0 (Keep.of_wr W65).1
            have O := O.wr W65 g_b61
            have hk := Nat.le_trans hk (Keep.of_wr W65).1
            have SC := SC.wr W65
            have SK0 := SK0.wr W65
            have SK1 := SK1.wr W65
            have SK2 := SK2.wr W65
            have EB := EB.wr W65
            have VB := VB.other W65 (Or.inl ne_b_b61)
            have DB := DB.other W65 (Or.inl ne_b_b61)
            have AB := AB.other W65 ne_t_b61
            have V_b61 : Arv Z h65 b61 k61 .char (4 : Int32) [(.int c62), (.int c64), (.int (0 : Int32)), (.int (0 : Int32))] (.int (0 : Int32)) := V_b61'
            refine goW st65 ?_
            refine goW (fun _ k => by refine XS.iload X65.here hx rfl (hb hby at_218) rfl ?_; exact k) ?_
            refine goW (fun _ k => by refine XS.iconst X65.here hx rfl (hb hby at_220) ?_; exact k) ?_
            show OwnEndW _ _ _ _ _ _ _ (T65.setTop (mkF m 221 (fL23 p0 p1 p2 p3 x1 x2 b x3 x4 x6_s0 (4 : Int32) b61) [(.int (2 : Int32)), (.int (4 : Int32))]))
            refine goW (fun _ k => by refine XS.icmpNo X65.here hx rfl (hb hby at_221) rfl (tlt (by decide)).2.2.2 ?_; exact k) ?_
            refine goW (fun _ k => by refine XS.aload X65.here hx rfl (hb hby at_224) rfl rfl ?_; exact k) ?_
            refine goW (fun _ k => by refine XS.iconst X65.here hx rfl (hb hby at_226) ?_; exact k) ?_
            refine goW (fun _ k => by refine XS.aload X65.here hx rfl (hb hby at_227) rfl rfl ?_; exact k) ?_
            show OwnEndW _ _ _ _ _ _ _ (T65.setTop (mkF m 229 (fL23 p0 p1 p2 p3 x1 x2 b x3 x4 x6_s0 (4 : Int32) b61) [(.ref b), (.int (2 : Int32)), (.ref b61)]))
            refine goW (fun _ k => by refine XS.iconst X65.here hx rfl (hb hby at_229) ?_; exact k) ?_
            refine goW (fun _ k => by refine XS.iload X65.here hx rfl (hb hby at_230) rfl ?_; exact k) ?_
            refine goW (fun _ k => by refine XS.iload X65.here hx rfl (hb hby at_232) rfl ?_; exact k) ?_
            refine goW (fun _ k => by refine XS.iload X65.here hx rfl (hb hby at_234) rfl ?_; exact k) ?_
            show OwnEndW _ _ _ _ _ _ _ (T65.setTop (mkF m 236 (fL23 p0 p1 p2 p3 x1 x2 b x3 x4 x6_s0 (4 : Int32) b61) [(.int x6_s0), (.int x3), (.int x4), (.int (2 : Int32)), (.ref b), (.int (2 : Int32)), (.ref b61)]))
            obtain ⟨_, T66, L66, X66, hQ66, st66⟩ := callStat X65 hx hZ hown (hw _ (List.mem_of_getElem? (i := 23) rfl)) (hw _ (List.mem_of_getElem? (i := 24) rfl)) (hw _ (List.mem_of_getElem? (i := 25) rfl)) (hw _ (List.mem_of_getElem? (i := 26) rfl)) (by decide) (rm_pick l Z a0 hw [] b x4 x3 x6_s0 2 t kb bs cs fm h65 n0 (by decide) hc7 hbs lbs EB VB DB AB O SC0 c1 SF0 rf) (W := 2) (by decide) (by decide) e65 (g := (mkF m 236 (fL23 p0 p1 p2 p3 x1 x2 b x3 x4 x6_s0 (4 : Int32) b61) [(.int x6_s0), (.int x3), (.int x4), (.int (2 : Int32)), (.ref b), (.int (2 : Int32)), (.ref b61)])) rfl (by rw [hml]; rfl) (argsL := [(.ref b), (.int (2 : Int32)), (.int x4), (.int x3), (.int x6_s0)]) (rest := [(.int (2 : Int32)), (.ref b61)]) rfl (lenOf pd__Ljava_lang_String_IICZ_C rfl) rfl (by show 2 * 0 + _ ≤ _; exact Nat.le_of_eq rfl) (hb hby at_236) (by decide) (by decide)
            obtain ⟨c66, rfl, hr66, Nq66, eq66⟩ := hQ66
            have N66 := Fr.app N65 Nq66
            refine goW st66 ?_
            show OwnEndW _ _ _ _ _ _ _ (T66.setTop (mkF m 239 (fL23 p0 p1 p2 p3 x1 x2 b x3 x4 x6_s0 (4 : Int32) b61) [(.int c66), (.int (2 : Int32)), (.ref b61)]))
            obtain ⟨T67, h67, X67, e67, W67, V_b61', st67⟩ := stCv X66 hx hZ eq66 V_b61 (j := (2 : Int32)) (i := 2) (by decide) (by decide) (by decide) (Nat.le_of_ble_eq_true rfl) (g := (mkF m 239 (fL23 p0 p1 p2 p3 x1 x2 b x3 x4 x6_s0 (4 : Int32) b61) [(.int c66), (.int (2 : Int32)), (.ref b61)])) rfl rfl (hb hby at_239)
            have N67 := Fr.snoc X67 N66 g_b61
            rw [own_narc hr66] at V_b61'
            have HCn := HC.trans (CHr.wr W67 sf_b61 HC.1)
            have sf_b61n := Safe.wr W67 sf_b61 HC.1 sf_b61
            have HC := HCn
            have sf_b61 := sf_b61n
            have Z0 := Nat.le_trans Z0 (Keep.of_wr W67).1
            have O := O.wr W67 g_b61
            have hk := Nat.le_trans hk (Keep.of_wr W67).1
            have SC := SC.wr W67
            have SK0 := SK0.wr W67
            have SK1 := SK1.wr W67
            have SK2 := SK2.wr W67
            have EB := EB.wr W67
            have VB := VB.other W67 (Or.inl ne_b_b61)
            have DB := DB.other W67 (Or.inl ne_b_b61)
            have AB := AB.other W67 ne_t_b61
            have V_b61 : Arv Z h67 b61 k61 .char (4 : Int32) [(.int c62), (.int c64), (.int c66), (.int (0 : Int32))] (.int (0 : Int32)) := V_b61'
            refine goW st67 ?_
            refine goW (fun _ k => by refine XS.iload X67.here hx rfl (hb hby at_240) rfl ?_; exact k) ?_
            refine goW (fun _ k => by refine XS.iconst X67.here hx rfl (hb hby at_242) ?_; exact k) ?_
            show OwnEndW _ _ _ _ _ _ _ (T67.setTop (mkF m 243 (fL23 p0 p1 p2 p3 x1 x2 b x3 x4 x6_s0 (4 : Int32) b61) [(.int (3 : Int32)), (.int (4 : Int32))]))
            refine goW (fun _ k => by refine XS.icmpNo X67.here hx rfl (hb hby at_243) rfl (tlt (by decide)).2.2.2 ?_; exact k) ?_
            refine goW (fun _ k => by refine XS.aload X67.here hx rfl (hb hby at_246) rfl rfl ?_; exact k) ?_
            refine goW (fun _ k => by refine XS.iconst X67.here hx rfl (hb hby at_248) ?_; exact k) ?_
            refine goW (fun _ k => by refine XS.aload X67.here hx rfl (hb hby at_249) rfl rfl ?_; exact k) ?_
            show OwnEndW _ _ _ _ _ _ _ (T67.setTop (mkF m 251 (fL23 p0 p1 p2 p3 x1 x2 b x3 x4 x6_s0 (4 : Int32) b61) [(.ref b), (.int (3 : Int32)), (.ref b61)]))
            refine goW (fun _ k => by refine XS.iconst X67.here hx rfl (hb hby at_251) ?_; exact k) ?_
            refine goW (fun _ k => by refine XS.iload X67.here hx rfl (hb hby at_252) rfl ?_; exact k) ?_
            refine goW (fun _ k => by refine XS.iload X67.here hx rfl (hb hby at_254) rfl ?_; exact k) ?_
            refine goW (fun _ k => by refine XS.iload X67.here hx rfl (hb hby at_256) rfl ?_; exact k) ?_
            show OwnEndW _ _ _ _ _ _ _ (T67.setTop (mkF m 258 (fL23 p0 p1 p2 p3 x1 x2 b x3 x4 x6_s0 (4 : Int32) b61) [(.int x6_s0), (.int x3), (.int x4), (.int (3 : Int32)), (.ref b), (.int (3 : Int32)), (.ref b61)]))
            obtain ⟨_, T68, L68, X68, hQ68, st68⟩ := callStat X67 hx hZ hown (hw _ (List.mem_of_getElem? (i := 23) rfl)) (hw _ (List.mem_of_getElem? (i := 24) rfl)) (hw _ (List.mem_of_getElem? (i := 25) rfl)) (hw _ (List.mem_of_getElem? (i := 26) rfl)) (by decide) (rm_pick l Z a0 hw [] b x4 x3 x6_s0 3 t kb bs cs fm h67 n0 (by decide) hc7 hbs lbs EB VB DB AB O SC0 c1 SF0 rf) (W := 2) (by decide) (by decide) e67 (g := (mkF m 258 (fL23 p0 p1 p2 p3 x1 x2 b x3 x4 x6_s0 (4 : Int32) b61) [(.int x6_s0), (.int x3), (.int x4), (.int (3 : Int32)), (.ref b), (.int (3 : Int32)), (.ref b61)])) rfl (by rw [hml]; rfl) (argsL := [(.ref b), (.int (3 : Int32)), (.int x4), (.int x3), (.int x6_s0)]) (rest := [(.int (3 : Int32)), (.ref b61)]) rfl (lenOf pd__Ljava_lang_String_IICZ_C rfl) rfl (by show 2 * 0 + _ ≤ _; exact Nat.le_of_eq rfl) (hb hby at_258) (by decide) (by decide)
            obtain ⟨c68, rfl, hr68, Nq68, eq68⟩ := hQ68
            have N68 := Fr.app N67 Nq68
            refine goW st68 ?_
            show OwnEndW _ _ _ _ _ _ _ (T68.setTop (mkF m 261 (fL23 p0 p1 p2 p3 x1 x2 b x3 x4 x6_s0 (4 : Int32) b61) [(.int c68), (.int (3 : Int32)), (.ref b61)]))
            obtain ⟨T69, h69, X69, e69, W69, V_b61', st69⟩ := stCv X68 hx hZ eq68 V_b61 (j := (3 : Int32)) (i := 3) (by decide) (by decide) (by decide) (Nat.le_of_ble_eq_true rfl) (g := (mkF m 261 (fL23 p0 p1 p2 p3 x1 x2 b x3 x4 x6_s0 (4 : Int32) b61) [(.int c68), (.int (3 : Int32)), (.ref b61)])) rfl rfl (hb hby at_261)
            have N69 := Fr.snoc X69 N68 g_b61
            rw [own_narc hr68] at V_b61'
            have HCn := HC.trans (CHr.wr W69 sf_b61 HC.1)
            have sf_b61n := Safe.wr W69 sf_b61 HC.1 sf_b61
            have HC := HCn
            have sf_b61 := sf_b61n
            have Z0 := Nat.le_trans Z0 (Keep.of_wr W69).1
            have O := O.wr W69 g_b61
            have hk := Nat.le_trans hk (Keep.of_wr W69).1
            have SC := SC.wr W69
            have SK0 := SK0.wr W69
            have SK1 := SK1.wr W69
            have SK2 := SK2.wr W69
            have EB := EB.wr W69
            have VB := VB.other W69 (Or.inl ne_b_b61)
            have DB := DB.other W69 (Or.inl ne_b_b61)
            have AB := AB.other W69 ne_t_b61
            have V_b61 : Arv Z h69 b61 k61 .char (4 : Int32) [(.int c62), (.int c64), (.int c66), (.int c68)] (.int (0 : Int32)) := V_b61'
            refine goW st69 ?_
            refine goW (fun _ k => by refine XS.iload X69.here hx rfl (hb hby at_262) rfl ?_; exact k) ?_
            refine goW (fun _ k => by refine XS.iconst X69.here hx rfl (hb hby at_264) ?_; exact k) ?_
            show OwnEndW _ _ _ _ _ _ _ (T69.setTop (mkF m 265 (fL23 p0 p1 p2 p3 x1 x2 b x3 x4 x6_s0 (4 : Int32) b61) [(.int (4 : Int32)), (.int (4 : Int32))]))
            refine goW (fun _ k => by refine XS.icmpYes X69.here hx rfl (pc0 := 265) (pc' := 284) rfl (hb hby at_265) rfl (flt (by decide)).2.2.2 (by decide) (by decide) ?_; exact k) ?_
            refine goW (fun _ k => by refine XS.iload X69.here hx rfl (hb hby at_284) rfl ?_; exact k) ?_
            refine goW (fun _ k => by refine XS.iconst X69.here hx rfl (hb hby at_286) ?_; exact k) ?_
            show OwnEndW _ _ _ _ _ _ _ (T69.setTop (mkF m 287 (fL23 p0 p1 p2 p3 x1 x2 b x3 x4 x6_s0 (4 : Int32) b61) [(.int (5 : Int32)), (.int (4 : Int32))]))
            refine goW (fun _ k => by refine XS.icmpYes X69.here hx rfl (pc0 := 287) (pc' := 306) rfl (hb hby at_287) rfl (flt (by decide)).2.2.2 (by decide) (by decide) ?_; exact k) ?_
            refine goW (fun _ k => by refine XS.iload X69.here hx rfl (hb hby at_306) rfl ?_; exact k) ?_
            refine goW (fun _ k => by refine XS.bipush X69.here hx rfl (hb hby at_308) ?_; exact k) ?_
            show OwnEndW _ _ _ _ _ _ _ (T69.setTop (mkF m 310 (fL23 p0 p1 p2 p3 x1 x2 b x3 x4 x6_s0 (4 : Int32) b61) [(.int (6 : Int32)), (.int (4 : Int32))]))
            refine goW (fun _ k => by refine XS.icmpYes X69.here hx rfl (pc0 := 310) (pc' := 331) rfl (hb hby at_310) rfl (flt (by decide)).2.2.2 (by decide) (by decide) ?_; exact k) ?_
            refine goW (fun _ k => by refine XS.iload X69.here hx rfl (hb hby at_331) rfl ?_; exact k) ?_
            refine goW (fun _ k => by refine XS.bipush X69.here hx rfl (hb hby at_333) ?_; exact k) ?_
            show OwnEndW _ _ _ _ _ _ _ (T69.setTop (mkF m 335 (fL23 p0 p1 p2 p3 x1 x2 b x3 x4 x6_s0 (4 : Int32) b61) [(.int (7 : Int32)), (.int (4 : Int32))]))
            refine goW (fun _ k => by refine XS.icmpYes X69.here hx rfl (pc0 := 335) (pc' := 356) rfl (hb hby at_335) rfl (flt (by decide)).2.2.2 (by decide) (by decide) ?_; exact k) ?_
            refine goW (fun _ k => by refine XS.iload X69.here hx rfl (hb hby at_356) rfl ?_; exact k) ?_
            refine goW (fun _ k => by refine XS.bipush X69.here hx rfl (hb hby at_358) ?_; exact k) ?_
            show OwnEndW _ _ _ _ _ _ _ (T69.setTop (mkF m 360 (fL23 p0 p1 p2 p3 x1 x2 b x3 x4 x6_s0 (4 : Int32) b61) [(.int (8 : Int32)), (.int (4 : Int32))]))
            refine goW (fun _ k => by refine XS.icmpYes X69.here hx rfl (pc0 := 360) (pc' := 381) rfl (hb hby at_360) rfl (flt (by decide)).2.2.2 (by decide) (by decide) ?_; exact k) ?_
            refine goW (fun _ k => by refine XS.iload X69.here hx rfl (hb hby at_381) rfl ?_; exact k) ?_
            refine goW (fun _ k => by refine XS.bipush X69.here hx rfl (hb hby at_383) ?_; exact k) ?_
            show OwnEndW _ _ _ _ _ _ _ (T69.setTop (mkF m 385 (fL23 p0 p1 p2 p3 x1 x2 b x3 x4 x6_s0 (4 : Int32) b61) [(.int (9 : Int32)), (.int (4 : Int32))]))
            refine goW (fun _ k => by refine XS.icmpYes X69.here hx rfl (pc0 := 385) (pc' := 406) rfl (hb hby at_385) rfl (flt (by decide)).2.2.2 (by decide) (by decide) ?_; exact k) ?_
            show OwnEndW _ _ _ _ _ _ _ (T69.setTop (mkF m 406 (fL23 p0 p1 p2 p3 x1 x2 b x3 x4 x6_s0 (4 : Int32) b61) []))
            obtain ⟨T70, h70, X70, e70, E70, A70, D70, -, st70⟩ := newO X69 hx hZ hown (hw _ (List.mem_of_getElem? (i := 49) rfl)) (hw _ (List.mem_of_getElem? (i := 2) rfl)) (hw _ (List.mem_of_getElem? (i := 1) rfl)) e69 (g := (mkF m 406 (fL23 p0 p1 p2 p3 x1 x2 b x3 x4 x6_s0 (4 : Int32) b61) [])) rfl (hb hby at_406) (by decide) (by decide)
            obtain ⟨b70, g70⟩ : ∃ z, z = h69.size := ⟨_, rfl⟩
            rw [← g70] at A70 D70 st70
            have ne_b_b70 : b ≠ b70 := fun q => absurd EB.lt (by rw [q, g70]; exact Nat.lt_irrefl _)
            have ne_t_b70 : t ≠ b70 := fun q => absurd AB.lt (by rw [q, g70]; exact Nat.lt_irrefl _)
            have ne_b61_b70 : b61 ≠ b70 := fun q => absurd V_b61.lt (by rw [q, g70]; exact Nat.lt_irrefl _)
            have sf_b70 : Safe Z own_EL vm1 h69 b70 := Safe.new (Nat.le_of_eq g70.symm)
            have g_b70 : n0 ≤ b70 := Nat.le_trans Z0 (Nat.le_of_eq g70.symm)
            have sf_b61 := Safe.ext E70 HC.1 sf_b61
            have sf_b70 := Safe.ext E70 HC.1 sf_b70
            have HC := HC.trans (CHr.ext E70 HC.1)
            have Z0 := Nat.le_trans Z0 E70.1
            have O := O.ext E70
            have hk := Nat.le_trans hk E70.1
            have SC := SC.ext E70
            have SK0 := SK0.ext E70
            have SK1 := SK1.ext E70
            have SK2 := SK2.ext E70
            have EB := EB.ext E70
            have VB := VB.ext E70
            have DB := DB.ext E70
            have AB := AB.ext E70
            have V_b61 := V_b61.ext E70
            have F_value_b70 : Fld Z h70 b70 "java/lang/String" "value" "[B" .null := D70 (Or.inr (hw _ (List.mem_of_getElem? (i := 4) rfl))) (ty := (.array .byte)) (by decide)
            have F_coder_b70 : Fld Z h70 b70 "java/lang/String" "coder" "B" (.int (0 : Int32)) := D70 (Or.inr (hw _ (List.mem_of_getElem? (i := 5) rfl))) (ty := .byte) (by decide)
            have E_b70 := A70
            refine goW st70 ?_
            refine goW (fun _ k => by refine XS.dup X70.here hx rfl (hb hby at_409) rfl rfl ?_; exact k) ?_
            refine goW (fun _ k => by refine XS.aload X70.here hx rfl (hb hby at_410) rfl rfl ?_; exact k) ?_
            show OwnEndW _ _ _ _ _ _ _ (T70.setTop (mkF m 412 (fL23 p0 p1 p2 p3 x1 x2 b x3 x4 x6_s0 (4 : Int32) b61) [(.ref b61), (.ref b70), (.ref b70)]))
            have hp71 : ∀ c ∈ ([c62, c64, c66, c68] : List Int32), ¬ c < 0 ∧ ¬ (255 : Int32) < c := by
              intro c hc
              simp only [List.mem_cons, List.not_mem_nil, or_false] at hc
              rcases hc with rfl | rfl | rfl | rfl
              · exact hr62
              · exact hr64
              · exact hr66
              · exact hr68
            obtain ⟨_, T71, L71, X71, hQ71, st71⟩ := callInitB X70 hx hZ hown rfl (hw _ (List.mem_of_getElem? (i := 50) rfl)) (hw _ (List.mem_of_getElem? (i := 51) rfl)) (hw _ (List.mem_of_getElem? (i := 52) rfl)) (by decide) (StrChars.Road.backV (W := 1) hZ (fun d hd => hw d ((by decide +kernel : ∀ d ∈ StrChars.Road.words, d ∈ tables_1) d hd)) (kI := 4) (hw _ (List.mem_of_getElem? (i := 2) rfl)) (cs := ([c62, c64, c66, c68] : List Int32)) (bs := (([c62, c64, c66, c68] : List Int32)).map (fun c => c.toInt8.toInt32)) (n := 4) g_b70 Z0 E_b70 F_value_b70 F_coder_b70 V_b61 SC c1 rfl rfl (by decide) (by decide) hp71 rfl (by decide) (by decide)) e70 (g := (mkF m 412 (fL23 p0 p1 p2 p3 x1 x2 b x3 x4 x6_s0 (4 : Int32) b61) [(.ref b61), (.ref b70), (.ref b70)])) rfl (by rw [hml]; rfl) (argsL := [(.ref b61)]) (rest := [(.ref b70)]) rfl (lenOf pd___C_V rfl) rfl (by show 2 * 0 + _ ≤ _; exact Nat.le_of_eq rfl) (hb hby at_412) (by decide) (by decide)
            obtain ⟨rfl, Nq71, K71, E_b70, F_coder_b70, t71, kb71, g_t71, sq71, nt71, F_value_b70, V_t71⟩ := hQ71
            have N71 := Fr.app N69 Nq71
            have HCn := HC.trans (CHr.keep K71 (sfS sf_b70 sf0) HC.1)
            have sf_b61n := Safe.keep K71 (sfS sf_b70 sf0) HC.1 sf_b61
            have sf_b70n := Safe.keep K71 (sfS sf_b70 sf0) HC.1 sf_b70
            have HC := HCn
            have sf_b61 := sf_b61n
            have sf_b70 := sf_b70n
            have Z0 := Nat.le_trans Z0 K71.1
            have O := O.keep K71 (allS g_b70 all0)
            have hk := Nat.le_trans hk K71.1
            have EB := EB.keep K71
            have VB := VB.keep K71 (ninS ne_b_b70 nin0)
            have DB := DB.keep K71 (ninS ne_b_b70 nin0)
            have AB := AB.keep K71 (ninS ne_t_b70 nin0)
            have V_b61 := V_b61.keep K71 (ninS ne_b61_b70 nin0)
            have SC := SC0.ext O.2
            have SK0 := M0.ext O.2
            have SK1 := M1.ext O.2
            have SK2 := M2.ext O.2
            refine goW st71 ?_
            refine goW (fun _ k => by refine XS.astore X71.here hx rfl (hb hby at_415) rfl rfl (l' := (fL22 p0 p1 p2 p3 x1 x2 b x3 x4 x6_s0 (4 : Int32) b70 b61)) rfl ?_; exact k) ?_
            exact J417 vm1 _ _ _ _ (4 : Int32) (.val (.ref b61)) b70 t71 kb71 ([c62, c64, c66, c68] : List Int32) (One.val rfl) (up X71 (by decide) (by decide)) N71 rfl hS hk hZ hown HC O Z0 hp71 (Nat.le_of_ble_eq_true rfl) E_b70 F_value_b70 F_coder_b70 V_t71
          · rw [h10]
            show OwnEndW _ _ _ _ _ _ _ (T20.setTop (mkF m 169 (fL19 p0 p1 p2 p3 x1 x2 b x3 x4 x6_s0 (5 : Int32)) []))
            refine goW (fun _ k => by refine XS.iload X20.here hx rfl (hb hby at_169) rfl ?_; exact k) ?_
            show OwnEndW _ _ _ _ _ _ _ (T20.setTop (mkF m 171 (fL19 p0 p1 p2 p3 x1 x2 b x3 x4 x6_s0 (5 : Int32)) [(.int (5 : Int32))]))
            obtain ⟨T72, h72, k72, X72, e72, E72, A72, st72⟩ := newP X20 hx hZ (hw _ (List.mem_of_getElem? (i := 22) rfl)) e20 (g := (mkF m 171 (fL19 p0 p1 p2 p3 x1 x2 b x3 x4 x6_s0 (5 : Int32)) [(.int (5 : Int32))])) rfl (hb hby at_171) rfl (by decide) (cap := 5) (by decide) (by decide) (by decide) (by decide)
            obtain ⟨b72, g72⟩ : ∃ z, z = h1.size := ⟨_, rfl⟩
            rw [← g72] at A72 st72
            have ne_b_b72 : b ≠ b72 := fun q => absurd EB.lt (by rw [q, g72]; exact Nat.lt_irrefl _)
            have ne_t_b72 : t ≠ b72 := fun q => absurd AB.lt (by rw [q, g72]; exact Nat.lt_irrefl _)
            have sf_b72 : Safe Z own_EL vm1 h1 b72 := Safe.new (Nat.le_of_eq g72.symm)
            have g_b72 : n0 ≤ b72 := Nat.le_trans Z0 (Nat.le_of_eq g72.symm)
            have sf_b72 := Safe.ext E72 HC.1 sf_b72
            have HC := HC.trans (CHr.ext E72 HC.1)
            have Z0 := Nat.le_trans Z0 E72.1
            have O := O.ext E72
            have hk := Nat.le_trans hk E72.1
            have SC := SC.ext E72
            have SK0 := SK0.ext E72
            have SK1 := SK1.ext E72
            have SK2 := SK2.ext E72
            have EB := EB.ext E72
            have VB := VB.ext E72
            have DB := DB.ext E72
            have AB := AB.ext E72
            have V_b72 : Arv Z h72 b72 k72 .char (5 : Int32) [(.int (0 : Int32)), (.int (0 : Int32)), (.int (0 : Int32)), (.int (0 : Int32)), (.int (0 : Int32))] (.int (0 : Int32)) := (Arv.new A72 (by decide)).pad (pad_rep [] (.int (0 : Int32)) 5)
            refine goW st72 ?_
            refine goW (fun _ k => by refine XS.astore X72.here hx rfl (hb hby at_173) rfl rfl (l' := (fL23 p0 p1 p2 p3 x1 x2 b x3 x4 x6_s0 (5 : Int32) b72)) rfl ?_; exact k) ?_
            refine goW (fun _ k => by refine XS.iload X72.here hx rfl (hb hby at_175) rfl ?_; exact k) ?_
            show OwnEndW _ _ _ _ _ _ _ (T72.setTop (mkF m 177 (fL23 p0 p1 p2 p3 x1 x2 b x3 x4 x6_s0 (5 : Int32) b72) [(.int (5 : Int32))]))
            refine goW (fun _ k => by refine XS.ifNo X72.here hx rfl (hb hby at_177) rfl ((if0 _ _).trans (tlt (by decide)).2.2.2) ?_; exact k) ?_
            refine goW (fun _ k => by refine XS.aload X72.here hx rfl (hb hby at_180) rfl rfl ?_; exact k) ?_
            refine goW (fun _ k => by refine XS.iconst X72.here hx rfl (hb hby at_182) ?_; exact k) ?_
            refine goW (fun _ k => by refine XS.aload X72.here hx rfl (hb hby at_183) rfl rfl ?_; exact k) ?_
            show OwnEndW _ _ _ _ _ _ _ (T72.setTop (mkF m 185 (fL23 p0 p1 p2 p3 x1 x2 b x3 x4 x6_s0 (5 : Int32) b72) [(.ref b), (.int (0 : Int32)), (.ref b72)]))
            refine goW (fun _ k => by refine XS.iconst X72.here hx rfl (hb hby at_185) ?_; exact k) ?_
            refine goW (fun _ k => by refine XS.iload X72.here hx rfl (hb hby at_186) rfl ?_; exact k) ?_
            refine goW (fun _ k => by refine XS.iload X72.here hx rfl (hb hby at_188) rfl ?_; exact k) ?_
            refine goW (fun _ k => by refine XS.iload X72.here hx rfl (hb hby at_190) rfl ?_; exact k) ?_
            show OwnEndW _ _ _ _ _ _ _ (T72.setTop (mkF m 192 (fL23 p0 p1 p2 p3 x1 x2 b x3 x4 x6_s0 (5 : Int32) b72) [(.int x6_s0), (.int x3), (.int x4), (.int (0 : Int32)), (.ref b), (.int (0 : Int32)), (.ref b72)]))
            obtain ⟨_, T73, L73, X73, hQ73, st73⟩ := callStat X72 hx hZ hown (hw _ (List.mem_of_getElem? (i := 23) rfl)) (hw _ (List.mem_of_getElem? (i := 24) rfl)) (hw _ (List.mem_of_getElem? (i := 25) rfl)) (hw _ (List.mem_of_getElem? (i := 26) rfl)) (by decide) (rm_pick l Z a0 hw [] b x4 x3 x6_s0 0 t kb bs cs fm h72 n0 (by decide) hc7 hbs lbs EB VB DB AB O SC0 c1 SF0 rf) (W := 2) (by decide) (by decide) e72 (g := (mkF m 192 (fL23 p0 p1 p2 p3 x1 x2 b x3 x4 x6_s0 (5 : Int32) b72) [(.int x6_s0), (.int x3), (.int x4), (.int (0 : Int32)), (.ref b), (.int (0 : Int32)), (.ref b72)])) rfl (by rw [hml]; rfl) (argsL := [(.ref b), (.int (0 : Int32)), (.int x4), (.int x3), (.int x6_s0)]) (rest := [(.int (0 : Int32)), (.ref b72)]) rfl (lenOf pd__Ljava_lang_String_IICZ_C rfl) rfl (by show 2 * 0 + _ ≤ _; exact Nat.le_of_eq rfl) (hb hby at_192) (by decide) (by decide)
            obtain ⟨c73, rfl, hr73, Nq73, eq73⟩ := hQ73
            have N73 := Fr.app N20 Nq73
            refine goW st73 ?_
            show OwnEndW _ _ _ _ _ _ _ (T73.setTop (mkF m 195 (fL23 p0 p1 p2 p3 x1 x2 b x3 x4 x6_s0 (5 : Int32) b72) [(.int c73), (.int (0 : Int32)), (.ref b72)]))
            obtain ⟨T74, h74, X74, e74, W74, V_b72', st74⟩ := stCv X73 hx hZ eq73 V_b72 (j := (0 : Int32)) (i := 0) (by decide) (by decide) (by decide) (Nat.le_of_ble_eq_true rfl) (g := (mkF m 195 (fL23 p0 p1 p2 p3 x1 x2 b x3 x4 x6_s0 (5 : Int32) b72) [(.int c73), (.int (0 : Int32)), (.ref b72)])) rfl rfl (hb hby at_195)
            have N74 := Fr.snoc X74 N73 g_b72
            rw [own_narc hr73] at V_b72'
            have HCn := HC.trans (CHr.wr W74 sf_b72 HC.1)
            have sf_b72n := Safe.wr W74 sf_b72 HC.1 sf_b72
            have HC := HCn
            have sf_b72 := sf_b72n
            have Z0 := Nat.le_trans Z0 (Keep.of_wr W74).1
            have O := O.wr W74 g_b72
            have hk := Nat.le_trans hk (Keep.of_wr W74).1
            have SC := SC.wr W74
            have SK0 := SK0.wr W74
            have SK1 := SK1.wr W74
            have SK2 := SK2.wr W74
            have EB := EB.wr W74
            have VB := VB.other W74 (Or.inl ne_b_b72)
            have DB := DB.other W74 (Or.inl ne_b_b72)
            have AB := AB.other W74 ne_t_b72
            have V_b72 : Arv Z h74 b72 k72 .char (5 : Int32) [(.int c73), (.int (0 : Int32)), (.int (0 : Int32)), (.int (0 : Int32)), (.int (0 : Int32))] (.int (0 : Int32)) := V_b72'
            refine goW st74 ?_
            refine goW (fun _ k => by refine XS.iload X74.here hx rfl (hb hby at_196) rfl ?_; exact k) ?_
            refine goW (fun _ k => by refine XS.iconst X74.here hx rfl (hb hby at_198) ?_; exact k) ?_
            show OwnEndW _ _ _ _ _ _ _ (T74.setTop (mkF m 199 (fL23 p0 p1 p2 p3 x1 x2 b x3 x4 x6_s0 (5 : Int32) b72) [(.int (1 : Int32)), (.int (5 : Int32))]))
            refine goW (fun _ k => by refine XS.icmpNo X74.here hx rfl (hb hby at_199) rfl (tlt (by decide)).2.2.2 ?_; exact k) ?_
            refine goW (fun _ k => by refine XS.aload X74.here hx rfl (hb hby at_202) rfl rfl ?_; exact k) ?_
            refine goW (fun _ k => by refine XS.iconst X74.here hx rfl (hb hby at_204) ?_; exact k) ?_
            refine goW (fun _ k => by refine XS.aload X74.here hx rfl (hb hby at_205) rfl rfl ?_; exact k) ?_
            show OwnEndW _ _ _ _ _ _ _ (T74.setTop (mkF m 207 (fL23 p0 p1 p2 p3 x1 x2 b x3 x4 x6_s0 (5 : Int32) b72) [(.ref b), (.int (1 : Int32)), (.ref b72)]))
            refine goW (fun _ k => by refine XS.iconst X74.here hx rfl (hb hby at_207) ?_; exact k) ?_
            refine goW (fun _ k => by refine XS.iload X74.here hx rfl (hb hby at_208) rfl ?_; exact k) ?_
            refine goW (fun _ k => by refine XS.iload X74.here hx rfl (hb hby at_210) rfl ?_; exact k) ?_
            refine goW (fun _ k => by refine XS.iload X74.here hx rfl (hb hby at_212) rfl ?_; exact k) ?_
            show OwnEndW _ _ _ _ _ _ _ (T74.setTop (mkF m 214 (fL23 p0 p1 p2 p3 x1 x2 b x3 x4 x6_s0 (5 : Int32) b72) [(.int x6_s0), (.int x3), (.int x4), (.int (1 : Int32)), (.ref b), (.int (1 : Int32)), (.ref b72)]))
            obtain ⟨_, T75, L75, X75, hQ75, st75⟩ := callStat X74 hx hZ hown (hw _ (List.mem_of_getElem? (i := 23) rfl)) (hw _ (List.mem_of_getElem? (i := 24) rfl)) (hw _ (List.mem_of_getElem? (i := 25) rfl)) (hw _ (List.mem_of_getElem? (i := 26) rfl)) (by decide) (rm_pick l Z a0 hw [] b x4 x3 x6_s0 1 t kb bs cs fm h74 n0 (by decide) hc7 hbs lbs EB VB DB AB O SC0 c1 SF0 rf) (W := 2) (by decide) (by decide) e74 (g := (mkF m 214 (fL23 p0 p1 p2 p3 x1 x2 b x3 x4 x6_s0 (5 : Int32) b72) [(.int x6_s0), (.int x3), (.int x4), (.int (1 : Int32)), (.ref b), (.int (1 : Int32)), (.ref b72)])) rfl (by rw [hml]; rfl) (argsL := [(.ref b), (.int (1 : Int32)), (.int x4), (.int x3), (.int x6_s0)]) (rest := [(.int (1 : Int32)), (.ref b72)]) rfl (lenOf pd__Ljava_lang_String_IICZ_C rfl) rfl (by show 2 * 0 + _ ≤ _; exact Nat.le_of_eq rfl) (hb hby at_214) (by decide) (by decide)
            obtain ⟨c75, rfl, hr75, Nq75, eq75⟩ := hQ75
            have N75 := Fr.app N74 Nq75
            refine goW st75 ?_
            show OwnEndW _ _ _ _ _ _ _ (T75.setTop (mkF m 217 (fL23 p0 p1 p2 p3 x1 x2 b x3 x4 x6_s0 (5 : Int32) b72) [(.int c75), (.int (1 : Int32)), (.ref b72)]))
            obtain ⟨T76, h76, X76, e76, W76, V_b72', st76⟩ := stCv X75 hx hZ eq75 V_b72 (j := (1 : Int32)) (i := 1) (by decide) (by decide) (by decide) (Nat.le_of_ble_eq_true rfl) (g := (mkF m 217 (fL23 p0 p1 p2 p3 x1 x2 b x3 x4 x6_s0 (5 : Int32) b72) [(.int c75), (.int (1 : Int32)), (.ref b72)])) rfl rfl (hb hby at_217)
            have N76 := Fr.snoc X76 N75 g_b72
            rw [own_narc hr75] at V_b72'
            have HCn := HC.trans (CHr.wr W76 sf_b72 HC.1)
            have sf_b72n := Safe.wr W76 sf_b72 HC.1 sf_b72
            have HC := HCn
            have sf_b72 := sf_b72n
            have Z0 := Nat.le_trans Z0 (Keep.of_wr W76).1
            have O := O.wr W76 g_b72
            have hk := Nat.le_trans hk (Keep.of_wr W76).1
            have SC := SC.wr W76
            have SK0 := SK0.wr W76
            have SK1 := SK1.wr W76
            have SK2 := SK2.wr W76
            have EB := EB.wr W76
            have VB := VB.other W76 (Or.inl ne_b_b72)
            have DB := DB.other W76 (Or.inl ne_b_b72)
            have AB := AB.other W76 ne_t_b72
            have V_b72 : Arv Z h76 b72 k72 .char (5 : Int32) [(.int c73), (.int c75), (.int (0 : Int32)), (.int (0 : Int32)), (.int (0 : Int32))] (.int (0 : Int32)) := V_b72'
            refine goW st76 ?_
            refine goW (fun _ k => by refine XS.iload X76.here hx rfl (hb hby at_218) rfl ?_; exact k) ?_
            refine goW (fun _ k => by refine XS.iconst X76.here hx rfl (hb hby at_220) ?_; exact k) ?_
            show OwnEndW _ _ _ _ _ _ _ (T76.setTop (mkF m 221 (fL23 p0 p1 p2 p3 x1 x2 b x3 x4 x6_s0 (5 : Int32) b72) [(.int (2 : Int32)), (.int (5 : Int32))]))
            refine goW (fun _ k => by refine XS.icmpNo X76.here hx rfl (hb hby at_221) rfl (tlt (by decide)).2.2.2 ?_; exact k) ?_
            refine goW (fun _ k => by refine XS.aload X76.here hx rfl (hb hby at_224) rfl rfl ?_; exact k) ?_
            refine goW (fun _ k => by refine XS.iconst X76.here hx rfl (hb hby at_226) ?_; exact k) ?_
            refine goW (fun _ k => by refine XS.aload X76.here hx rfl (hb hby at_227) rfl rfl ?_; exact k) ?_
            show OwnEndW _ _ _ _ _ _ _ (T76.setTop (mkF m 229 (fL23 p0 p1 p2 p3 x1 x2 b x3 x4 x6_s0 (5 : Int32) b72) [(.ref b), (.int (2 : Int32)), (.ref b72)]))
            refine goW (fun _ k => by refine XS.iconst X76.here hx rfl (hb hby at_229) ?_; exact k) ?_
            refine goW (fun _ k => by refine XS.iload X76.here hx rfl (hb hby at_230) rfl ?_; exact k) ?_
            refine goW (fun _ k => by refine XS.iload X76.here hx rfl (hb hby at_232) rfl ?_; exact k) ?_
            refine goW (fun _ k => by refine XS.iload X76.here hx rfl (hb hby at_234) rfl ?_; exact k) ?_
            show OwnEndW _ _ _ _ _ _ _ (T76.setTop (mkF m 236 (fL23 p0 p1 p2 p3 x1 x2 b x3 x4 x6_s0 (5 : Int32) b72) [(.int x6_s0), (.int x3), (.int x4), (.int (2 : Int32)), (.ref b), (.int (2 : Int32)), (.ref b72)]))
            obtain ⟨_, T77, L77, X77, hQ77, st77⟩ := callStat X76 hx hZ hown (hw _ (List.mem_of_getElem? (i := 23) rfl)) (hw _ (List.mem_of_getElem? (i := 24) rfl)) (hw _ (List.mem_of_getElem? (i := 25) rfl)) (hw _ (List.mem_of_getElem? (i := 26) rfl)) (by decide) (rm_pick l Z a0 hw [] b x4 x3 x6_s0 2 t kb bs cs fm h76 n0 (by decide) hc7 hbs lbs EB VB DB AB O SC0 c1 SF0 rf) (W := 2) (by decide) (by decide) e76 (g := (mkF m 236 (fL23 p0 p1 p2 p3 x1 x2 b x3 x4 x6_s0 (5 : Int32) b72) [(.int x6_s0), (.int x3), (.int x4), (.int (2 : Int32)), (.ref b), (.int (2 : Int32)), (.ref b72)])) rfl (by rw [hml]; rfl) (argsL := [(.ref b), (.int (2 : Int32)), (.int x4), (.int x3), (.int x6_s0)]) (rest := [(.int (2 : Int32)), (.ref b72)]) rfl (lenOf pd__Ljava_lang_String_IICZ_C rfl) rfl (by show 2 * 0 + _ ≤ _; exact Nat.le_of_eq rfl) (hb hby at_236) (by decide) (by decide)
            obtain ⟨c77, rfl, hr77, Nq77, eq77⟩ := hQ77
            have N77 := Fr.app N76 Nq77
            refine goW st77 ?_
            show OwnEndW _ _ _ _ _ _ _ (T77.setTop (mkF m 239 (fL23 p0 p1 p2 p3 x1 x2 b x3 x4 x6_s0 (5 : Int32) b72) [(.int c77), (.int (2 : Int32)), (.ref b72)]))
            obtain ⟨T78, h78, X78, e78, W78, V_b72', st78⟩ := stCv X77 hx hZ eq77 V_b72 (j := (2 : Int32)) (i := 2) (by decide) (by decide) (by decide) (Nat.le_of_ble_eq_true rfl) (g := (mkF m 239 (fL23 p0 p1 p2 p3 x1 x2 b x3 x4 x6_s0 (5 : Int32) b72) [(.int c77), (.int (2 : Int32)), (.ref b72)])) rfl rfl (hb hby at_239)
            have N78 := Fr.snoc X78 N77 g_b72
            rw [own_narc hr77] at V_b72'
            have HCn := HC.trans (CHr.wr W78 sf_b72 HC.1)
            have sf_b72n := Safe.wr W78 sf_b72 HC.1 sf_b72
            have HC := HCn
            have sf_b72 := sf_b72n
            have Z0 := Nat.le_trans Z0 (Keep.of_wr W78).1
            have O := O.wr W78 g_b72
            have hk := Nat.le_trans hk (Keep.of_wr W78).1
            have SC := SC.wr W78
            have SK0 := SK0.wr W78
            have SK1 := SK1.wr W78
            have SK2 := SK2.wr W78
            have EB := EB.wr W78
            have VB := VB.other W78 (Or.inl ne_b_b72)
            have DB := DB.other W78 (Or.inl ne_b_b72)
            have AB := AB.other W78 ne_t_b72
            have V_b72 : Arv Z h78 b72 k72 .char (5 : Int32) [(.int c73), (.int c75), (.int c77), (.int (0 : Int32)), (.int (0 : Int32))] (.int (0 : Int32)) := V_b72'
            refine goW st78 ?_
            refine goW (fun _ k => by refine XS.iload X78.here hx rfl (hb hby at_240) rfl ?_; exact k) ?_
            refine goW (fun _ k => by refine XS.iconst X78.here hx rfl (hb hby at_242) ?_; exact k) ?_
            show OwnEndW _ _ _ _ _ _ _ (T78.setTop (mkF m 243 (fL23 p0 p1 p2 p3 x1 x2 b x3 x4 x6_s0 (5 : Int32) b72) [(.int (3 : Int32)), (.int (5 : Int32))]))
            refine goW (fun _ k => by refine XS.icmpNo X78.here hx rfl (hb hby at_243) rfl (tlt (by decide)).2.2.2 ?_; exact k) ?_
            refine goW (fun _ k => by refine XS.aload X78.here hx rfl (hb hby at_246) rfl rfl ?_; exact k) ?_
            refine goW (fun _ k => by refine XS.iconst X78.here hx rfl (hb hby at_248) ?_; exact k) ?_
            refine goW (fun _ k => by refine XS.aload X78.here hx rfl (hb hby at_249) rfl rfl ?_; exact k) ?_
            show OwnEndW _ _ _ _ _ _ _ (T78.setTop (mkF m 251 (fL23 p0 p1 p2 p3 x1 x2 b x3 x4 x6_s0 (5 : Int32) b72) [(.ref b), (.int (3 : Int32)), (.ref b72)]))
            refine goW (fun _ k => by refine XS.iconst X78.here hx rfl (hb hby at_251) ?_; exact k) ?_
            refine goW (fun _ k => by refine XS.iload X78.here hx rfl (hb hby at_252) rfl ?_; exact k) ?_
            refine goW (fun _ k => by refine XS.iload X78.here hx rfl (hb hby at_254) rfl ?_; exact k) ?_
            refine goW (fun _ k => by refine XS.iload X78.here hx rfl (hb hby at_256) rfl ?_; exact k) ?_
            show OwnEndW _ _ _ _ _ _ _ (T78.setTop (mkF m 258 (fL23 p0 p1 p2 p3 x1 x2 b x3 x4 x6_s0 (5 : Int32) b72) [(.int x6_s0), (.int x3), (.int x4), (.int (3 : Int32)), (.ref b), (.int (3 : Int32)), (.ref b72)]))
            obtain ⟨_, T79, L79, X79, hQ79, st79⟩ := callStat X78 hx hZ hown (hw _ (List.mem_of_getElem? (i := 23) rfl)) (hw _ (List.mem_of_getElem? (i := 24) rfl)) (hw _ (List.mem_of_getElem? (i := 25) rfl)) (hw _ (List.mem_of_getElem? (i := 26) rfl)) (by decide) (rm_pick l Z a0 hw [] b x4 x3 x6_s0 3 t kb bs cs fm h78 n0 (by decide) hc7 hbs lbs EB VB DB AB O SC0 c1 SF0 rf) (W := 2) (by decide) (by decide) e78 (g := (mkF m 258 (fL23 p0 p1 p2 p3 x1 x2 b x3 x4 x6_s0 (5 : Int32) b72) [(.int x6_s0), (.int x3), (.int x4), (.int (3 : Int32)), (.ref b), (.int (3 : Int32)), (.ref b72)])) rfl (by rw [hml]; rfl) (argsL := [(.ref b), (.int (3 : Int32)), (.int x4), (.int x3), (.int x6_s0)]) (rest := [(.int (3 : Int32)), (.ref b72)]) rfl (lenOf pd__Ljava_lang_String_IICZ_C rfl) rfl (by show 2 * 0 + _ ≤ _; exact Nat.le_of_eq rfl) (hb hby at_258) (by decide) (by decide)
            obtain ⟨c79, rfl, hr79, Nq79, eq79⟩ := hQ79
            have N79 := Fr.app N78 Nq79
            refine goW st79 ?_
            show OwnEndW _ _ _ _ _ _ _ (T79.setTop (mkF m 261 (fL23 p0 p1 p2 p3 x1 x2 b x3 x4 x6_s0 (5 : Int32) b72) [(.int c79), (.int (3 : Int32)), (.ref b72)]))
            obtain ⟨T80, h80, X80, e80, W80, V_b72', st80⟩ := stCv X79 hx hZ eq79 V_b72 (j := (3 : Int32)) (i := 3) (by decide) (by decide) (by decide) (Nat.le_of_ble_eq_true rfl) (g := (mkF m 261 (fL23 p0 p1 p2 p3 x1 x2 b x3 x4 x6_s0 (5 : Int32) b72) [(.int c79), (.int (3 : Int32)), (.ref b72)])) rfl rfl (hb hby at_261)
            have N80 := Fr.snoc X80 N79 g_b72
            rw [own_narc hr79] at V_b72'
            have HCn := HC.trans (CHr.wr W80 sf_b72 HC.1)
            have sf_b72n := Safe.wr W80 sf_b72 HC.1 sf_b72
            have HC := HCn
            have sf_b72 := sf_b72n
            have Z0 := Nat.le_trans Z0 (Keep.of_wr W80).1
            have O := O.wr W80 g_b72
            have hk := Nat.le_trans hk (Keep.of_wr W80).1
            have SC := SC.wr W80
            have SK0 := SK0.wr W80
            have SK1 := SK1.wr W80
            have SK2 := SK2.wr W80
            have EB := EB.wr W80
            have VB := VB.other W80 (Or.inl ne_b_b72)
            have DB := DB.other W80 (Or.inl ne_b_b72)
            have AB := AB.other W80 ne_t_b72
            have V_b72 : Arv Z h80 b72 k72 .char (5 : Int32) [(.int c73), (.int c75), (.int c77), (.int c79), (.int (0 : Int32))] (.int (0 : Int32)) := V_b72'
            refine goW st80 ?_
            refine goW (fun _ k => by refine XS.iload X80.here hx rfl (hb hby at_262) rfl ?_; exact k) ?_
            refine goW (fun _ k => by refine XS.iconst X80.here hx rfl (hb hby at_264) ?_; exact k) ?_
            show OwnEndW _ _ _ _ _ _ _ (T80.setTop (mkF m 265 (fL23 p0 p1 p2 p3 x1 x2 b x3 x4 x6_s0 (5 : Int32) b72) [(.int (4 : Int32)), (.int (5 : Int32))]))
            refine goW (fun _ k => by refine XS.icmpNo X80.here hx rfl (hb hby at_265) rfl (tlt (by decide)).2.2.2 ?_; exact k) ?_
            refine goW (fun _ k => by refine XS.aload X80.here hx rfl (hb hby at_268) rfl rfl ?_; exact k) ?_
            refine goW (fun _ k => by refine XS.iconst X80.here hx rfl (hb hby at_270) ?_; exact k) ?_
            refine goW (fun _ k => by refine XS.aload X80.here hx rfl (hb hby at_271) rfl rfl ?_; exact k) ?_
            show OwnEndW _ _ _ _ _ _ _ (T80.setTop (mkF m 273 (fL23 p0 p1 p2 p3 x1 x2 b x3 x4 x6_s0 (5 : Int32) b72) [(.ref b), (.int (4 : Int32)), (.ref b72)]))
            refine goW (fun _ k => by refine XS.iconst X80.here hx rfl (hb hby at_273) ?_; exact k) ?_
            refine goW (fun _ k => by refine XS.iload X80.here hx rfl (hb hby at_274) rfl ?_; exact k) ?_
            refine goW (fun _ k => by refine XS.iload X80.here hx rfl (hb hby at_276) rfl ?_; exact k) ?_
            refine goW (fun _ k => by refine XS.iload X80.here hx rfl (hb hby at_278) rfl ?_; exact k) ?_
            show OwnEndW _ _ _ _ _ _ _ (T80.setTop (mkF m 280 (fL23 p0 p1 p2 p3 x1 x2 b x3 x4 x6_s0 (5 : Int32) b72) [(.int x6_s0), (.int x3), (.int x4), (.int (4 : Int32)), (.ref b), (.int (4 : Int32)), (.ref b72)]))
            obtain ⟨_, T81, L81, X81, hQ81, st81⟩ := callStat X80 hx hZ hown (hw _ (List.mem_of_getElem? (i := 23) rfl)) (hw _ (List.mem_of_getElem? (i := 24) rfl)) (hw _ (List.mem_of_getElem? (i := 25) rfl)) (hw _ (List.mem_of_getElem? (i := 26) rfl)) (by decide) (rm_pick l Z a0 hw [] b x4 x3 x6_s0 4 t kb bs cs fm h80 n0 (by decide) hc7 hbs lbs EB VB DB AB O SC0 c1 SF0 rf) (W := 2) (by decide) (by decide) e80 (g := (mkF m 280 (fL23 p0 p1 p2 p3 x1 x2 b x3 x4 x6_s0 (5 : Int32) b72) [(.int x6_s0), (.int x3), (.int x4), (.int (4 : Int32)), (.ref b), (.int (4 : Int32)), (.ref b72)])) rfl (by rw [hml]; rfl) (argsL := [(.ref b), (.int (4 : Int32)), (.int x4), (.int x3), (.int x6_s0)]) (rest := [(.int (4 : Int32)), (.ref b72)]) rfl (lenOf pd__Ljava_lang_String_IICZ_C rfl) rfl (by show 2 * 0 + _ ≤ _; exact Nat.le_of_eq rfl) (hb hby at_280) (by decide) (by decide)
            obtain ⟨c81, rfl, hr81, Nq81, eq81⟩ := hQ81
            have N81 := Fr.app N80 Nq81
            refine goW st81 ?_
            show OwnEndW _ _ _ _ _ _ _ (T81.setTop (mkF m 283 (fL23 p0 p1 p2 p3 x1 x2 b x3 x4 x6_s0 (5 : Int32) b72) [(.int c81), (.int (4 : Int32)), (.ref b72)]))
            obtain ⟨T82, h82, X82, e82, W82, V_b72', st82⟩ := stCv X81 hx hZ eq81 V_b72 (j := (4 : Int32)) (i := 4) (by decide) (by decide) (by decide) (Nat.le_of_ble_eq_true rfl) (g := (mkF m 283 (fL23 p0 p1 p2 p3 x1 x2 b x3 x4 x6_s0 (5 : Int32) b72) [(.int c81), (.int (4 : Int32)), (.ref b72)])) rfl rfl (hb hby at_283)
            have N82 := Fr.snoc X82 N81 g_b72
            rw [own_narc hr81] at V_b72'
            have HCn := HC.trans (CHr.wr W82 sf_b72 HC.1)
            have sf_b72n := Safe.wr W82 sf_b72 HC.1 sf_b72
            have HC := HCn
            have sf_b72 := sf_b72n
            have Z0 := Nat.le_trans Z0 (Keep.of_wr W82).1
            have O := O.wr W82 g_b72
            have hk := Nat.le_trans hk (Keep.of_wr W82).1
            have SC := SC.wr W82
            have SK0 := SK0.wr W82
            have SK1 := SK1.wr W82
            have SK2 := SK2.wr W82
            have EB := EB.wr W82
            have VB := VB.other W82 (Or.inl ne_b_b72)
            have DB := DB.other W82 (Or.inl ne_b_b72)
            have AB := AB.other W82 ne_t_b72
            have V_b72 : Arv Z h82 b72 k72 .char (5 : Int32) [(.int c73), (.int c75), (.int c77), (.int c79), (.int c81)] (.int (0 : Int32)) := V_b72'
            refine goW st82 ?_
            refine goW (fun _ k => by refine XS.iload X82.here hx rfl (hb hby at_284) rfl ?_; exact k) ?_
            refine goW (fun _ k => by refine XS.iconst X82.here hx rfl (hb hby at_286) ?_; exact k) ?_
            show OwnEndW _ _ _ _ _ _ _ (T82.setTop (mkF m 287 (fL23 p0 p1 p2 p3 x1 x2 b x3 x4 x6_s0 (5 : Int32) b72) [(.int (5 : Int32)), (.int (5 : Int32))]))
            refine goW (fun _ k => by refine XS.icmpYes X82.here hx rfl (pc0 := 287) (pc' := 306) rfl (hb hby at_287) rfl (flt (by decide)).2.2.2 (by decide) (by decide) ?_; exact k) ?_
            refine goW (fun _ k => by refine XS.iload X82.here hx rfl (hb hby at_306) rfl ?_; exact k) ?_
            refine goW (fun _ k => by refine XS.bipush X82.here hx rfl (hb hby at_308) ?_; exact k) ?_
            show OwnEndW _ _ _ _ _ _ _ (T82.setTop (mkF m 310 (fL23 p0 p1 p2 p3 x1 x2 b x3 x4 x6_s0 (5 : Int32) b72) [(.int (6 : Int32)), (.int (5 : Int32))]))
            refine goW (fun _ k => by refine XS.icmpYes X82.here hx rfl (pc0 := 310) (pc' := 331) rfl (hb hby at_310) rfl (flt (by decide)).2.2.2 (by decide) (by decide) ?_; exact k) ?_
            refine goW (fun _ k => by refine XS.iload X82.here hx rfl (hb hby at_331) rfl ?_; exact k) ?_
            refine goW (fun _ k => by refine XS.bipush X82.here hx rfl (hb hby at_333) ?_; exact k) ?_
            show OwnEndW _ _ _ _ _ _ _ (T82.setTop (mkF m 335 (fL23 p0 p1 p2 p3 x1 x2 b x3 x4 x6_s0 (5 : Int32) b72) [(.int (7 : Int32)), (.int (5 : Int32))]))
            refine goW (fun _ k => by refine XS.icmpYes X82.here hx rfl (pc0 := 335) (pc' := 356) rfl (hb hby at_335) rfl (flt (by decide)).2.2.2 (by decide) (by decide) ?_; exact k) ?_
            refine goW (fun _ k => by refine XS.iload X82.here hx rfl (hb hby at_356) rfl ?_; exact k) ?_
            refine goW (fun _ k => by refine XS.bipush X82.here hx rfl (hb hby at_358) ?_; exact k) ?_
            show OwnEndW _ _ _ _ _ _ _ (T82.setTop (mkF m 360 (fL23 p0 p1 p2 p3 x1 x2 b x3 x4 x6_s0 (5 : Int32) b72) [(.int (8 : Int32)), (.int (5 : Int32))]))
            refine goW (fun _ k => by refine XS.icmpYes X82.here hx rfl (pc0 := 360) (pc' := 381) rfl (hb hby at_360) rfl (flt (by decide)).2.2.2 (by decide) (by decide) ?_; exact k) ?_
            refine goW (fun _ k => by refine XS.iload X82.here hx rfl (hb hby at_381) rfl ?_; exact k) ?_
            refine goW (fun _ k => by refine XS.bipush X82.here hx rfl (hb hby at_383) ?_; exact k) ?_
            show OwnEndW _ _ _ _ _ _ _ (T82.setTop (mkF m 385 (fL23 p0 p1 p2 p3 x1 x2 b x3 x4 x6_s0 (5 : Int32) b72) [(.int (9 : Int32)), (.int (5 : Int32))]))
            refine goW (fun _ k => by refine XS.icmpYes X82.here hx rfl (pc0 := 385) (pc' := 406) rfl (hb hby at_385) rfl (flt (by decide)).2.2.2 (by decide) (by decide) ?_; exact k) ?_
            show OwnEndW _ _ _ _ _ _ _ (T82.setTop (mkF m 406 (fL23 p0 p1 p2 p3 x1 x2 b x3 x4 x6_s0 (5 : Int32) b72) []))
            obtain ⟨T83, h83, X83, e83, E83, A83, D83, -, st83⟩ := newO X82 hx hZ hown (hw _ (List.mem_of_getElem? (i := 49) rfl)) (hw _ (List.mem_of_getElem? (i := 2) rfl)) (hw _ (List.mem_of_getElem? (i := 1) rfl)) e82 (g := (mkF m 406 (fL23 p0 p1 p2 p3 x1 x2 b x3 x4 x6_s0 (5 : Int32) b72) [])) rfl (hb hby at_406) (by decide) (by decide)
            obtain ⟨b83, g83⟩ : ∃ z, z = h82.size := ⟨_, rfl⟩
            rw [← g83] at A83 D83 st83
            have ne_b_b83 : b ≠ b83 := fun q => absurd EB.lt (by rw [q, g83]; exact Nat.lt_irrefl _)
            have ne_t_b83 : t ≠ b83 := fun q => absurd AB.lt (by rw [q, g83]; exact Nat.lt_irrefl _)
            have ne_b72_b83 : b72 ≠ b83 := fun q => absurd V_b72.lt (by rw [q, g83]; exact Nat.lt_irrefl _)
            have sf_b83 : Safe Z own_EL vm1 h82 b83 := Safe.new (Nat.le_of_eq g83.symm)
            have g_b83 : n0 ≤ b83 := Nat.le_trans Z0 (Nat.le_of_eq g83.symm)
            have sf_b72 := Safe.ext E83 HC.1 sf_b72
            have sf_b83 := Safe.ext E83 HC.1 sf_b83
            have HC := HC.trans (CHr.ext E83 HC.1)
            have Z0 := Nat.le_trans Z0 E83.1
            have O := O.ext E83
            have hk := Nat.le_trans hk E83.1
            have SC := SC.ext E83
            have SK0 := SK0.ext E83
            have SK1 := SK1.ext E83
            have SK2 := SK2.ext E83
            have EB := EB.ext E83
            have VB := VB.ext E83
            have DB := DB.ext E83
            have AB := AB.ext E83
            have V_b72 := V_b72.ext E83
            have F_value_b83 : Fld Z h83 b83 "java/lang/String" "value" "[B" .null := D83 (Or.inr (hw _ (List.mem_of_getElem? (i := 4) rfl))) (ty := (.array .byte)) (by decide)
            have F_coder_b83 : Fld Z h83 b83 "java/lang/String" "coder" "B" (.int (0 : Int32)) := D83 (Or.inr (hw _ (List.mem_of_getElem? (i := 5) rfl))) (ty := .byte) (by decide)
            have E_b83 := A83
            refine goW st83 ?_
            refine goW (fun _ k => by refine XS.dup X83.here hx rfl (hb hby at_409) rfl rfl ?_; exact k) ?_
            refine goW (fun _ k => by refine XS.aload X83.here hx rfl (hb hby at_410) rfl rfl ?_; exact k) ?_
            show OwnEndW _ _ _ _ _ _ _ (T83.setTop (mkF m 412 (fL23 p0 p1 p2 p3 x1 x2 b x3 x4 x6_s0 (5 : Int32) b72) [(.ref b72), (.ref b83), (.ref b83)]))
            have hp84 : ∀ c ∈ ([c73, c75, c77, c79, c81] : List Int32), ¬ c < 0 ∧ ¬ (255 : Int32) < c := by
              intro c hc
              simp only [List.mem_cons, List.not_mem_nil, or_false] at hc
              rcases hc with rfl | rfl | rfl | rfl | rfl
              · exact hr73
              · exact hr75
              · exact hr77
              · exact hr79
              · exact hr81
            obtain ⟨_, T84, L84, X84, hQ84, st84⟩ := callInitB X83 hx hZ hown rfl (hw _ (List.mem_of_getElem? (i := 50) rfl)) (hw _ (List.mem_of_getElem? (i := 51) rfl)) (hw _ (List.mem_of_getElem? (i := 52) rfl)) (by decide) (StrChars.Road.backV (W := 1) hZ (fun d hd => hw d ((by decide +kernel : ∀ d ∈ StrChars.Road.words, d ∈ tables_1) d hd)) (kI := 4) (hw _ (List.mem_of_getElem? (i := 2) rfl)) (cs := ([c73, c75, c77, c79, c81] : List Int32)) (bs := (([c73, c75, c77, c79, c81] : List Int32)).map (fun c => c.toInt8.toInt32)) (n := 5) g_b83 Z0 E_b83 F_value_b83 F_coder_b83 V_b72 SC c1 rfl rfl (by decide) (by decide) hp84 rfl (by decide) (by decide)) e83 (g := (mkF m 412 (fL23 p0 p1 p2 p3 x1 x2 b x3 x4 x6_s0 (5 : Int32) b72) [(.ref b72), (.ref b83), (.ref b83)])) rfl (by rw [hml]; rfl) (argsL := [(.ref b72)]) (rest := [(.ref b83)]) rfl (lenOf pd___C_V rfl) rfl (by show 2 * 0 + _ ≤ _; exact Nat.le_of_eq rfl) (hb hby at_412) (by decide) (by decide)
            obtain ⟨rfl, Nq84, K84, E_b83, F_coder_b83, t84, kb84, g_t84, sq84, nt84, F_value_b83, V_t84⟩ := hQ84
            have N84 := Fr.app N82 Nq84
            have HCn := HC.trans (CHr.keep K84 (sfS sf_b83 sf0) HC.1)
            have sf_b72n := Safe.keep K84 (sfS sf_b83 sf0) HC.1 sf_b72
            have sf_b83n := Safe.keep K84 (sfS sf_b83 sf0) HC.1 sf_b83
            have HC := HCn
            have sf_b72 := sf_b72n
            have sf_b83 := sf_b83n
            have Z0 := Nat.le_trans Z0 K84.1
            have O := O.keep K84 (allS g_b83 all0)
            have hk := Nat.le_trans hk K84.1
            have EB := EB.keep K84
            have VB := VB.keep K84 (ninS ne_b_b83 nin0)
            have DB := DB.keep K84 (ninS ne_b_b83 nin0)
            have AB := AB.keep K84 (ninS ne_t_b83 nin0)
            have V_b72 := V_b72.keep K84 (ninS ne_b72_b83 nin0)
            have SC := SC0.ext O.2
            have SK0 := M0.ext O.2
            have SK1 := M1.ext O.2
            have SK2 := M2.ext O.2
            refine goW st84 ?_
            refine goW (fun _ k => by refine XS.astore X84.here hx rfl (hb hby at_415) rfl rfl (l' := (fL22 p0 p1 p2 p3 x1 x2 b x3 x4 x6_s0 (5 : Int32) b83 b72)) rfl ?_; exact k) ?_
            exact J417 vm1 _ _ _ _ (5 : Int32) (.val (.ref b72)) b83 t84 kb84 ([c73, c75, c77, c79, c81] : List Int32) (One.val rfl) (up X84 (by decide) (by decide)) N84 rfl hS hk hZ hown HC O Z0 hp84 (Nat.le_of_ble_eq_true rfl) E_b83 F_value_b83 F_coder_b83 V_t84
          · rw [h10]
            show OwnEndW _ _ _ _ _ _ _ (T20.setTop (mkF m 169 (fL19 p0 p1 p2 p3 x1 x2 b x3 x4 x6_s0 (6 : Int32)) []))
            refine goW (fun _ k => by refine XS.iload X20.here hx rfl (hb hby at_169) rfl ?_; exact k) ?_
            show OwnEndW _ _ _ _ _ _ _ (T20.setTop (mkF m 171 (fL19 p0 p1 p2 p3 x1 x2 b x3 x4 x6_s0 (6 : Int32)) [(.int (6 : Int32))]))
            obtain ⟨T85, h85, k85, X85, e85, E85, A85, st85⟩ := newP X20 hx hZ (hw _ (List.mem_of_getElem? (i := 22) rfl)) e20 (g := (mkF m 171 (fL19 p0 p1 p2 p3 x1 x2 b x3 x4 x6_s0 (6 : Int32)) [(.int (6 : Int32))])) rfl (hb hby at_171) rfl (by decide) (cap := 6) (by decide) (by decide) (by decide) (by decide)
            obtain ⟨b85, g85⟩ : ∃ z, z = h1.size := ⟨_, rfl⟩
            rw [← g85] at A85 st85
            have ne_b_b85 : b ≠ b85 := fun q => absurd EB.lt (by rw [q, g85]; exact Nat.lt_irrefl _)
            have ne_t_b85 : t ≠ b85 := fun q => absurd AB.lt (by rw [q, g85]; exact Nat.lt_irrefl _)
            have sf_b85 : Safe Z own_EL vm1 h1 b85 := Safe.new (Nat.le_of_eq g85.symm)
            have g_b85 : n0 ≤ b85 := Nat.le_trans Z0 (Nat.le_of_eq g85.symm)
            have sf_b85 := Safe.ext E85 HC.1 sf_b85
            have HC := HC.trans (CHr.ext E85 HC.1)
            have Z0 := Nat.le_trans Z0 E85.1
            have O := O.ext E85
            have hk := Nat.le_trans hk E85.1
            have SC := SC.ext E85
            have SK0 := SK0.ext E85
            have SK1 := SK1.ext E85
            have SK2 := SK2.ext E85
            have EB := EB.ext E85
            have VB := VB.ext E85
            have DB := DB.ext E85
            have AB := AB.ext E85
            have V_b85 : Arv Z h85 b85 k85 .char (6 : Int32) [(.int (0 : Int32)), (.int (0 : Int32)), (.int (0 : Int32)), (.int (0 : Int32)), (.int (0 : Int32)), (.int (0 : Int32))] (.int (0 : Int32)) := (Arv.new A85 (by decide)).pad (pad_rep [] (.int (0 : Int32)) 6)
            refine goW st85 ?_
            refine goW (fun _ k => by refine XS.astore X85.here hx rfl (hb hby at_173) rfl rfl (l' := (fL23 p0 p1 p2 p3 x1 x2 b x3 x4 x6_s0 (6 : Int32) b85)) rfl ?_; exact k) ?_
            refine goW (fun _ k => by refine XS.iload X85.here hx rfl (hb hby at_175) rfl ?_; exact k) ?_
            show OwnEndW _ _ _ _ _ _ _ (T85.setTop (mkF m 177 (fL23 p0 p1 p2 p3 x1 x2 b x3 x4 x6_s0 (6 : Int32) b85) [(.int (6 : Int32))]))
            refine goW (fun _ k => by refine XS.ifNo X85.here hx rfl (hb hby at_177) rfl ((if0 _ _).trans (tlt (by decide)).2.2.2) ?_; exact k) ?_
            refine goW (fun _ k => by refine XS.aload X85.here hx rfl (hb hby at_180) rfl rfl ?_; exact k) ?_
            refine goW (fun _ k => by refine XS.iconst X85.here hx rfl (hb hby at_182) ?_; exact k) ?_
            refine goW (fun _ k => by refine XS.aload X85.here hx rfl (hb hby at_183) rfl rfl ?_; exact k) ?_
            show OwnEndW _ _ _ _ _ _ _ (T85.setTop (mkF m 185 (fL23 p0 p1 p2 p3 x1 x2 b x3 x4 x6_s0 (6 : Int32) b85) [(.ref b), (.int (0 : Int32)), (.ref b85)]))
            refine goW (fun _ k => by refine XS.iconst X85.here hx rfl (hb hby at_185) ?_; exact k) ?_
            refine goW (fun _ k => by refine XS.iload X85.here hx rfl (hb hby at_186) rfl ?_; exact k) ?_
            refine goW (fun _ k => by refine XS.iload X85.here hx rfl (hb hby at_188) rfl ?_; exact k) ?_
            refine goW (fun _ k => by refine XS.iload X85.here hx rfl (hb hby at_190) rfl ?_; exact k) ?_
            show OwnEndW _ _ _ _ _ _ _ (T85.setTop (mkF m 192 (fL23 p0 p1 p2 p3 x1 x2 b x3 x4 x6_s0 (6 : Int32) b85) [(.int x6_s0), (.int x3), (.int x4), (.int (0 : Int32)), (.ref b), (.int (0 : Int32)), (.ref b85)]))
            obtain ⟨_, T86, L86, X86, hQ86, st86⟩ := callStat X85 hx hZ hown (hw _ (List.mem_of_getElem? (i := 23) rfl)) (hw _ (List.mem_of_getElem? (i := 24) rfl)) (hw _ (List.mem_of_getElem? (i := 25) rfl)) (hw _ (List.mem_of_getElem? (i := 26) rfl)) (by decide) (rm_pick l Z a0 hw [] b x4 x3 x6_s0 0 t kb bs cs fm h85 n0 (by decide) hc7 hbs lbs EB VB DB AB O SC0 c1 SF0 rf) (W := 2) (by decide) (by decide) e85 (g := (mkF m 192 (fL23 p0 p1 p2 p3 x1 x2 b x3 x4 x6_s0 (6 : Int32) b85) [(.int x6_s0), (.int x3), (.int x4), (.int (0 : Int32)), (.ref b), (.int (0 : Int32)), (.ref b85)])) rfl (by rw [hml]; rfl) (argsL := [(.ref b), (.int (0 : Int32)), (.int x4), (.int x3), (.int x6_s0)]) (rest := [(.int (0 : Int32)), (.ref b85)]) rfl (lenOf pd__Ljava_lang_String_IICZ_C rfl) rfl (by show 2 * 0 + _ ≤ _; exact Nat.le_of_eq rfl) (hb hby at_192) (by decide) (by decide)
            obtain ⟨c86, rfl, hr86, Nq86, eq86⟩ := hQ86
            have N86 := Fr.app N20 Nq86
            refine goW st86 ?_
            show OwnEndW _ _ _ _ _ _ _ (T86.setTop (mkF m 195 (fL23 p0 p1 p2 p3 x1 x2 b x3 x4 x6_s0 (6 : Int32) b85) [(.int c86), (.int (0 : Int32)), (.ref b85)]))
            obtain ⟨T87, h87, X87, e87, W87, V_b85', st87⟩ := stCv X86 hx hZ eq86 V_b85 (j := (0 : Int32)) (i := 0) (by decide) (by decide) (by decide) (Nat.le_of_ble_eq_true rfl) (g := (mkF m 195 (fL23 p0 p1 p2 p3 x1 x2 b x3 x4 x6_s0 (6 : Int32) b85) [(.int c86), (.int (0 : Int32)), (.ref b85)])) rfl rfl (hb hby at_195)
            have N87 := Fr.snoc X87 N86 g_b85
            rw [own_narc hr86] at V_b85'
            have HCn := HC.trans (CHr.wr W87 sf_b85 HC.1)
            have sf_b85n := Safe.wr W87 sf_b85 HC.1 sf_b85
            have HC := HCn
            have sf_b85 := sf_b85n
            have Z0 := Nat.le_trans Z0 (Keep.of_wr W87).1
            have O := O.wr W87 g_b85
            have hk := Nat.le_trans hk (Keep.of_wr W87).1
            have SC := SC.wr W87
            have SK0 := SK0.wr W87
            have SK1 := SK1.wr W87
            have SK2 := SK2.wr W87
            have EB := EB.wr W87
            have VB := VB.other W87 (Or.inl ne_b_b85)
            have DB := DB.other W87 (Or.inl ne_b_b85)
            have AB := AB.other W87 ne_t_b85
            have V_b85 : Arv Z h87 b85 k85 .char (6 : Int32) [(.int c86), (.int (0 : Int32)), (.int (0 : Int32)), (.int (0 : Int32)), (.int (0 : Int32)), (.int (0 : Int32))] (.int (0 : Int32)) := V_b85'
            refine goW st87 ?_
            refine goW (fun _ k => by refine XS.iload X87.here hx rfl (hb hby at_196) rfl ?_; exact k) ?_
            refine goW (fun _ k => by refine XS.iconst X87.here hx rfl (hb hby at_198) ?_; exact k) ?_
            show OwnEndW _ _ _ _ _ _ _ (T87.setTop (mkF m 199 (fL23 p0 p1 p2 p3 x1 x2 b x3 x4 x6_s0 (6 : Int32) b85) [(.int (1 : Int32)), (.int (6 : Int32))]))
            refine goW (fun _ k => by refine XS.icmpNo X87.here hx rfl (hb hby at_199) rfl (tlt (by decide)).2.2.2 ?_; exact k) ?_
            refine goW (fun _ k => by refine XS.aload X87.here hx rfl (hb hby at_202) rfl rfl ?_; exact k) ?_
            refine goW (fun _ k => by refine XS.iconst X87.here hx rfl (hb hby at_204) ?_; exact k) ?_
            refine goW (fun _ k => by refine XS.aload X87.here hx rfl (hb hby at_205) rfl rfl ?_; exact k) ?_
            show OwnEndW _ _ _ _ _ _ _ (T87.setTop (mkF m 207 (fL23 p0 p1 p2 p3 x1 x2 b x3 x4 x6_s0 (6 : Int32) b85) [(.ref b), (.int (1 : Int32)), (.ref b85)]))
            refine goW (fun _ k => by refine XS.iconst X87.here hx rfl (hb hby at_207) ?_; exact k) ?_
            refine goW (fun _ k => by refine XS.iload X87.here hx rfl (hb hby at_208) rfl ?_; exact k) ?_
            refine goW (fun _ k => by refine XS.iload X87.here hx rfl (hb hby at_210) rfl ?_; exact k) ?_
            refine goW (fun _ k => by refine XS.iload X87.here hx rfl (hb hby at_212) rfl ?_; exact k) ?_
            show OwnEndW _ _ _ _ _ _ _ (T87.setTop (mkF m 214 (fL23 p0 p1 p2 p3 x1 x2 b x3 x4 x6_s0 (6 : Int32) b85) [(.int x6_s0), (.int x3), (.int x4), (.int (1 : Int32)), (.ref b), (.int (1 : Int32)), (.ref b85)]))
            obtain ⟨_, T88, L88, X88, hQ88, st88⟩ := callStat X87 hx hZ hown (hw _ (List.mem_of_getElem? (i := 23) rfl)) (hw _ (List.mem_of_getElem? (i := 24) rfl)) (hw _ (List.mem_of_getElem? (i := 25) rfl)) (hw _ (List.mem_of_getElem? (i := 26) rfl)) (by decide) (rm_pick l Z a0 hw [] b x4 x3 x6_s0 1 t kb bs cs fm h87 n0 (by decide) hc7 hbs lbs EB VB DB AB O SC0 c1 SF0 rf) (W := 2) (by decide) (by decide) e87 (g := (mkF m 214 (fL23 p0 p1 p2 p3 x1 x2 b x3 x4 x6_s0 (6 : Int32) b85) [(.int x6_s0), (.int x3), (.int x4), (.int (1 : Int32)), (.ref b), (.int (1 : Int32)), (.ref b85)])) rfl (by rw [hml]; rfl) (argsL := [(.ref b), (.int (1 : Int32)), (.int x4), (.int x3), (.int x6_s0)]) (rest := [(.int (1 : Int32)), (.ref b85)]) rfl (lenOf pd__Ljava_lang_String_IICZ_C rfl) rfl (by show 2 * 0 + _ ≤ _; exact Nat.le_of_eq rfl) (hb hby at_214) (by decide) (by decide)
            obtain ⟨c88, rfl, hr88, Nq88, eq88⟩ := hQ88
            have N88 := Fr.app N87 Nq88
            refine goW st88 ?_
            show OwnEndW _ _ _ _ _ _ _ (T88.setTop (mkF m 217 (fL23 p0 p1 p2 p3 x1 x2 b x3 x4 x6_s0 (6 : Int32) b85) [(.int c88), (.int (1 : Int32)), (.ref b85)]))
            obtain ⟨T89, h89, X89, e89, W89, V_b85', st89⟩ := stCv X88 hx hZ eq88 V_b85 (j := (1 : Int32)) (i := 1) (by decide) (by decide) (by decide) (Nat.le_of_ble_eq_true rfl) (g := (mkF m 217 (fL23 p0 p1 p2 p3 x1 x2 b x3 x4 x6_s0 (6 : Int32) b85) [(.int c88), (.int (1 : Int32)), (.ref b85)])) rfl rfl (hb hby at_217)
            have N89 := Fr.snoc X89 N88 g_b85
            rw [own_narc hr88] at V_b85'
            have HCn := HC.trans (CHr.wr W89 sf_b85 HC.1)
            have sf_b85n := Safe.wr W89 sf_b85 HC.1 sf_b85
            have HC := HCn
            have sf_b85 := sf_b85n
            have Z0 := Nat.le_trans Z0 (Keep.of_wr W89).1
            have O := O.wr W89 g_b85
            have hk := Nat.le_trans hk (Keep.of_wr W89).1
            have SC := SC.wr W89
            have SK0 := SK0.wr W89
            have SK1 := SK1.wr W89
            have SK2 := SK2.wr W89
            have EB := EB.wr W89
            have VB := VB.other W89 (Or.inl ne_b_b85)
            have DB := DB.other W89 (Or.inl ne_b_b85)
            have AB := AB.other W89 ne_t_b85
            have V_b85 : Arv Z h89 b85 k85 .char (6 : Int32) [(.int c86), (.int c88), (.int (0 : Int32)), (.int (0 : Int32)), (.int (0 : Int32)), (.int (0 : Int32))] (.int (0 : Int32)) := V_b85'
            refine goW st89 ?_
            refine goW (fun _ k => by refine XS.iload X89.here hx rfl (hb hby at_218) rfl ?_; exact k) ?_
            refine goW (fun _ k => by refine XS.iconst X89.here hx rfl (hb hby at_220) ?_; exact k) ?_
            show OwnEndW _ _ _ _ _ _ _ (T89.setTop (mkF m 221 (fL23 p0 p1 p2 p3 x1 x2 b x3 x4 x6_s0 (6 : Int32) b85) [(.int (2 : Int32)), (.int (6 : Int32))]))
            refine goW (fun _ k => by refine XS.icmpNo X89.here hx rfl (hb hby at_221) rfl (tlt (by decide)).2.2.2 ?_; exact k) ?_
            refine goW (fun _ k => by refine XS.aload X89.here hx rfl (hb hby at_224) rfl rfl ?_; exact k) ?_
            refine goW (fun _ k => by refine XS.iconst X89.here hx rfl (hb hby at_226) ?_; exact k) ?_
            refine goW (fun _ k => by refine XS.aload X89.here hx rfl (hb hby at_227) rfl rfl ?_; exact k) ?_
            show OwnEndW _ _ _ _ _ _ _ (T89.setTop (mkF m 229 (fL23 p0 p1 p2 p3 x1 x2 b x3 x4 x6_s0 (6 : Int32) b85) [(.ref b), (.int (2 : Int32)), (.ref b85)]))
            refine goW (fun _ k => by refine XS.iconst X89.here hx rfl (hb hby at_229) ?_; exact k) ?_
            refine goW (fun _ k => by refine XS.iload X89.here hx rfl (hb hby at_230) rfl ?_; exact k) ?_
            refine goW (fun _ k => by refine XS.iload X89.here hx rfl (hb hby at_232) rfl ?_; exact k) ?_
            refine goW (fun _ k => by refine XS.iload X89.here hx rfl (hb hby at_234) rfl ?_; exact k) ?_
            show OwnEndW _ _ _ _ _ _ _ (T89.setTop (mkF m 236 (fL23 p0 p1 p2 p3 x1 x2 b x3 x4 x6_s0 (6 : Int32) b85) [(.int x6_s0), (.int x3), (.int x4), (.int (2 : Int32)), (.ref b), (.int (2 : Int32)), (.ref b85)]))
            obtain ⟨_, T90, L90, X90, hQ90, st90⟩ := callStat X89 hx hZ hown (hw _ (List.mem_of_getElem? (i := 23) rfl)) (hw _ (List.mem_of_getElem? (i := 24) rfl)) (hw _ (List.mem_of_getElem? (i := 25) rfl)) (hw _ (List.mem_of_getElem? (i := 26) rfl)) (by decide) (rm_pick l Z a0 hw [] b x4 x3 x6_s0 2 t kb bs cs fm h89 n0 (by decide) hc7 hbs lbs EB VB DB AB O SC0 c1 SF0 rf) (W := 2) (by decide) (by decide) e89 (g := (mkF m 236 (fL23 p0 p1 p2 p3 x1 x2 b x3 x4 x6_s0 (6 : Int32) b85) [(.int x6_s0), (.int x3), (.int x4), (.int (2 : Int32)), (.ref b), (.int (2 : Int32)), (.ref b85)])) rfl (by rw [hml]; rfl) (argsL := [(.ref b), (.int (2 : Int32)), (.int x4), (.int x3), (.int x6_s0)]) (rest := [(.int (2 : Int32)), (.ref b85)]) rfl (lenOf pd__Ljava_lang_String_IICZ_C rfl) rfl (by show 2 * 0 + _ ≤ _; exact Nat.le_of_eq rfl) (hb hby at_236) (by decide) (by decide)
            obtain ⟨c90, rfl, hr90, Nq90, eq90⟩ := hQ90
            have N90 := Fr.app N89 Nq90
            refine goW st90 ?_
            show OwnEndW _ _ _ _ _ _ _ (T90.setTop (mkF m 239 (fL23 p0 p1 p2 p3 x1 x2 b x3 x4 x6_s0 (6 : Int32) b85) [(.int c90), (.int (2 : Int32)), (.ref b85)]))
            obtain ⟨T91, h91, X91, e91, W91, V_b85', st91⟩ := stCv X90 hx hZ eq90 V_b85 (j := (2 : Int32)) (i := 2) (by decide) (by decide) (by decide) (Nat.le_of_ble_eq_true rfl) (g := (mkF m 239 (fL23 p0 p1 p2 p3 x1 x2 b x3 x4 x6_s0 (6 : Int32) b85) [(.int c90), (.int (2 : Int32)), (.ref b85)])) rfl rfl (hb hby at_239)
            have N91 := Fr.snoc X91 N90 g_b85
            rw [own_narc hr90] at V_b85'
            have HCn := HC.trans (CHr.wr W91 sf_b85 HC.1)
            have sf_b85n := Safe.wr W91 sf_b85 HC.1 sf_b85
            have HC := HCn
            have sf_b85 := sf_b85n
            have Z0 := Nat.le_trans Z0 (Keep.of_wr W91).1
            have O := O.wr W91 g_b85
            have hk := Nat.le_trans hk (Keep.of_wr W91).1
            have SC := SC.wr W91
            have SK0 := SK0.wr W91
            have SK1 := SK1.wr W91
            have SK2 := SK2.wr W91
            have EB := EB.wr W91
            have VB := VB.other W91 (Or.inl ne_b_b85)
            have DB := DB.other W91 (Or.inl ne_b_b85)
            have AB := AB.other W91 ne_t_b85
            have V_b85 : Arv Z h91 b85 k85 .char (6 : Int32) [(.int c86), (.int c88), (.int c90), (.int (0 : Int32)), (.int (0 : Int32)), (.int (0 : Int32))] (.int (0 : Int32)) := V_b85'
            refine goW st91 ?_
            refine goW (fun _ k => by refine XS.iload X91.here hx rfl (hb hby at_240) rfl ?_; exact k) ?_
            refine goW (fun _ k => by refine XS.iconst X91.here hx rfl (hb hby at_242) ?_; exact k) ?_
            show OwnEndW _ _ _ _ _ _ _ (T91.setTop (mkF m 243 (fL23 p0 p1 p2 p3 x1 x2 b x3 x4 x6_s0 (6 : Int32) b85) [(.int (3 : Int32)), (.int (6 : Int32))]))
            refine goW (fun _ k => by refine XS.icmpNo X91.here hx rfl (hb hby at_243) rfl (tlt (by decide)).2.2.2 ?_; exact k) ?_
            refine goW (fun _ k => by refine XS.aload X91.here hx rfl (hb hby at_246) rfl rfl ?_; exact k) ?_
            refine goW (fun _ k => by refine XS.iconst X91.here hx rfl (hb hby at_248) ?_; exact k) ?_
            refine goW (fun _ k => by refine XS.aload X91.here hx rfl (hb hby at_249) rfl rfl ?_; exact k) ?_
            show OwnEndW _ _ _ _ _ _ _ (T91.setTop (mkF m 251 (fL23 p0 p1 p2 p3 x1 x2 b x3 x4 x6_s0 (6 : Int32) b85) [(.ref b), (.int (3 : Int32)), (.ref b85)]))
            refine goW (fun _ k => by refine XS.iconst X91.here hx rfl (hb hby at_251) ?_; exact k) ?_
            refine goW (fun _ k => by refine XS.iload X91.here hx rfl (hb hby at_252) rfl ?_; exact k) ?_
            refine goW (fun _ k => by refine XS.iload X91.here hx rfl (hb hby at_254) rfl ?_; exact k) ?_
            refine goW (fun _ k => by refine XS.iload X91.here hx rfl (hb hby at_256) rfl ?_; exact k) ?_
            show OwnEndW _ _ _ _ _ _ _ (T91.setTop (mkF m 258 (fL23 p0 p1 p2 p3 x1 x2 b x3 x4 x6_s0 (6 : Int32) b85) [(.int x6_s0), (.int x3), (.int x4), (.int (3 : Int32)), (.ref b), (.int (3 : Int32)), (.ref b85)]))
            obtain ⟨_, T92, L92, X92, hQ92, st92⟩ := callStat X91 hx hZ hown (hw _ (List.mem_of_getElem? (i := 23) rfl)) (hw _ (List.mem_of_getElem? (i := 24) rfl)) (hw _ (List.mem_of_getElem? (i := 25) rfl)) (hw _ (List.mem_of_getElem? (i := 26) rfl)) (by decide) (rm_pick l Z a0 hw [] b x4 x3 x6_s0 3 t kb bs cs fm h91 n0 (by decide) hc7 hbs lbs EB VB DB AB O SC0 c1 SF0 rf) (W := 2) (by decide) (by decide) e91 (g := (mkF m 258 (fL23 p0 p1 p2 p3 x1 x2 b x3 x4 x6_s0 (6 : Int32) b85) [(.int x6_s0), (.int x3), (.int x4), (.int (3 : Int32)), (.ref b), (.int (3 : Int32)), (.ref b85)])) rfl (by rw [hml]; rfl) (argsL := [(.ref b), (.int (3 : Int32)), (.int x4), (.int x3), (.int x6_s0)]) (rest := [(.int (3 : Int32)), (.ref b85)]) rfl (lenOf pd__Ljava_lang_String_IICZ_C rfl) rfl (by show 2 * 0 + _ ≤ _; exact Nat.le_of_eq rfl) (hb hby at_258) (by decide) (by decide)
            obtain ⟨c92, rfl, hr92, Nq92, eq92⟩ := hQ92
            have N92 := Fr.app N91 Nq92
            refine goW st92 ?_
            show OwnEndW _ _ _ _ _ _ _ (T92.setTop (mkF m 261 (fL23 p0 p1 p2 p3 x1 x2 b x3 x4 x6_s0 (6 : Int32) b85) [(.int c92), (.int (3 : Int32)), (.ref b85)]))
            obtain ⟨T93, h93, X93, e93, W93, V_b85', st93⟩ := stCv X92 hx hZ eq92 V_b85 (j := (3 : Int32)) (i := 3) (by decide) (by decide) (by decide) (Nat.le_of_ble_eq_true rfl) (g := (mkF m 261 (fL23 p0 p1 p2 p3 x1 x2 b x3 x4 x6_s0 (6 : Int32) b85) [(.int c92), (.int (3 : Int32)), (.ref b85)])) rfl rfl (hb hby at_261)
            have N93 := Fr.snoc X93 N92 g_b85
            rw [own_narc hr92] at V_b85'
            have HCn := HC.trans (CHr.wr W93 sf_b85 HC.1)
            have sf_b85n := Safe.wr W93 sf_b85 HC.1 sf_b85
            have HC := HCn
            have sf_b85 := sf_b85n
            have Z0 := Nat.le_trans Z0 (Keep.of_wr W93).1
            have O := O.wr W93 g_b85
            have hk := Nat.le_trans hk (Keep.of_wr W93).1
            have SC := SC.wr W93
            have SK0 := SK0.wr W93
            have SK1 := SK1.wr W93
            have SK2 := SK2.wr W93
            have EB := EB.wr W93
            have VB := VB.other W93 (Or.inl ne_b_b85)
            have DB := DB.other W93 (Or.inl ne_b_b85)
            have AB := AB.other W93 ne_t_b85
            have V_b85 : Arv Z h93 b85 k85 .char (6 : Int32) [(.int c86), (.int c88), (.int c90), (.int c92), (.int (0 : Int32)), (.int (0 : Int32))] (.int (0 : Int32)) := V_b85'
            refine goW st93 ?_
            refine goW (fun _ k => by refine XS.iload X93.here hx rfl (hb hby at_262) rfl ?_; exact k) ?_
            refine goW (fun _ k => by refine XS.iconst X93.here hx rfl (hb hby at_264) ?_; exact k) ?_
            show OwnEndW _ _ _ _ _ _ _ (T93.setTop (mkF m 265 (fL23 p0 p1 p2 p3 x1 x2 b x3 x4 x6_s0 (6 : Int32) b85) [(.int (4 : Int32)), (.int (6 : Int32))]))
            refine goW (fun _ k => by refine XS.icmpNo X93.here hx rfl (hb hby at_265) rfl (tlt (by decide)).2.2.2 ?_; exact k) ?_
            refine goW (fun _ k => by refine XS.aload X93.here hx rfl (hb hby at_268) rfl rfl ?_; exact k) ?_
            refine goW (fun _ k => by refine XS.iconst X93.here hx rfl (hb hby at_270) ?_; exact k) ?_
            refine goW (fun _ k => by refine XS.aload X93.here hx rfl (hb hby at_271) rfl rfl ?_; exact k) ?_
            show OwnEndW _ _ _ _ _ _ _ (T93.setTop (mkF m 273 (fL23 p0 p1 p2 p3 x1 x2 b x3 x4 x6_s0 (6 : Int32) b85) [(.ref b), (.int (4 : Int32)), (.ref b85)]))
            refine goW (fun _ k => by refine XS.iconst X93.here hx rfl (hb hby at_273) ?_; exact k) ?_
            refine goW (fun _ k => by refine XS.iload X93.here hx rfl (hb hby at_274) rfl ?_; exact k) ?_
            refine goW (fun _ k => by refine XS.iload X93.here hx rfl (hb hby at_276) rfl ?_; exact k) ?_
            refine goW (fun _ k => by refine XS.iload X93.here hx rfl (hb hby at_278) rfl ?_; exact k) ?_
            show OwnEndW _ _ _ _ _ _ _ (T93.setTop (mkF m 280 (fL23 p0 p1 p2 p3 x1 x2 b x3 x4 x6_s0 (6 : Int32) b85) [(.int x6_s0), (.int x3), (.int x4), (.int (4 : Int32)), (.ref b), (.int (4 : Int32)), (.ref b85)]))
            obtain ⟨_, T94, L94, X94, hQ94, st94⟩ := callStat X93 hx hZ hown (hw _ (List.mem_of_getElem? (i := 23) rfl)) (hw _ (List.mem_of_getElem? (i := 24) rfl)) (hw _ (List.mem_of_getElem? (i := 25) rfl)) (hw _ (List.mem_of_getElem? (i := 26) rfl)) (by decide) (rm_pick l Z a0 hw [] b x4 x3 x6_s0 4 t kb bs cs fm h93 n0 (by decide) hc7 hbs lbs EB VB DB AB O SC0 c1 SF0 rf) (W := 2) (by decide) (by decide) e93 (g := (mkF m 280 (fL23 p0 p1 p2 p3 x1 x2 b x3 x4 x6_s0 (6 : Int32) b85) [(.int x6_s0), (.int x3), (.int x4), (.int (4 : Int32)), (.ref b), (.int (4 : Int32)), (.ref b85)])) rfl (by rw [hml]; rfl) (argsL := [(.ref b), (.int (4 : Int32)), (.int x4), (.int x3), (.int x6_s0)]) (rest := [(.int (4 : Int32)), (.ref b85)]) rfl (lenOf pd__Ljava_lang_String_IICZ_C rfl) rfl (by show 2 * 0 + _ ≤ _; exact Nat.le_of_eq rfl) (hb hby at_280) (by decide) (by decide)
            obtain ⟨c94, rfl, hr94, Nq94, eq94⟩ := hQ94
            have N94 := Fr.app N93 Nq94
            refine goW st94 ?_
            show OwnEndW _ _ _ _ _ _ _ (T94.setTop (mkF m 283 (fL23 p0 p1 p2 p3 x1 x2 b x3 x4 x6_s0 (6 : Int32) b85) [(.int c94), (.int (4 : Int32)), (.ref b85)]))
            obtain ⟨T95, h95, X95, e95, W95, V_b85', st95⟩ := stCv X94 hx hZ eq94 V_b85 (j := (4 : Int32)) (i := 4) (by decide) (by decide) (by decide) (Nat.le_of_ble_eq_true rfl) (g := (mkF m 283 (fL23 p0 p1 p2 p3 x1 x2 b x3 x4 x6_s0 (6 : Int32) b85) [(.int c94), (.int (4 : Int32)), (.ref b85)])) rfl rfl (hb hby at_283)
            have N95 := Fr.snoc X95 N94 g_b85
            rw [own_narc hr94] at V_b85'
            have HCn := HC.trans (CHr.wr W95 sf_b85 HC.1)
            have sf_b85n := Safe.wr W95 sf_b85 HC.1 sf_b85
            have HC := HCn
            have sf_b85 := sf_b85n
            have Z0 := Nat.le_trans Z0 (Keep.of_wr W95).1
            have O := O.wr W95 g_b85
            have hk := Nat.le_trans hk (Keep.of_wr W95).1
            have SC := SC.wr W95
            have SK0 := SK0.wr W95
            have SK1 := SK1.wr W95
            have SK2 := SK2.wr W95
            have EB := EB.wr W95
            have VB := VB.other W95 (Or.inl ne_b_b85)
            have DB := DB.other W95 (Or.inl ne_b_b85)
            have AB := AB.other W95 ne_t_b85
            have V_b85 : Arv Z h95 b85 k85 .char (6 : Int32) [(.int c86), (.int c88), (.int c90), (.int c92), (.int c94), (.int (0 : Int32))] (.int (0 : Int32)) := V_b85'
            refine goW st95 ?_
            refine goW (fun _ k => by refine XS.iload X95.here hx rfl (hb hby at_284) rfl ?_; exact k) ?_
            refine goW (fun _ k => by refine XS.iconst X95.here hx rfl (hb hby at_286) ?_; exact k) ?_
            show OwnEndW _ _ _ _ _ _ _ (T95.setTop (mkF m 287 (fL23 p0 p1 p2 p3 x1 x2 b x3 x4 x6_s0 (6 : Int32) b85) [(.int (5 : Int32)), (.int (6 : Int32))]))
            refine goW (fun _ k => by refine XS.icmpNo X95.here hx rfl (hb hby at_287) rfl (tlt (by decide)).2.2.2 ?_; exact k) ?_
            refine goW (fun _ k => by refine XS.aload X95.here hx rfl (hb hby at_290) rfl rfl ?_; exact k) ?_
            refine goW (fun _ k => by refine XS.iconst X95.here hx rfl (hb hby at_292) ?_; exact k) ?_
            refine goW (fun _ k => by refine XS.aload X95.here hx rfl (hb hby at_293) rfl rfl ?_; exact k) ?_
            show OwnEndW _ _ _ _ _ _ _ (T95.setTop (mkF m 295 (fL23 p0 p1 p2 p3 x1 x2 b x3 x4 x6_s0 (6 : Int32) b85) [(.ref b), (.int (5 : Int32)), (.ref b85)]))
            refine goW (fun _ k => by refine XS.iconst X95.here hx rfl (hb hby at_295) ?_; exact k) ?_
            refine goW (fun _ k => by refine XS.iload X95.here hx rfl (hb hby at_296) rfl ?_; exact k) ?_
            refine goW (fun _ k => by refine XS.iload X95.here hx rfl (hb hby at_298) rfl ?_; exact k) ?_
            refine goW (fun _ k => by refine XS.iload X95.here hx rfl (hb hby at_300) rfl ?_; exact k) ?_
            show OwnEndW _ _ _ _ _ _ _ (T95.setTop (mkF m 302 (fL23 p0 p1 p2 p3 x1 x2 b x3 x4 x6_s0 (6 : Int32) b85) [(.int x6_s0), (.int x3), (.int x4), (.int (5 : Int32)), (.ref b), (.int (5 : Int32)), (.ref b85)]))
            obtain ⟨_, T96, L96, X96, hQ96, st96⟩ := callStat X95 hx hZ hown (hw _ (List.mem_of_getElem? (i := 23) rfl)) (hw _ (List.mem_of_getElem? (i := 24) rfl)) (hw _ (List.mem_of_getElem? (i := 25) rfl)) (hw _ (List.mem_of_getElem? (i := 26) rfl)) (by decide) (rm_pick l Z a0 hw [] b x4 x3 x6_s0 5 t kb bs cs fm h95 n0 (by decide) hc7 hbs lbs EB VB DB AB O SC0 c1 SF0 rf) (W := 2) (by decide) (by decide) e95 (g := (mkF m 302 (fL23 p0 p1 p2 p3 x1 x2 b x3 x4 x6_s0 (6 : Int32) b85) [(.int x6_s0), (.int x3), (.int x4), (.int (5 : Int32)), (.ref b), (.int (5 : Int32)), (.ref b85)])) rfl (by rw [hml]; rfl) (argsL := [(.ref b), (.int (5 : Int32)), (.int x4), (.int x3), (.int x6_s0)]) (rest := [(.int (5 : Int32)), (.ref b85)]) rfl (lenOf pd__Ljava_lang_String_IICZ_C rfl) rfl (by show 2 * 0 + _ ≤ _; exact Nat.le_of_eq rfl) (hb hby at_302) (by decide) (by decide)
            obtain ⟨c96, rfl, hr96, Nq96, eq96⟩ := hQ96
            have N96 := Fr.app N95 Nq96
            refine goW st96 ?_
            show OwnEndW _ _ _ _ _ _ _ (T96.setTop (mkF m 305 (fL23 p0 p1 p2 p3 x1 x2 b x3 x4 x6_s0 (6 : Int32) b85) [(.int c96), (.int (5 : Int32)), (.ref b85)]))
            obtain ⟨T97, h97, X97, e97, W97, V_b85', st97⟩ := stCv X96 hx hZ eq96 V_b85 (j := (5 : Int32)) (i := 5) (by decide) (by decide) (by decide) (Nat.le_of_ble_eq_true rfl) (g := (mkF m 305 (fL23 p0 p1 p2 p3 x1 x2 b x3 x4 x6_s0 (6 : Int32) b85) [(.int c96), (.int (5 : Int32)), (.ref b85)])) rfl rfl (hb hby at_305)
            have N97 := Fr.snoc X97 N96 g_b85
            rw [own_narc hr96] at V_b85'
            have HCn := HC.trans (CHr.wr W97 sf_b85 HC.1)
            have sf_b85n := Safe.wr W97 sf_b85 HC.1 sf_b85
            have HC := HCn
            have sf_b85 := sf_b85n
            have Z0 := Nat.le_trans Z0 (Keep.of_wr W97).1
            have O := O.wr W97 g_b85
            have hk := Nat.le_trans hk (Keep.of_wr W97).1
            have SC := SC.wr W97
            have SK0 := SK0.wr W97
            have SK1 := SK1.wr W97
            have SK2 := SK2.wr W97
            have EB := EB.wr W97
            have VB := VB.other W97 (Or.inl ne_b_b85)
            have DB := DB.other W97 (Or.inl ne_b_b85)
            have AB := AB.other W97 ne_t_b85
            have V_b85 : Arv Z h97 b85 k85 .char (6 : Int32) [(.int c86), (.int c88), (.int c90), (.int c92), (.int c94), (.int c96)] (.int (0 : Int32)) := V_b85'
            refine goW st97 ?_
            refine goW (fun _ k => by refine XS.iload X97.here hx rfl (hb hby at_306) rfl ?_; exact k) ?_
            refine goW (fun _ k => by refine XS.bipush X97.here hx rfl (hb hby at_308) ?_; exact k) ?_
            show OwnEndW _ _ _ _ _ _ _ (T97.setTop (mkF m 310 (fL23 p0 p1 p2 p3 x1 x2 b x3 x4 x6_s0 (6 : Int32) b85) [(.int (6 : Int32)), (.int (6 : Int32))]))
            refine goW (fun _ k => by refine XS.icmpYes X97.here hx rfl (pc0 := 310) (pc' := 331) rfl (hb hby at_310) rfl (flt (by decide)).2.2.2 (by decide) (by decide) ?_; exact k) ?_
            refine goW (fun _ k => by refine XS.iload X97.here hx rfl (hb hby at_331) rfl ?_; exact k) ?_
            refine goW (fun _ k => by refine XS.bipush X97.here hx rfl (hb hby at_333) ?_; exact k) ?_
            show OwnEndW _ _ _ _ _ _ _ (T97.setTop (mkF m 335 (fL23 p0 p1 p2 p3 x1 x2 b x3 x4 x6_s0 (6 : Int32) b85) [(.int (7 : Int32)), (.int (6 : Int32))]))
            refine goW (fun _ k => by refine XS.icmpYes X97.here hx rfl (pc0 := 335) (pc' := 356) rfl (hb hby at_335) rfl (flt (by decide)).2.2.2 (by decide) (by decide) ?_; exact k) ?_
            refine goW (fun _ k => by refine XS.iload X97.here hx rfl (hb hby at_356) rfl ?_; exact k) ?_
            refine goW (fun _ k => by refine XS.bipush X97.here hx rfl (hb hby at_358) ?_; exact k) ?_
            show OwnEndW _ _ _ _ _ _ _ (T97.setTop (mkF m 360 (fL23 p0 p1 p2 p3 x1 x2 b x3 x4 x6_s0 (6 : Int32) b85) [(.int (8 : Int32)), (.int (6 : Int32))]))
            refine goW (fun _ k => by refine XS.icmpYes X97.here hx rfl (pc0 := 360) (pc' := 381) rfl (hb hby at_360) rfl (flt (by decide)).2.2.2 (by decide) (by decide) ?_; exact k) ?_
            refine goW (fun _ k => by refine XS.iload X97.here hx rfl (hb hby at_381) rfl ?_; exact k) ?_
            refine goW (fun _ k => by refine XS.bipush X97.here hx rfl (hb hby at_383) ?_; exact k) ?_
            show OwnEndW _ _ _ _ _ _ _ (T97.setTop (mkF m 385 (fL23 p0 p1 p2 p3 x1 x2 b x3 x4 x6_s0 (6 : Int32) b85) [(.int (9 : Int32)), (.int (6 : Int32))]))
            refine goW (fun _ k => by refine XS.icmpYes X97.here hx rfl (pc0 := 385) (pc' := 406) rfl (hb hby at_385) rfl (flt (by decide)).2.2.2 (by decide) (by decide) ?_; exact k) ?_
            show OwnEndW _ _ _ _ _ _ _ (T97.setTop (mkF m 406 (fL23 p0 p1 p2 p3 x1 x2 b x3 x4 x6_s0 (6 : Int32) b85) []))
            obtain ⟨T98, h98, X98, e98, E98, A98, D98, -, st98⟩ := newO X97 hx hZ hown (hw _ (List.mem_of_getElem? (i := 49) rfl)) (hw _ (List.mem_of_getElem? (i := 2) rfl)) (hw _ (List.mem_of_getElem? (i := 1) rfl)) e97 (g := (mkF m 406 (fL23 p0 p1 p2 p3 x1 x2 b x3 x4 x6_s0 (6 : Int32) b85) [])) rfl (hb hby at_406) (by decide) (by decide)
            obtain ⟨b98, g98⟩ : ∃ z, z = h97.size := ⟨_, rfl⟩
            rw [← g98] at A98 D98 st98
            have ne_b_b98 : b ≠ b98 := fun q => absurd EB.lt (by rw [q, g98]; exact Nat.lt_irrefl _)
            have ne_t_b98 : t ≠ b98 := fun q => absurd AB.lt (by rw [q, g98]; exact Nat.lt_irrefl _)
            have ne_b85_b98 : b85 ≠ b98 := fun q => absurd V_b85.lt (by rw [q, g98]; exact Nat.lt_irrefl _)
            have sf_b98 : Safe Z own_EL vm1 h97 b98 := Safe.new (Nat.le_of_eq g98.symm)
            have g_b98 : n0 ≤ b98 := Nat.le_trans Z0 (Nat.le_of_eq g98.symm)
            have sf_b85 := Safe.ext E98 HC.1 sf_b85
            have sf_b98 := Safe.ext E98 HC.1 sf_b98
            have HC := HC.trans (CHr.ext E98 HC.1)
            have Z0 := Nat.le_trans Z0 E98.1
            have O := O.ext E98
            have hk := Nat.le_trans hk E98.1
            have SC := SC.ext E98
            have SK0 := SK0.ext E98
            have SK1 := SK1.ext E98
            have SK2 := SK2.ext E98
            have EB := EB.ext E98
            have VB := VB.ext E98
            have DB := DB.ext E98
            have AB := AB.ext E98
            have V_b85 := V_b85.ext E98
            have F_value_b98 : Fld Z h98 b98 "java/lang/String" "value" "[B" .null := D98 (Or.inr (hw _ (List.mem_of_getElem? (i := 4) rfl))) (ty := (.array .byte)) (by decide)
            have F_coder_b98 : Fld Z h98 b98 "java/lang/String" "coder" "B" (.int (0 : Int32)) := D98 (Or.inr (hw _ (List.mem_of_getElem? (i := 5) rfl))) (ty := .byte) (by decide)
            have E_b98 := A98
            refine goW st98 ?_
            refine goW (fun _ k => by refine XS.dup X98.here hx rfl (hb hby at_409) rfl rfl ?_; exact k) ?_
            refine goW (fun _ k => by refine XS.aload X98.here hx rfl (hb hby at_410) rfl rfl ?_; exact k) ?_
            show OwnEndW _ _ _ _ _ _ _ (T98.setTop (mkF m 412 (fL23 p0 p1 p2 p3 x1 x2 b x3 x4 x6_s0 (6 : Int32) b85) [(.ref b85), (.ref b98), (.ref b98)]))
            have hp99 : ∀ c ∈ ([c86, c88, c90, c92, c94, c96] : List Int32), ¬ c < 0 ∧ ¬ (255 : Int32) < c := by
              intro c hc
              simp only [List.mem_cons, List.not_mem_nil, or_false] at hc
              rcases hc with rfl | rfl | rfl | rfl | rfl | rfl
              · exact hr86
              · exact hr88
              · exact hr90
              · exact hr92
              · exact hr94
              · exact hr96
            obtain ⟨_, T99, L99, X99, hQ99, st99⟩ := callInitB X98 hx hZ hown rfl (hw _ (List.mem_of_getElem? (i := 50) rfl)) (hw _ (List.mem_of_getElem? (i := 51) rfl)) (hw _ (List.mem_of_getElem? (i := 52) rfl)) (by decide) (StrChars.Road.backV (W := 1) hZ (fun d hd => hw d ((by decide +kernel : ∀ d ∈ StrChars.Road.words, d ∈ tables_1) d hd)) (kI := 4) (hw _ (List.mem_of_getElem? (i := 2) rfl)) (cs := ([c86, c88, c90, c92, c94, c96] : List Int32)) (bs := (([c86, c88, c90, c92, c94, c96] : List Int32)).map (fun c => c.toInt8.toInt32)) (n := 6) g_b98 Z0 E_b98 F_value_b98 F_coder_b98 V_b85 SC c1 rfl rfl (by decide) (by decide) hp99 rfl (by decide) (by decide)) e98 (g := (mkF m 412 (fL23 p0 p1 p2 p3 x1 x2 b x3 x4 x6_s0 (6 : Int32) b85) [(.ref b85), (.ref b98), (.ref b98)])) rfl (by rw [hml]; rfl) (argsL := [(.ref b85)]) (rest := [(.ref b98)]) rfl (lenOf pd___C_V rfl) rfl (by show 2 * 0 + _ ≤ _; exact Nat.le_of_eq rfl) (hb hby at_412) (by decide) (by decide)
            obtain ⟨rfl, Nq99, K99, E_b98, F_coder_b98, t99, kb99, g_t99, sq99, nt99, F_value_b98, V_t99⟩ := hQ99
            have N99 := Fr.app N97 Nq99
            have HCn := HC.trans (CHr.keep K99 (sfS sf_b98 sf0) HC.1)
            have sf_b85n := Safe.keep K99 (sfS sf_b98 sf0) HC.1 sf_b85
            have sf_b98n := Safe.keep K99 (sfS sf_b98 sf0) HC.1 sf_b98
            have HC := HCn
            have sf_b85 := sf_b85n
            have sf_b98 := sf_b98n
            have Z0 := Nat.le_trans Z0 K99.1
            have O := O.keep K99 (allS g_b98 all0)
            have hk := Nat.le_trans hk K99.1
            have EB := EB.keep K99
            have VB := VB.keep K99 (ninS ne_b_b98 nin0)
            have DB := DB.keep K99 (ninS ne_b_b98 nin0)
            have AB := AB.keep K99 (ninS ne_t_b98 nin0)
            have V_b85 := V_b85.keep K99 (ninS ne_b85_b98 nin0)
            have SC := SC0.ext O.2
            have SK0 := M0.ext O.2
            have SK1 := M1.ext O.2
            have SK2 := M2.ext O.2
            refine goW st99 ?_
            refine goW (fun _ k => by refine XS.astore X99.here hx rfl (hb hby at_415) rfl rfl (l' := (fL22 p0 p1 p2 p3 x1 x2 b x3 x4 x6_s0 (6 : Int32) b98 b85)) rfl ?_; exact k) ?_
            exact J417 vm1 _ _ _ _ (6 : Int32) (.val (.ref b85)) b98 t99 kb99 ([c86, c88, c90, c92, c94, c96] : List Int32) (One.val rfl) (up X99 (by decide) (by decide)) N99 rfl hS hk hZ hown HC O Z0 hp99 (Nat.le_of_ble_eq_true rfl) E_b98 F_value_b98 F_coder_b98 V_t99
          · rw [h10]
            show OwnEndW _ _ _ _ _ _ _ (T20.setTop (mkF m 169 (fL19 p0 p1 p2 p3 x1 x2 b x3 x4 x6_s0 (7 : Int32)) []))
            refine goW (fun _ k => by refine XS.iload X20.here hx rfl (hb hby at_169) rfl ?_; exact k) ?_
            show OwnEndW _ _ _ _ _ _ _ (T20.setTop (mkF m 171 (fL19 p0 p1 p2 p3 x1 x2 b x3 x4 x6_s0 (7 : Int32)) [(.int (7 : Int32))]))
            obtain ⟨T100, h100, k100, X100, e100, E100, A100, st100⟩ := newP X20 hx hZ (hw _ (List.mem_of_getElem? (i := 22) rfl)) e20 (g := (mkF m 171 (fL19 p0 p1 p2 p3 x1 x2 b x3 x4 x6_s0 (7 : Int32)) [(.int (7 : Int32))])) rfl (hb hby at_171) rfl (by decide) (cap := 7) (by decide) (by decide) (by decide) (by decide)
            obtain ⟨b100, g100⟩ : ∃ z, z = h1.size := ⟨_, rfl⟩
            rw [← g100] at A100 st100
            have ne_b_b100 : b ≠ b100 := fun q => absurd EB.lt (by rw [q, g100]; exact Nat.lt_irrefl _)
            have ne_t_b100 : t ≠ b100 := fun q => absurd AB.lt (by rw [q, g100]; exact Nat.lt_irrefl _)
            have sf_b100 : Safe Z own_EL vm1 h1 b100 := Safe.new (Nat.le_of_eq g100.symm)
            have g_b100 : n0 ≤ b100 := Nat.le_trans Z0 (Nat.le_of_eq g100.symm)
            have sf_b100 := Safe.ext E100 HC.1 sf_b100
            have HC := HC.trans (CHr.ext E100 HC.1)
            have Z0 := Nat.le_trans Z0 E100.1
            have O := O.ext E100
            have hk := Nat.le_trans hk E100.1
            have SC := SC.ext E100
            have SK0 := SK0.ext E100
            have SK1 := SK1.ext E100
            have SK2 := SK2.ext E100
            have EB := EB.ext E100
            have VB := VB.ext E100
            have DB := DB.ext E100
            have AB := AB.ext E100
            have V_b100 : Arv Z h100 b100 k100 .char (7 : Int32) [(.int (0 : Int32)), (.int (0 : Int32)), (.int (0 : Int32)), (.int (0 : Int32)), (.int (0 : Int32)), (.int (0 : Int32)), (.int (0 : Int32))] (.int (0 : Int32)) := (Arv.new A100 (by decide)).pad (pad_rep [] (.int (0 : Int32)) 7)
            refine goW st100 ?_
            refine goW (fun _ k => by refine XS.astore X100.here hx rfl (hb hby at_173) rfl rfl (l' := (fL23 p0 p1 p2 p3 x1 x2 b x3 x4 x6_s0 (7 : Int32) b100)) rfl ?_; exact k) ?_
            refine goW (fun _ k => by refine XS.iload X100.here hx rfl (hb hby at_175) rfl ?_; exact k) ?_
            show OwnEndW _ _ _ _ _ _ _ (T100.setTop (mkF m 177 (fL23 p0 p1 p2 p3 x1 x2 b x3 x4 x6_s0 (7 : Int32) b100) [(.int (7 : Int32))]))
            refine goW (fun _ k => by refine XS.ifNo X100.here hx rfl (hb hby at_177) rfl ((if0 _ _).trans (tlt (by decide)).2.2.2) ?_; exact k) ?_
            refine goW (fun _ k => by refine XS.aload X100.here hx rfl (hb hby at_180) rfl rfl ?_; exact k) ?_
            refine goW (fun _ k => by refine XS.iconst X100.here hx rfl (hb hby at_182) ?_; exact k) ?_
            refine goW (fun _ k => by refine XS.aload X100.here hx rfl (hb hby at_183) rfl rfl ?_; exact k) ?_
            show OwnEndW _ _ _ _ _ _ _ (T100.setTop (mkF m 185 (fL23 p0 p1 p2 p3 x1 x2 b x3 x4 x6_s0 (7 : Int32) b100) [(.ref b), (.int (0 : Int32)), (.ref b100)]))
            refine goW (fun _ k => by refine XS.iconst X100.here hx rfl (hb hby at_185) ?_; exact k) ?_
            refine goW (fun _ k => by refine XS.iload X100.here hx rfl (hb hby at_186) rfl ?_; exact k) ?_
            refine goW (fun _ k => by refine XS.iload X100.here hx rfl (hb hby at_188) rfl ?_; exact k) ?_
            refine goW (fun _ k => by refine XS.iload X100.here hx rfl (hb hby at_190) rfl ?_; exact k) ?_
            show OwnEndW _ _ _ _ _ _ _ (T100.setTop (mkF m 192 (fL23 p0 p1 p2 p3 x1 x2 b x3 x4 x6_s0 (7 : Int32) b100) [(.int x6_s0), (.int x3), (.int x4), (.int (0 : Int32)), (.ref b), (.int (0 : Int32)), (.ref b100)]))
            obtain ⟨_, T101, L101, X101, hQ101, st101⟩ := callStat X100 hx hZ hown (hw _ (List.mem_of_getElem? (i := 23) rfl)) (hw _ (List.mem_of_getElem? (i := 24) rfl)) (hw _ (List.mem_of_getElem? (i := 25) rfl)) (hw _ (List.mem_of_getElem? (i := 26) rfl)) (by decide) (rm_pick l Z a0 hw [] b x4 x3 x6_s0 0 t kb bs cs fm h100 n0 (by decide) hc7 hbs lbs EB VB DB AB O SC0 c1 SF0 rf) (W := 2) (by decide) (by decide) e100 (g := (mkF m 192 (fL23 p0 p1 p2 p3 x1 x2 b x3 x4 x6_s0 (7 : Int32) b100) [(.int x6_s0), (.int x3), (.int x4), (.int (0 : Int32)), (.ref b), (.int (0 : Int32)), (.ref b100)])) rfl (by rw [hml]; rfl) (argsL := [(.ref b), (.int (0 : Int32)), (.int x4), (.int x3), (.int x6_s0)]) (rest := [(.int (0 : Int32)), (.ref b100)]) rfl (lenOf pd__Ljava_lang_String_IICZ_C rfl) rfl (by show 2 * 0 + _ ≤ _; exact Nat.le_of_eq rfl) (hb hby at_192) (by decide) (by decide)
            obtain ⟨c101, rfl, hr101, Nq101, eq101⟩ := hQ101
            have N101 := Fr.app N20 Nq101
            refine goW st101 ?_
            show OwnEndW _ _ _ _ _ _ _ (T101.setTop (mkF m 195 (fL23 p0 p1 p2 p3 x1 x2 b x3 x4 x6_s0 (7 : Int32) b100) [(.int c101), (.int (0 : Int32)), (.ref b100)]))
            obtain ⟨T102, h102, X102, e102, W102, V_b100', st102⟩ := stCv X101 hx hZ eq101 V_b100 (j := (0 : Int32)) (i := 0) (by decide) (by decide) (by decide) (Nat.le_of_ble_eq_true rfl) (g := (mkF m 195 (fL23 p0 p1 p2 p3 x1 x2 b x3 x4 x6_s0 (7 : Int32) b100) [(.int c101), (.int (0 : Int32)), (.ref b100)])) rfl rfl (hb hby at_195)
            have N102 := Fr.snoc X102 N101 g_b100
            rw [own_narc hr101] at V_b100'
            have HCn := HC.trans (CHr.wr W102 sf_b100 HC.1)
            have sf_b100n := Safe.wr W102 sf_b100 HC.1 sf_b100
            have HC := HCn
            have sf_b100 := sf_b100n
            have Z0 := Nat.le_trans Z0 (Keep.of_wr W102).1
            have O := O.wr W102 g_b100
            have hk := Nat.le_trans hk (Keep.of_wr W102).1
            have SC := SC.wr W102
            have SK0 := SK0.wr W102
            have SK1 := SK1.wr W102
            have SK2 := SK2.wr W102
            have EB := EB.wr W102
            have VB := VB.other W102 (Or.inl ne_b_b100)
            have DB := DB.other W102 (Or.inl ne_b_b100)
            have AB := AB.other W102 ne_t_b100
            have V_b100 : Arv Z h102 b100 k100 .char (7 : Int32) [(.int c101), (.int (0 : Int32)), (.int (0 : Int32)), (.int (0 : Int32)), (.int (0 : Int32)), (.int (0 : Int32)), (.int (0 : Int32))] (.int (0 : Int32)) := V_b100'
            refine goW st102 ?_
            refine goW (fun _ k => by refine XS.iload X102.here hx rfl (hb hby at_196) rfl ?_; exact k) ?_
            refine goW (fun _ k => by refine XS.iconst X102.here hx rfl (hb hby at_198) ?_; exact k) ?_
            show OwnEndW _ _ _ _ _ _ _ (T102.setTop (mkF m 199 (fL23 p0 p1 p2 p3 x1 x2 b x3 x4 x6_s0 (7 : Int32) b100) [(.int (1 : Int32)), (.int (7 : Int32))]))
            refine goW (fun _ k => by refine XS.icmpNo X102.here hx rfl (hb hby at_199) rfl (tlt (by decide)).2.2.2 ?_; exact k) ?_
            refine goW (fun _ k => by refine XS.aload X102.here hx rfl (hb hby at_202) rfl rfl ?_; exact k) ?_
            refine goW (fun _ k => by refine XS.iconst X102.here hx rfl (hb hby at_204) ?_; exact k) ?_
            refine goW (fun _ k => by refine XS.aload X102.here hx rfl (hb hby at_205) rfl rfl ?_; exact k) ?_
            show OwnEndW _ _ _ _ _ _ _ (T102.setTop (mkF m 207 (fL23 p0 p1 p2 p3 x1 x2 b x3 x4 x6_s0 (7 : Int32) b100) [(.ref b), (.int (1 : Int32)), (.ref b100)]))
            refine goW (fun _ k => by refine XS.iconst X102.here hx rfl (hb hby at_207) ?_; exact k) ?_
            refine goW (fun _ k => by refine XS.iload X102.here hx rfl (hb hby at_208) rfl ?_; exact k) ?_
            refine goW (fun _ k => by refine XS.iload X102.here hx rfl (hb hby at_210) rfl ?_; exact k) ?_
            refine goW (fun _ k => by refine XS.iload X102.here hx rfl (hb hby at_212) rfl ?_; exact k) ?_
            show OwnEndW _ _ _ _ _ _ _ (T102.setTop (mkF m 214 (fL23 p0 p1 p2 p3 x1 x2 b x3 x4 x6_s0 (7 : Int32) b100) [(.int x6_s0), (.int x3), (.int x4), (.int (1 : Int32)), (.ref b), (.int (1 : Int32)), (.ref b100)]))
            obtain ⟨_, T103, L103, X103, hQ103, st103⟩ := callStat X102 hx hZ hown (hw _ (List.mem_of_getElem? (i := 23) rfl)) (hw _ (List.mem_of_getElem? (i := 24) rfl)) (hw _ (List.mem_of_getElem? (i := 25) rfl)) (hw _ (List.mem_of_getElem? (i := 26) rfl)) (by decide) (rm_pick l Z a0 hw [] b x4 x3 x6_s0 1 t kb bs cs fm h102 n0 (by decide) hc7 hbs lbs EB VB DB AB O SC0 c1 SF0 rf) (W := 2) (by decide) (by decide) e102 (g := (mkF m 214 (fL23 p0 p1 p2 p3 x1 x2 b x3 x4 x6_s0 (7 : Int32) b100) [(.int x6_s0), (.int x3), (.int x4), (.int (1 : Int32)), (.ref b), (.int (1 : Int32)), (.ref b100)])) rfl (by rw [hml]; rfl) (argsL := [(.ref b), (.int (1 : Int32)), (.int x4), (.int x3), (.int x6_s0)]) (rest := [(.int (1 : Int32)), (.ref b100)]) rfl (lenOf pd__Ljava_lang_String_IICZ_C rfl) rfl (by show 2 * 0 + _ ≤ _; exact Nat.le_of_eq rfl) (hb hby at_214) (by decide) (by decide)
            obtain ⟨c103, rfl, hr103, Nq103, eq103⟩ := hQ103
            have N103 := Fr.app N102 Nq103
            refine goW st103 ?_
            show OwnEndW _ _ _ _ _ _ _ (T103.setTop (mkF m 217 (fL23 p0 p1 p2 p3 x1 x2 b x3 x4 x6_s0 (7 : Int32) b100) [(.int c103), (.int (1 : Int32)), (.ref b100)]))
            obtain ⟨T104, h104, X104, e104, W104, V_b100', st104⟩ := stCv X103 hx hZ eq103 V_b100 (j := (1 : Int32)) (i := 1) (by decide) (by decide) (by decide) (Nat.le_of_ble_eq_true rfl) (g := (mkF m 217 (fL23 p0 p1 p2 p3 x1 x2 b x3 x4 x6_s0 (7 : Int32) b100) [(.int c103), (.int (1 : Int32)), (.ref b100)])) rfl rfl (hb hby at_217)
            have N104 := Fr.snoc X104 N103 g_b100
            rw [own_narc hr103] at V_b100'
            have HCn := HC.trans (CHr.wr W104 sf_b100 HC.1)
            have sf_b100n := Safe.wr W104 sf_b100 HC.1 sf_b100
            have HC := HCn
            have sf_b100 := sf_b100n
            have Z0 := Nat.le_trans Z0 (Keep.of_wr W104).1
            have O := O.wr W104 g_b100
            have hk := Nat.le_trans hk (Keep.of_wr W104).1
            have SC := SC.wr W104
            have SK0 := SK0.wr W104
            have SK1 := SK1.wr W104
            have SK2 := SK2.wr W104
            have EB := EB.wr W104
            have VB := VB.other W104 (Or.inl ne_b_b100)
            have DB := DB.other W104 (Or.inl ne_b_b100)
            have AB := AB.other W104 ne_t_b100
            have V_b100 : Arv Z h104 b100 k100 .char (7 : Int32) [(.int c101), (.int c103), (.int (0 : Int32)), (.int (0 : Int32)), (.int (0 : Int32)), (.int (0 : Int32)), (.int (0 : Int32))] (.int (0 : Int32)) := V_b100'
            refine goW st104 ?_
            refine goW (fun _ k => by refine XS.iload X104.here hx rfl (hb hby at_218) rfl ?_; exact k) ?_
            refine goW (fun _ k => by refine XS.iconst X104.here hx rfl (hb hby at_220) ?_; exact k) ?_
            show OwnEndW _ _ _ _ _ _ _ (T104.setTop (mkF m 221 (fL23 p0 p1 p2 p3 x1 x2 b x3 x4 x6_s0 (7 : Int32) b100) [(.int (2 : Int32)), (.int (7 : Int32))]))
            refine goW (fun _ k => by refine XS.icmpNo X104.here hx rfl (hb hby at_221) rfl (tlt (by decide)).2.2.2 ?_; exact k) ?_
            refine goW (fun _ k => by refine XS.aload X104.here hx rfl (hb hby at_224) rfl rfl ?_; exact k) ?_
            refine goW (fun _ k => by refine XS.iconst X104.here hx rfl (hb hby at_226) ?_; exact k) ?_
            refine goW (fun _ k => by refine XS.aload X104.here hx rfl (hb hby at_227) rfl rfl ?_; exact k) ?_
            show OwnEndW _ _ _ _ _ _ _ (T104.setTop (mkF m 229 (fL23 p0 p1 p2 p3 x1 x2 b x3 x4 x6_s0 (7 : Int32) b100) [(.ref b), (.int (2 : Int32)), (.ref b100)]))
            refine goW (fun _ k => by refine XS.iconst X104.here hx rfl (hb hby at_229) ?_; exact k) ?_
            refine goW (fun _ k => by refine XS.iload X104.here hx rfl (hb hby at_230) rfl ?_; exact k) ?_
            refine goW (fun _ k => by refine XS.iload X104.here hx rfl (hb hby at_232) rfl ?_; exact k) ?_
            refine goW (fun _ k => by refine XS.iload X104.here hx rfl (hb hby at_234) rfl ?_; exact k) ?_
            show OwnEndW _ _ _ _ _ _ _ (T104.setTop (mkF m 236 (fL23 p0 p1 p2 p3 x1 x2 b x3 x4 x6_s0 (7 : Int32) b100) [(.int x6_s0), (.int x3), (.int x4), (.int (2 : Int32)), (.ref b), (.int (2 : Int32)), (.ref b100)]))
            obtain ⟨_, T105, L105, X105, hQ105, st105⟩ := callStat X104 hx hZ hown (hw _ (List.mem_of_getElem? (i := 23) rfl)) (hw _ (List.mem_of_getElem? (i := 24) rfl)) (hw _ (List.mem_of_getElem? (i := 25) rfl)) (hw _ (List.mem_of_getElem? (i := 26) rfl)) (by decide) (rm_pick l Z a0 hw [] b x4 x3 x6_s0 2 t kb bs cs fm h104 n0 (by decide) hc7 hbs lbs EB VB DB AB O SC0 c1 SF0 rf) (W := 2) (by decide) (by decide) e104 (g := (mkF m 236 (fL23 p0 p1 p2 p3 x1 x2 b x3 x4 x6_s0 (7 : Int32) b100) [(.int x6_s0), (.int x3), (.int x4), (.int (2 : Int32)), (.ref b), (.int (2 : Int32)), (.ref b100)])) rfl (by rw [hml]; rfl) (argsL := [(.ref b), (.int (2 : Int32)), (.int x4), (.int x3), (.int x6_s0)]) (rest := [(.int (2 : Int32)), (.ref b100)]) rfl (lenOf pd__Ljava_lang_String_IICZ_C rfl) rfl (by show 2 * 0 + _ ≤ _; exact Nat.le_of_eq rfl) (hb hby at_236) (by decide) (by decide)
            obtain ⟨c105, rfl, hr105, Nq105, eq105⟩ := hQ105
            have N105 := Fr.app N104 Nq105
            refine goW st105 ?_
            show OwnEndW _ _ _ _ _ _ _ (T105.setTop (mkF m 239 (fL23 p0 p1 p2 p3 x1 x2 b x3 x4 x6_s0 (7 : Int32) b100) [(.int c105), (.int (2 : Int32)), (.ref b100)]))
            obtain ⟨T106, h106, X106, e106, W106, V_b100', st106⟩ := stCv X105 hx hZ eq105 V_b100 (j := (2 : Int32)) (i := 2) (by decide) (by decide) (by decide) (Nat.le_of_ble_eq_true rfl) (g := (mkF m 239 (fL23 p0 p1 p2 p3 x1 x2 b x3 x4 x6_s0 (7 : Int32) b100) [(.int c105), (.int (2 : Int32)), (.ref b100)])) rfl rfl (hb hby at_239)
            have N106 := Fr.snoc X106 N105 g_b100
            rw [own_narc hr105] at V_b100'
            have HCn := HC.trans (CHr.wr W106 sf_b100 HC.1)
            have sf_b100n := Safe.wr W106 sf_b100 HC.1 sf_b100
            have HC := HCn
            have sf_b100 := sf_b100n
            have Z0 := Nat.le_trans Z0 (Keep.of_wr W106).1
            have O := O.wr W106 g_b100
            have hk := Nat.le_trans hk (Keep.of_wr W106).1
            have SC := SC.wr W106
            have SK0 := SK0.wr W106
            have SK1 := SK1.wr W106
            have SK2 := SK2.wr W106
            have EB := EB.wr W106
            have VB := VB.other W106 (Or.inl ne_b_b100)
            have DB := DB.other W106 (Or.inl ne_b_b100)
            have AB := AB.other W106 ne_t_b100
            have V_b100 : Arv Z h106 b100 k100 .char (7 : Int32) [(.int c101), (.int c103), (.int c105), (.int (0 : Int32)), (.int (0 : Int32)), (.int (0 : Int32)), (.int (0 : Int32))] (.int (0 : Int32)) := V_b100'
            refine goW st106 ?_
            refine goW (fun _ k => by refine XS.iload X106.here hx rfl (hb hby at_240) rfl ?_; exact k) ?_
            refine goW (fun _ k => by refine XS.iconst X106.here hx rfl (hb hby at_242) ?_; exact k) ?_
            show OwnEndW _ _ _ _ _ _ _ (T106.setTop (mkF m 243 (fL23 p0 p1 p2 p3 x1 x2 b x3 x4 x6_s0 (7 : Int32) b100) [(.int (3 : Int32)), (.int (7 : Int32))]))
            refine goW (fun _ k => by refine XS.icmpNo X106.here hx rfl (hb hby at_243) rfl (tlt (by decide)).2.2.2 ?_; exact k) ?_
            refine goW (fun _ k => by refine XS.aload X106.here hx rfl (hb hby at_246) rfl rfl ?_; exact k) ?_
            refine goW (fun _ k => by refine XS.iconst X106.here hx rfl (hb hby at_248) ?_; exact k) ?_
            refine goW (fun _ k => by refine XS.aload X106.here hx rfl (hb hby at_249) rfl rfl ?_; exact k) ?_
            show OwnEndW _ _ _ _ _ _ _ (T106.setTop (mkF m 251 (fL23 p0 p1 p2 p3 x1 x2 b x3 x4 x6_s0 (7 : Int32) b100) [(.ref b), (.int (3 : Int32)), (.ref b100)]))
            refine goW (fun _ k => by refine XS.iconst X106.here hx rfl (hb hby at_251) ?_; exact k) ?_
            refine goW (fun _ k => by refine XS.iload X106.here hx rfl (hb hby at_252) rfl ?_; exact k) ?_
            refine goW (fun _ k => by refine XS.iload X106.here hx rfl (hb hby at_254) rfl ?_; exact k) ?_
            refine goW (fun _ k => by refine XS.iload X106.here hx rfl (hb hby at_256) rfl ?_; exact k) ?_
            show OwnEndW _ _ _ _ _ _ _ (T106.setTop (mkF m 258 (fL23 p0 p1 p2 p3 x1 x2 b x3 x4 x6_s0 (7 : Int32) b100) [(.int x6_s0), (.int x3), (.int x4), (.int (3 : Int32)), (.ref b), (.int (3 : Int32)), (.ref b100)]))
            obtain ⟨_, T107, L107, X107, hQ107, st107⟩ := callStat X106 hx hZ hown (hw _ (List.mem_of_getElem? (i := 23) rfl)) (hw _ (List.mem_of_getElem? (i := 24) rfl)) (hw _ (List.mem_of_getElem? (i := 25) rfl)) (hw _ (List.mem_of_getElem? (i := 26) rfl)) (by decide) (rm_pick l Z a0 hw [] b x4 x3 x6_s0 3 t kb bs cs fm h106 n0 (by decide) hc7 hbs lbs EB VB DB AB O SC0 c1 SF0 rf) (W := 2) (by decide) (by decide) e106 (g := (mkF m 258 (fL23 p0 p1 p2 p3 x1 x2 b x3 x4 x6_s0 (7 : Int32) b100) [(.int x6_s0), (.int x3), (.int x4), (.int (3 : Int32)), (.ref b), (.int (3 : Int32)), (.ref b100)])) rfl (by rw [hml]; rfl) (argsL := [(.ref b), (.int (3 : Int32)), (.int x4), (.int x3), (.int x6_s0)]) (rest := [(.int (3 : Int32)), (.ref b100)]) rfl (lenOf pd__Ljava_lang_String_IICZ_C rfl) rfl (by show 2 * 0 + _ ≤ _; exact Nat.le_of_eq rfl) (hb hby at_258) (by decide) (by decide)
            obtain ⟨c107, rfl, hr107, Nq107, eq107⟩ := hQ107
            have N107 := Fr.app N106 Nq107
            refine goW st107 ?_
            show OwnEndW _ _ _ _ _ _ _ (T107.setTop (mkF m 261 (fL23 p0 p1 p2 p3 x1 x2 b x3 x4 x6_s0 (7 : Int32) b100) [(.int c107), (.int (3 : Int32)), (.ref b100)]))
            obtain ⟨T108, h108, X108, e108, W108, V_b100', st108⟩ := stCv X107 hx hZ eq107 V_b100 (j := (3 : Int32)) (i := 3) (by decide) (by decide) (by decide) (Nat.le_of_ble_eq_true rfl) (g := (mkF m 261 (fL23 p0 p1 p2 p3 x1 x2 b x3 x4 x6_s0 (7 : Int32) b100) [(.int c107), (.int (3 : Int32)), (.ref b100)])) rfl rfl (hb hby at_261)
            have N108 := Fr.snoc X108 N107 g_b100
            rw [own_narc hr107] at V_b100'
            have HCn := HC.trans (CHr.wr W108 sf_b100 HC.1)
            have sf_b100n := Safe.wr W108 sf_b100 HC.1 sf_b100
            have HC := HCn
            have sf_b100 := sf_b100n
            have Z0 := Nat.le_trans Z0 (Keep.of_wr W108).1
            have O := O.wr W108 g_b100
            have hk := Nat.le_trans hk (Keep.of_wr W108).1
            have SC := SC.wr W108
            have SK0 := SK0.wr W108
            have SK1 := SK1.wr W108
            have SK2 := SK2.wr W108
            have EB := EB.wr W108
            have VB := VB.other W108 (Or.inl ne_b_b100)
            have DB := DB.other W108 (Or.inl ne_b_b100)
            have AB := AB.other W108 ne_t_b100
            have V_b100 : Arv Z h108 b100 k100 .char (7 : Int32) [(.int c101), (.int c103), (.int c105), (.int c107), (.int (0 : Int32)), (.int (0 : Int32)), (.int (0 : Int32))] (.int (0 : Int32)) := V_b100'
            refine goW st108 ?_
            refine goW (fun _ k => by refine XS.iload X108.here hx rfl (hb hby at_262) rfl ?_; exact k) ?_
            refine goW (fun _ k => by refine XS.iconst X108.here hx rfl (hb hby at_264) ?_; exact k) ?_
            show OwnEndW _ _ _ _ _ _ _ (T108.setTop (mkF m 265 (fL23 p0 p1 p2 p3 x1 x2 b x3 x4 x6_s0 (7 : Int32) b100) [(.int (4 : Int32)), (.int (7 : Int32))]))
            refine goW (fun _ k => by refine XS.icmpNo X108.here hx rfl (hb hby at_265) rfl (tlt (by decide)).2.2.2 ?_; exact k) ?_
            refine goW (fun _ k => by refine XS.aload X108.here hx rfl (hb hby at_268) rfl rfl ?_; exact k) ?_
            refine goW (fun _ k => by refine XS.iconst X108.here hx rfl (hb hby at_270) ?_; exact k) ?_
            refine goW (fun _ k => by refine XS.aload X108.here hx rfl (hb hby at_271) rfl rfl ?_; exact k) ?_
            show OwnEndW _ _ _ _ _ _ _ (T108.setTop (mkF m 273 (fL23 p0 p1 p2 p3 x1 x2 b x3 x4 x6_s0 (7 : Int32) b100) [(.ref b), (.int (4 : Int32)), (.ref b100)]))
            refine goW (fun _ k => by refine XS.iconst X108.here hx rfl (hb hby at_273) ?_; exact k) ?_
            refine goW (fun _ k => by refine XS.iload X108.here hx rfl (hb hby at_274) rfl ?_; exact k) ?_
            refine goW (fun _ k => by refine XS.iload X108.here hx rfl (hb hby at_276) rfl ?_; exact k) ?_
            refine goW (fun _ k => by refine XS.iload X108.here hx rfl (hb hby at_278) rfl ?_; exact k) ?_
            show OwnEndW _ _ _ _ _ _ _ (T108.setTop (mkF m 280 (fL23 p0 p1 p2 p3 x1 x2 b x3 x4 x6_s0 (7 : Int32) b100) [(.int x6_s0), (.int x3), (.int x4), (.int (4 : Int32)), (.ref b), (.int (4 : Int32)), (.ref b100)]))
            obtain ⟨_, T109, L109, X109, hQ109, st109⟩ := callStat X108 hx hZ hown (hw _ (List.mem_of_getElem? (i := 23) rfl)) (hw _ (List.mem_of_getElem? (i := 24) rfl)) (hw _ (List.mem_of_getElem? (i := 25) rfl)) (hw _ (List.mem_of_getElem? (i := 26) rfl)) (by decide) (rm_pick l Z a0 hw [] b x4 x3 x6_s0 4 t kb bs cs fm h108 n0 (by decide) hc7 hbs lbs EB VB DB AB O SC0 c1 SF0 rf) (W := 2) (by decide) (by decide) e108 (g := (mkF m 280 (fL23 p0 p1 p2 p3 x1 x2 b x3 x4 x6_s0 (7 : Int32) b100) [(.int x6_s0), (.int x3), (.int x4), (.int (4 : Int32)), (.ref b), (.int (4 : Int32)), (.ref b100)])) rfl (by rw [hml]; rfl) (argsL := [(.ref b), (.int (4 : Int32)), (.int x4), (.int x3), (.int x6_s0)]) (rest := [(.int (4 : Int32)), (.ref b100)]) rfl (lenOf pd__Ljava_lang_String_IICZ_C rfl) rfl (by show 2 * 0 + _ ≤ _; exact Nat.le_of_eq rfl) (hb hby at_280) (by decide) (by decide)
            obtain ⟨c109, rfl, hr109, Nq109, eq109⟩ := hQ109
            have N109 := Fr.app N108 Nq109
            refine goW st109 ?_
            show OwnEndW _ _ _ _ _ _ _ (T109.setTop (mkF m 283 (fL23 p0 p1 p2 p3 x1 x2 b x3 x4 x6_s0 (7 : Int32) b100) [(.int c109), (.int (4 : Int32)), (.ref b100)]))
            obtain ⟨T110, h110, X110, e110, W110, V_b100', st110⟩ := stCv X109 hx hZ eq109 V_b100 (j := (4 : Int32)) (i := 4) (by decide) (by decide) (by decide) (Nat.le_of_ble_eq_true rfl) (g := (mkF m 283 (fL23 p0 p1 p2 p3 x1 x2 b x3 x4 x6_s0 (7 : Int32) b100) [(.int c109), (.int (4 : Int32)), (.ref b100)])) rfl rfl (hb hby at_283)
            have N110 := Fr.snoc X110 N109 g_b100
            rw [own_narc hr109] at V_b100'
            have HCn := HC.trans (CHr.wr W110 sf_b100 HC.1)
            have sf_b100n := Safe.wr W110 sf_b100 HC.1 sf_b100
            have HC := HCn
            have sf_b100 := sf_b100n
            have Z0 := Nat.le_trans Z0 (Keep.of_wr W110).1
            have O := O.wr W110 g_b100
            have hk := Nat.le_trans hk (Keep.of_wr W110).1
            have SC := SC.wr W110
            have SK0 := SK0.wr W110
            have SK1 := SK1.wr W110
            have SK2 := SK2.wr W110
            have EB := EB.wr W110
            have VB := VB.other W110 (Or.inl ne_b_b100)
            have DB := DB.other W110 (Or.inl ne_b_b100)
            have AB := AB.other W110 ne_t_b100
            have V_b100 : Arv Z h110 b100 k100 .char (7 : Int32) [(.int c101), (.int c103), (.int c105), (.int c107), (.int c109), (.int (0 : Int32)), (.int (0 : Int32))] (.int (0 : Int32)) := V_b100'
            refine goW st110 ?_
            refine goW (fun _ k => by refine XS.iload X110.here hx rfl (hb hby at_284) rfl ?_; exact k) ?_
            refine goW (fun _ k => by refine XS.iconst X110.here hx rfl (hb hby at_286) ?_; exact k) ?_
            show OwnEndW _ _ _ _ _ _ _ (T110.setTop (mkF m 287 (fL23 p0 p1 p2 p3 x1 x2 b x3 x4 x6_s0 (7 : Int32) b100) [(.int (5 : Int32)), (.int (7 : Int32))]))
            refine goW (fun _ k => by refine XS.icmpNo X110.here hx rfl (hb hby at_287) rfl (tlt (by decide)).2.2.2 ?_; exact k) ?_
            refine goW (fun _ k => by refine XS.aload X110.here hx rfl (hb hby at_290) rfl rfl ?_; exact k) ?_
            refine goW (fun _ k => by refine XS.iconst X110.here hx rfl (hb hby at_292) ?_; exact k) ?_
            refine goW (fun _ k => by refine XS.aload X110.here hx rfl (hb hby at_293) rfl rfl ?_; exact k) ?_
            show OwnEndW _ _ _ _ _ _ _ (T110.setTop (mkF m 295 (fL23 p0 p1 p2 p3 x1 x2 b x3 x4 x6_s0 (7 : Int32) b100) [(.ref b), (.int (5 : Int32)), (.ref b100)]))
            refine goW (fun _ k => by refine XS.iconst X110.here hx rfl (hb hby at_295) ?_; exact k) ?_
            refine goW (fun _ k => by refine XS.iload X110.here hx rfl (hb hby at_296) rfl ?_; exact k) ?_
            refine goW (fun _ k => by refine XS.iload X110.here hx rfl (hb hby at_298) rfl ?_; exact k) ?_
            refine goW (fun _ k => by refine XS.iload X110.here hx rfl (hb hby at_300) rfl ?_; exact k) ?_
            show OwnEndW _ _ _ _ _ _ _ (T110.setTop (mkF m 302 (fL23 p0 p1 p2 p3 x1 x2 b x3 x4 x6_s0 (7 : Int32) b100) [(.int x6_s0), (.int x3), (.int x4), (.int (5 : Int32)), (.ref b), (.int (5 : Int32)), (.ref b100)]))
            obtain ⟨_, T111, L111, X111, hQ111, st111⟩ := callStat X110 hx hZ hown (hw _ (List.mem_of_getElem? (i := 23) rfl)) (hw _ (List.mem_of_getElem? (i := 24) rfl)) (hw _ (List.mem_of_getElem? (i := 25) rfl)) (hw _ (List.mem_of_getElem? (i := 26) rfl)) (by decide) (rm_pick l Z a0 hw [] b x4 x3 x6_s0 5 t kb bs cs fm h110 n0 (by decide) hc7 hbs lbs EB VB DB AB O SC0 c1 SF0 rf) (W := 2) (by decide) (by decide) e110 (g := (mkF m 302 (fL23 p0 p1 p2 p3 x1 x2 b x3 x4 x6_s0 (7 : Int32) b100) [(.int x6_s0), (.int x3), (.int x4), (.int (5 : Int32)), (.ref b), (.int (5 : Int32)), (.ref b100)])) rfl (by rw [hml]; rfl) (argsL := [(.ref b), (.int (5 : Int32)), (.int x4), (.int x3), (.int x6_s0)]) (rest := [(.int (5 : Int32)), (.ref b100)]) rfl (lenOf pd__Ljava_lang_String_IICZ_C rfl) rfl (by show 2 * 0 + _ ≤ _; exact Nat.le_of_eq rfl) (hb hby at_302) (by decide) (by decide)
            obtain ⟨c111, rfl, hr111, Nq111, eq111⟩ := hQ111
            have N111 := Fr.app N110 Nq111
            refine goW st111 ?_
            show OwnEndW _ _ _ _ _ _ _ (T111.setTop (mkF m 305 (fL23 p0 p1 p2 p3 x1 x2 b x3 x4 x6_s0 (7 : Int32) b100) [(.int c111), (.int (5 : Int32)), (.ref b100)]))
            obtain ⟨T112, h112, X112, e112, W112, V_b100', st112⟩ := stCv X111 hx hZ eq111 V_b100 (j := (5 : Int32)) (i := 5) (by decide) (by decide) (by decide) (Nat.le_of_ble_eq_true rfl) (g := (mkF m 305 (fL23 p0 p1 p2 p3 x1 x2 b x3 x4 x6_s0 (7 : Int32) b100) [(.int c111), (.int (5 : Int32)), (.ref b100)])) rfl rfl (hb hby at_305)
            have N112 := Fr.snoc X112 N111 g_b100
            rw [own_narc hr111] at V_b100'
            have HCn := HC.trans (CHr.wr W112 sf_b100 HC.1)
            have sf_b100n := Safe.wr W112 sf_b100 HC.1 sf_b100
            have HC := HCn
            have sf_b100 := sf_b100n
            have Z0 := Nat.le_trans Z0 (Keep.of_wr W112).1
            have O := O.wr W112 g_b100
            have hk := Nat.le_trans hk (Keep.of_wr W112).1
            have SC := SC.wr W112
            have SK0 := SK0.wr W112
            have SK1 := SK1.wr W112
            have SK2 := SK2.wr W112
            have EB := EB.wr W112
            have VB := VB.other W112 (Or.inl ne_b_b100)
            have DB := DB.other W112 (Or.inl ne_b_b100)
            have AB := AB.other W112 ne_t_b100
            have V_b100 : Arv Z h112 b100 k100 .char (7 : Int32) [(.int c101), (.int c103), (.int c105), (.int c107), (.int c109), (.int c111), (.int (0 : Int32))] (.int (0 : Int32)) := V_b100'
            refine goW st112 ?_
            refine goW (fun _ k => by refine XS.iload X112.here hx rfl (hb hby at_306) rfl ?_; exact k) ?_
            refine goW (fun _ k => by refine XS.bipush X112.here hx rfl (hb hby at_308) ?_; exact k) ?_
            show OwnEndW _ _ _ _ _ _ _ (T112.setTop (mkF m 310 (fL23 p0 p1 p2 p3 x1 x2 b x3 x4 x6_s0 (7 : Int32) b100) [(.int (6 : Int32)), (.int (7 : Int32))]))
            refine goW (fun _ k => by refine XS.icmpNo X112.here hx rfl (hb hby at_310) rfl (tlt (by decide)).2.2.2 ?_; exact k) ?_
            refine goW (fun _ k => by refine XS.aload X112.here hx rfl (hb hby at_313) rfl rfl ?_; exact k) ?_
            refine goW (fun _ k => by refine XS.bipush X112.here hx rfl (hb hby at_315) ?_; exact k) ?_
            refine goW (fun _ k => by refine XS.aload X112.here hx rfl (hb hby at_317) rfl rfl ?_; exact k) ?_
            show OwnEndW _ _ _ _ _ _ _ (T112.setTop (mkF m 319 (fL23 p0 p1 p2 p3 x1 x2 b x3 x4 x6_s0 (7 : Int32) b100) [(.ref b), (.int (6 : Int32)), (.ref b100)]))
            refine goW (fun _ k => by refine XS.bipush X112.here hx rfl (hb hby at_319) ?_; exact k) ?_
            refine goW (fun _ k => by refine XS.iload X112.here hx rfl (hb hby at_321) rfl ?_; exact k) ?_
            refine goW (fun _ k => by refine XS.iload X112.here hx rfl (hb hby at_323) rfl ?_; exact k) ?_
            refine goW (fun _ k => by refine XS.iload X112.here hx rfl (hb hby at_325) rfl ?_; exact k) ?_
            show OwnEndW _ _ _ _ _ _ _ (T112.setTop (mkF m 327 (fL23 p0 p1 p2 p3 x1 x2 b x3 x4 x6_s0 (7 : Int32) b100) [(.int x6_s0), (.int x3), (.int x4), (.int (6 : Int32)), (.ref b), (.int (6 : Int32)), (.ref b100)]))
            obtain ⟨_, T113, L113, X113, hQ113, st113⟩ := callStat X112 hx hZ hown (hw _ (List.mem_of_getElem? (i := 23) rfl)) (hw _ (List.mem_of_getElem? (i := 24) rfl)) (hw _ (List.mem_of_getElem? (i := 25) rfl)) (hw _ (List.mem_of_getElem? (i := 26) rfl)) (by decide) (rm_pick l Z a0 hw [] b x4 x3 x6_s0 6 t kb bs cs fm h112 n0 (by decide) hc7 hbs lbs EB VB DB AB O SC0 c1 SF0 rf) (W := 2) (by decide) (by decide) e112 (g := (mkF m 327 (fL23 p0 p1 p2 p3 x1 x2 b x3 x4 x6_s0 (7 : Int32) b100) [(.int x6_s0), (.int x3), (.int x4), (.int (6 : Int32)), (.ref b), (.int (6 : Int32)), (.ref b100)])) rfl (by rw [hml]; rfl) (argsL := [(.ref b), (.int (6 : Int32)), (.int x4), (.int x3), (.int x6_s0)]) (rest := [(.int (6 : Int32)), (.ref b100)]) rfl (lenOf pd__Ljava_lang_String_IICZ_C rfl) rfl (by show 2 * 0 + _ ≤ _; exact Nat.le_of_eq rfl) (hb hby at_327) (by decide) (by decide)
            obtain ⟨c113, rfl, hr113, Nq113, eq113⟩ := hQ113
            have N113 := Fr.app N112 Nq113
            refine goW st113 ?_
            show OwnEndW _ _ _ _ _ _ _ (T113.setTop (mkF m 330 (fL23 p0 p1 p2 p3 x1 x2 b x3 x4 x6_s0 (7 : Int32) b100) [(.int c113), (.int (6 : Int32)), (.ref b100)]))
            obtain ⟨T114, h114, X114, e114, W114, V_b100', st114⟩ := stCv X113 hx hZ eq113 V_b100 (j := (6 : Int32)) (i := 6) (by decide) (by decide) (by decide) (Nat.le_of_ble_eq_true rfl) (g := (mkF m 330 (fL23 p0 p1 p2 p3 x1 x2 b x3 x4 x6_s0 (7 : Int32) b100) [(.int c113), (.int (6 : Int32)), (.ref b100)])) rfl rfl (hb hby at_330)
            have N114 := Fr.snoc X114 N113 g_b100
            rw [own_narc hr113] at V_b100'
            have HCn := HC.trans (CHr.wr W114 sf_b100 HC.1)
            have sf_b100n := Safe.wr W114 sf_b100 HC.1 sf_b100
            have HC := HCn
            have sf_b100 := sf_b100n
            have Z0 := Nat.le_trans Z0 (Keep.of_wr W114).1
            have O := O.wr W114 g_b100
            have hk := Nat.le_trans hk (Keep.of_wr W114).1
            have SC := SC.wr W114
            have SK0 := SK0.wr W114
            have SK1 := SK1.wr W114
            have SK2 := SK2.wr W114
            have EB := EB.wr W114
            have VB := VB.other W114 (Or.inl ne_b_b100)
            have DB := DB.other W114 (Or.inl ne_b_b100)
            have AB := AB.other W114 ne_t_b100
            have V_b100 : Arv Z h114 b100 k100 .char (7 : Int32) [(.int c101), (.int c103), (.int c105), (.int c107), (.int c109), (.int c111), (.int c113)] (.int (0 : Int32)) := V_b100'
            refine goW st114 ?_
            refine goW (fun _ k => by refine XS.iload X114.here hx rfl (hb hby at_331) rfl ?_; exact k) ?_
            refine goW (fun _ k => by refine XS.bipush X114.here hx rfl (hb hby at_333) ?_; exact k) ?_
            show OwnEndW _ _ _ _ _ _ _ (T114.setTop (mkF m 335 (fL23 p0 p1 p2 p3 x1 x2 b x3 x4 x6_s0 (7 : Int32) b100) [(.int (7 : Int32)), (.int (7 : Int32))]))
            refine goW (fun _ k => by refine XS.icmpYes X114.here hx rfl (pc0 := 335) (pc' := 356) rfl (hb hby at_335) rfl (flt (by decide)).2.2.2 (by decide) (by decide) ?_; exact k) ?_
            refine goW (fun _ k => by refine XS.iload X114.here hx rfl (hb hby at_356) rfl ?_; exact k) ?_
            refine goW (fun _ k => by refine XS.bipush X114.here hx rfl (hb hby at_358) ?_; exact k) ?_
            show OwnEndW _ _ _ _ _ _ _ (T114.setTop (mkF m 360 (fL23 p0 p1 p2 p3 x1 x2 b x3 x4 x6_s0 (7 : Int32) b100) [(.int (8 : Int32)), (.int (7 : Int32))]))
            refine goW (fun _ k => by refine XS.icmpYes X114.here hx rfl (pc0 := 360) (pc' := 381) rfl (hb hby at_360) rfl (flt (by decide)).2.2.2 (by decide) (by decide) ?_; exact k) ?_
            refine goW (fun _ k => by refine XS.iload X114.here hx rfl (hb hby at_381) rfl ?_; exact k) ?_
            refine goW (fun _ k => by refine XS.bipush X114.here hx rfl (hb hby at_383) ?_; exact k) ?_
            show OwnEndW _ _ _ _ _ _ _ (T114.setTop (mkF m 385 (fL23 p0 p1 p2 p3 x1 x2 b x3 x4 x6_s0 (7 : Int32) b100) [(.int (9 : Int32)), (.int (7 : Int32))]))
            refine goW (fun _ k => by refine XS.icmpYes X114.here hx rfl (pc0 := 385) (pc' := 406) rfl (hb hby at_385) rfl (flt (by decide)).2.2.2 (by decide) (by decide) ?_; exact k) ?_
            show OwnEndW _ _ _ _ _ _ _ (T114.setTop (mkF m 406 (fL23 p0 p1 p2 p3 x1 x2 b x3 x4 x6_s0 (7 : Int32) b100) []))
            obtain ⟨T115, h115, X115, e115, E115, A115, D115, -, st115⟩ := newO X114 hx hZ hown (hw _ (List.mem_of_getElem? (i := 49) rfl)) (hw _ (List.mem_of_getElem? (i := 2) rfl)) (hw _ (List.mem_of_getElem? (i := 1) rfl)) e114 (g := (mkF m 406 (fL23 p0 p1 p2 p3 x1 x2 b x3 x4 x6_s0 (7 : Int32) b100) [])) rfl (hb hby at_406) (by decide) (by decide)
            obtain ⟨b115, g115⟩ : ∃ z, z = h114.size := ⟨_, rfl⟩
            rw [← g115] at A115 D115 st115
            have ne_b_b115 : b ≠ b115 := fun q => absurd EB.lt (by rw [q, g115]; exact Nat.lt_irrefl _)
            have ne_t_b115 : t ≠ b115 := fun q => absurd AB.lt (by rw [q, g115]; exact Nat.lt_irrefl _)
            have ne_b100_b115 : b100 ≠ b115 := fun q => absurd V_b100.lt (by rw [q, g115]; exact Nat.lt_irrefl _)
            have sf_b115 : Safe Z own_EL vm1 h114 b115 := Safe.new (Nat.le_of_eq g115.symm)
            have g_b115 : n0 ≤ b115 := Nat.le_trans Z0 (Nat.le_of_eq g115.symm)
            have sf_b100 := Safe.ext E115 HC.1 sf_b100
            have sf_b115 := Safe.ext E115 HC.1 sf_b115
            have HC := HC.trans (CHr.ext E115 HC.1)
            have Z0 := Nat.le_trans Z0 E115.1
            have O := O.ext E115
            have hk := Nat.le_trans hk E115.1
            have SC := SC.ext E115
            have SK0 := SK0.ext E115
            have SK1 := SK1.ext E115
            have SK2 := SK2.ext E115
            have EB := EB.ext E115
            have VB := VB.ext E115
            have DB := DB.ext E115
            have AB := AB.ext E115
            have V_b100 := V_b100.ext E115
            have F_value_b115 : Fld Z h115 b115 "java/lang/String" "value" "[B" .null := D115 (Or.inr (hw _ (List.mem_of_getElem? (i := 4) rfl))) (ty := (.array .byte)) (by decide)
            have F_coder_b115 : Fld Z h115 b115 "java/lang/String" "coder" "B" (.int (0 : Int32)) := D115 (Or.inr (hw _ (List.mem_of_getElem? (i := 5) rfl))) (ty := .byte) (by decide)
            have E_b115 := A115
            refine goW st115 ?_
            refine goW (fun _ k => by refine XS.dup X115.here hx rfl (hb hby at_409) rfl rfl ?_; exact k) ?_
            refine goW (fun _ k => by refine XS.aload X115.here hx rfl (hb hby at_410) rfl rfl ?_; exact k) ?_
            show OwnEndW _ _ _ _ _ _ _ (T115.setTop (mkF m 412 (fL23 p0 p1 p2 p3 x1 x2 b x3 x4 x6_s0 (7 : Int32) b100) [(.ref b100), (.ref b115), (.ref b115)]))
            have hp116 : ∀ c ∈ ([c101, c103, c105, c107, c109, c111, c113] : List Int32), ¬ c < 0 ∧ ¬ (255 : Int32) < c := by
              intro c hc
              simp only [List.mem_cons, List.not_mem_nil, or_false] at hc
              rcases hc with rfl | rfl | rfl | rfl | rfl | rfl | rfl
              · exact hr101
              · exact hr103
              · exact hr105
              · exact hr107
              · exact hr109
              · exact hr111
              · exact hr113
            obtain ⟨_, T116, L116, X116, hQ116, st116⟩ := callInitB X115 hx hZ hown rfl (hw _ (List.mem_of_getElem? (i := 50) rfl)) (hw _ (List.mem_of_getElem? (i := 51) rfl)) (hw _ (List.mem_of_getElem? (i := 52) rfl)) (by decide) (StrChars.Road.backV (W := 1) hZ (fun d hd => hw d ((by decide +kernel : ∀ d ∈ StrChars.Road.words, d ∈ tables_1) d hd)) (kI := 4) (hw _ (List.mem_of_getElem? (i := 2) rfl)) (cs := ([c101, c103, c105, c107, c109, c111, c113] : List Int32)) (bs := (([c101, c103, c105, c107, c109, c111, c113] : List Int32)).map (fun c => c.toInt8.toInt32)) (n := 7) g_b115 Z0 E_b115 F_value_b115 F_coder_b115 V_b100 SC c1 rfl rfl (by decide) (by decide) hp116 rfl (by decide) (by decide)) e115 (g := (mkF m 412 (fL23 p0 p1 p2 p3 x1 x2 b x3 x4 x6_s0 (7 : Int32) b100) [(.ref b100), (.ref b115), (.ref b115)])) rfl (by rw [hml]; rfl) (argsL := [(.ref b100)]) (rest := [(.ref b115)]) rfl (lenOf pd___C_V rfl) rfl (by show 2 * 0 + _ ≤ _; exact Nat.le_of_eq rfl) (hb hby at_412) (by decide) (by decide)
            obtain ⟨rfl, Nq116, K116, E_b115, F_coder_b115, t116, kb116, g_t116, sq116, nt116, F_value_b115, V_t116⟩ := hQ116
            have N116 := Fr.app N114 Nq116
            have HCn := HC.trans (CHr.keep K116 (sfS sf_b115 sf0) HC.1)
            have sf_b100n := Safe.keep K116 (sfS sf_b115 sf0) HC.1 sf_b100
            have sf_b115n := Safe.keep K116 (sfS sf_b115 sf0) HC.1 sf_b115
            have HC := HCn
            have sf_b100 := sf_b100n
            have sf_b115 := sf_b115n
            have Z0 := Nat.le_trans Z0 K116.1
            have O := O.keep K116 (allS g_b115 all0)
            have hk := Nat.le_trans hk K116.1
            have EB := EB.keep K116
            have VB := VB.keep K116 (ninS ne_b_b115 nin0)
            have DB := DB.keep K116 (ninS ne_b_b115 nin0)
            have AB := AB.keep K116 (ninS ne_t_b115 nin0)
            have V_b100 := V_b100.keep K116 (ninS ne_b100_b115 nin0)
            have SC := SC0.ext O.2
            have SK0 := M0.ext O.2
            have SK1 := M1.ext O.2
            have SK2 := M2.ext O.2
            refine goW st116 ?_
            refine goW (fun _ k => by refine XS.astore X116.here hx rfl (hb hby at_415) rfl rfl (l' := (fL22 p0 p1 p2 p3 x1 x2 b x3 x4 x6_s0 (7 : Int32) b115 b100)) rfl ?_; exact k) ?_
            exact J417 vm1 _ _ _ _ (7 : Int32) (.val (.ref b100)) b115 t116 kb116 ([c101, c103, c105, c107, c109, c111, c113] : List Int32) (One.val rfl) (up X116 (by decide) (by decide)) N116 rfl hS hk hZ hown HC O Z0 hp116 (Nat.le_of_ble_eq_true rfl) E_b115 F_value_b115 F_coder_b115 V_t116
          · rw [h10]
            show OwnEndW _ _ _ _ _ _ _ (T20.setTop (mkF m 169 (fL19 p0 p1 p2 p3 x1 x2 b x3 x4 x6_s0 (8 : Int32)) []))
            refine goW (fun _ k => by refine XS.iload X20.here hx rfl (hb hby at_169) rfl ?_; exact k) ?_
            show OwnEndW _ _ _ _ _ _ _ (T20.setTop (mkF m 171 (fL19 p0 p1 p2 p3 x1 x2 b x3 x4 x6_s0 (8 : Int32)) [(.int (8 : Int32))]))
            obtain ⟨T117, h117, k117, X117, e117, E117, A117, st117⟩ := newP X20 hx hZ (hw _ (List.mem_of_getElem? (i := 22) rfl)) e20 (g := (mkF m 171 (fL19 p0 p1 p2 p3 x1 x2 b x3 x4 x6_s0 (8 : Int32)) [(.int (8 : Int32))])) rfl (hb hby at_171) rfl (by decide) (cap := 8) (by decide) (by decide) (by decide) (by decide)
            obtain ⟨b117, g117⟩ : ∃ z, z = h1.size := ⟨_, rfl⟩
            rw [← g117] at A117 st117
            have ne_b_b117 : b ≠ b117 := fun q => absurd EB.lt (by rw [q, g117]; exact Nat.lt_irrefl _)
            have ne_t_b117 : t ≠ b117 := fun q => absurd AB.lt (by rw [q, g117]; exact Nat.lt_irrefl _)
            have sf_b117 : Safe Z own_EL vm1 h1 b117 := Safe.new (Nat.le_of_eq g117.symm)
            have g_b117 : n0 ≤ b117 := Nat.le_trans Z0 (Nat.le_of_eq g117.symm)
            have sf_b117 := Safe.ext E117 HC.1 sf_b117
            have HC := HC.trans (CHr.ext E117 HC.1)
            have Z0 := Nat.le_trans Z0 E117.1
            have O := O.ext E117
            have hk := Nat.le_trans hk E117.1
            have SC := SC.ext E117
            have SK0 := SK0.ext E117
            have SK1 := SK1.ext E117
            have SK2 := SK2.ext E117
            have EB := EB.ext E117
            have VB := VB.ext E117
            have DB := DB.ext E117
            have AB := AB.ext E117
            have V_b117 : Arv Z h117 b117 k117 .char (8 : Int32) [(.int (0 : Int32)), (.int (0 : Int32)), (.int (0 : Int32)), (.int (0 : Int32)), (.int (0 : Int32)), (.int (0 : Int32)), (.int (0 : Int32)), (.int (0 : Int32))] (.int (0 : Int32)) := (Arv.new A117 (by decide)).pad (pad_rep [] (.int (0 : Int32)) 8)
            refine goW st117 ?_
            refine goW (fun _ k => by refine XS.astore X117.here hx rfl (hb hby at_173) rfl rfl (l' := (fL23 p0 p1 p2 p3 x1 x2 b x3 x4 x6_s0 (8 : Int32) b117)) rfl ?_; exact k) ?_
            refine goW (fun _ k => by refine XS.iload X117.here hx rfl (hb hby at_175) rfl ?_; exact k) ?_
            show OwnEndW _ _ _ _ _ _ _ (T117.setTop (mkF m 177 (fL23 p0 p1 p2 p3 x1 x2 b x3 x4 x6_s0 (8 : Int32) b117) [(.int (8 : Int32))]))
            refine goW (fun _ k => by refine XS.ifNo X117.here hx rfl (hb hby at_177) rfl ((if0 _ _).trans (tlt (by decide)).2.2.2) ?_; exact k) ?_
            refine goW (fun _ k => by refine XS.aload X117.here hx rfl (hb hby at_180) rfl rfl ?_; exact k) ?_
            refine goW (fun _ k => by refine XS.iconst X117.here hx rfl (hb hby at_182) ?_; exact k) ?_
            refine goW (fun _ k => by refine XS.aload X117.here hx rfl (hb hby at_183) rfl rfl ?_; exact k) ?_
            show OwnEndW _ _ _ _ _ _ _ (T117.setTop (mkF m 185 (fL23 p0 p1 p2 p3 x1 x2 b x3 x4 x6_s0 (8 : Int32) b117) [(.ref b), (.int (0 : Int32)), (.ref b117)]))
            refine goW (fun _ k => by refine XS.iconst X117.here hx rfl (hb hby at_185) ?_; exact k) ?_
            refine goW (fun _ k => by refine XS.iload X117.here hx rfl (hb hby at_186) rfl ?_; exact k) ?_
            refine goW (fun _ k => by refine XS.iload X117.here hx rfl (hb hby at_188) rfl ?_; exact k) ?_
            refine goW (fun _ k => by refine XS.iload X117.here hx rfl (hb hby at_190) rfl ?_; exact k) ?_
            show OwnEndW _ _ _ _ _ _ _ (T117.setTop (mkF m 192 (fL23 p0 p1 p2 p3 x1 x2 b x3 x4 x6_s0 (8 : Int32) b117) [(.int x6_s0), (.int x3), (.int x4), (.int (0 : Int32)), (.ref b), (.int (0 : Int32)), (.ref b117)]))
            obtain ⟨_, T118, L118, X118, hQ118, st118⟩ := callStat X117 hx hZ hown (hw _ (List.mem_of_getElem? (i := 23) rfl)) (hw _ (List.mem_of_getElem? (i := 24) rfl)) (hw _ (List.mem_of_getElem? (i := 25) rfl)) (hw _ (List.mem_of_getElem? (i := 26) rfl)) (by decide) (rm_pick l Z a0 hw [] b x4 x3 x6_s0 0 t kb bs cs fm h117 n0 (by decide) hc7 hbs lbs EB VB DB AB O SC0 c1 SF0 rf) (W := 2) (by decide) (by decide) e117 (g := (mkF m 192 (fL23 p0 p1 p2 p3 x1 x2 b x3 x4 x6_s0 (8 : Int32) b117) [(.int x6_s0), (.int x3), (.int x4), (.int (0 : Int32)), (.ref b), (.int (0 : Int32)), (.ref b117)])) rfl (by rw [hml]; rfl) (argsL := [(.ref b), (.int (0 : Int32)), (.int x4), (.int x3), (.int x6_s0)]) (rest := [(.int (0 : Int32)), (.ref b117)]) rfl (lenOf pd__Ljava_lang_String_IICZ_C rfl) rfl (by show 2 * 0 + _ ≤ _; exact Nat.le_of_eq rfl) (hb hby at_192) (by decide) (by decide)
            obtain ⟨c118, rfl, hr118, Nq118, eq118⟩ := hQ118
            have N118 := Fr.app N20 Nq118
            refine goW st118 ?_
            show OwnEndW _ _ _ _ _ _ _ (T118.setTop (mkF m 195 (fL23 p0 p1 p2 p3 x1 x2 b x3 x4 x6_s0 (8 : Int32) b117) [(.int c118), (.int (0 : Int32)), (.ref b117)]))
            obtain ⟨T119, h119, X119, e119, W119, V_b117', st119⟩ := stCv X118 hx hZ eq118 V_b117 (j := (0 : Int32)) (i := 0) (by decide) (by decide) (by decide) (Nat.le_of_ble_eq_true rfl) (g := (mkF m 195 (fL23 p0 p1 p2 p3 x1 x2 b x3 x4 x6_s0 (8 : Int32) b117) [(.int c118), (.int (0 : Int32)), (.ref b117)])) rfl rfl (hb hby at_195)
            have N119 := Fr.snoc X119 N118 g_b117
            rw [own_narc hr118] at V_b117'
            have HCn := HC.trans (CHr.wr W119 sf_b117 HC.1)
            have sf_b117n := Safe.wr W119 sf_b117 HC.1 sf_b117
            have HC := HCn
            have sf_b117 := sf_b117n
            have Z0 := Nat.le_trans Z0 (Keep.of_wr W119).1
            have O := O.wr W119 g_b117
            have hk := Nat.le_trans hk (Keep.of_wr W119).1
            have SC := SC.wr W119
            have SK0 := SK0.wr W119
            have SK1 := SK1.wr W119
            have SK2 := SK2.wr W119
            have EB := EB.wr W119
            have VB := VB.other W119 (Or.inl ne_b_b117)
            have DB := DB.other W119 (Or.inl ne_b_b117)
            have AB := AB.other W119 ne_t_b117
            have V_b117 : Arv Z h119 b117 k117 .char (8 : Int32) [(.int c118), (.int (0 : Int32)), (.int (0 : Int32)), (.int (0 : Int32)), (.int (0 : Int32)), (.int (0 : Int32)), (.int (0 : Int32)), (.int (0 : Int32))] (.int (0 : Int32)) := V_b117'
            refine goW st119 ?_
            refine goW (fun _ k => by refine XS.iload X119.here hx rfl (hb hby at_196) rfl ?_; exact k) ?_
            refine goW (fun _ k => by refine XS.iconst X119.here hx rfl (hb hby at_198) ?_; exact k) ?_
            show OwnEndW _ _ _ _ _ _ _ (T119.setTop (mkF m 199 (fL23 p0 p1 p2 p3 x1 x2 b x3 x4 x6_s0 (8 : Int32) b117) [(.int (1 : Int32)), (.int (8 : Int32))]))
            refine goW (fun _ k => by refine XS.icmpNo X119.here hx rfl (hb hby at_199) rfl (tlt (by decide)).2.2.2 ?_; exact k) ?_
            refine goW (fun _ k => by refine XS.aload X119.here hx rfl (hb hby at_202) rfl rfl ?_; exact k) ?_
            refine goW (fun _ k => by refine XS.iconst X119.here hx rfl (hb hby at_204) ?_; exact k) ?_
            refine goW (fun _ k => by refine XS.aload X119.here hx rfl (hb hby at_205) rfl rfl ?_; exact k) ?_
            show OwnEndW _ _ _ _ _ _ _ (T119.setTop (mkF m 207 (fL23 p0 p1 p2 p3 x1 x2 b x3 x4 x6_s0 (8 : Int32) b117) [(.ref b), (.int (1 : Int32)), (.ref b117)]))
            refine goW (fun _ k => by refine XS.iconst X119.here hx rfl (hb hby at_207) ?_; exact k) ?_
            refine goW (fun _ k => by refine XS.iload X119.here hx rfl (hb hby at_208) rfl ?_; exact k) ?_
            refine goW (fun _ k => by refine XS.iload X119.here hx rfl (hb hby at_210) rfl ?_; exact k) ?_
            refine goW (fun _ k => by refine XS.iload X119.here hx rfl (hb hby at_212) rfl ?_; exact k) ?_
            show OwnEndW _ _ _ _ _ _ _ (T119.setTop (mkF m 214 (fL23 p0 p1 p2 p3 x1 x2 b x3 x4 x6_s0 (8 : Int32) b117) [(.int x6_s0), (.int x3), (.int x4), (.int (1 : Int32)), (.ref b), (.int (1 : Int32)), (.ref b117)]))
            obtain ⟨_, T120, L120, X120, hQ120, st120⟩ := callStat X119 hx hZ hown (hw _ (List.mem_of_getElem? (i := 23) rfl)) (hw _ (List.mem_of_getElem? (i := 24) rfl)) (hw _ (List.mem_of_getElem? (i := 25) rfl)) (hw _ (List.mem_of_getElem? (i := 26) rfl)) (by decide) (rm_pick l Z a0 hw [] b x4 x3 x6_s0 1 t kb bs cs fm h119 n0 (by decide) hc7 hbs lbs EB VB DB AB O SC0 c1 SF0 rf) (W := 2) (by decide) (by decide) e119 (g := (mkF m 214 (fL23 p0 p1 p2 p3 x1 x2 b x3 x4 x6_s0 (8 : Int32) b117) [(.int x6_s0), (.int x3), (.int x4), (.int (1 : Int32)), (.ref b), (.int (1 : Int32)), (.ref b117)])) rfl (by rw [hml]; rfl) (argsL := [(.ref b), (.int (1 : Int32)), (.int x4), (.int x3), (.int x6_s0)]) (rest := [(.int (1 : Int32)), (.ref b117)]) rfl (lenOf pd__Ljava_lang_String_IICZ_C rfl) rfl (by show 2 * 0 + _ ≤ _; exact Nat.le_of_eq rfl) (hb hby at_214) (by decide) (by decide)
            obtain ⟨c120, rfl, hr120, Nq120, eq120⟩ := hQ120
            have N120 := Fr.app N119 Nq120
            refine goW st120 ?_
            show OwnEndW _ _ _ _ _ _ _ (T120.setTop (mkF m 217 (fL23 p0 p1 p2 p3 x1 x2 b x3 x4 x6_s0 (8 : Int32) b117) [(.int c120), (.int (1 : Int32)), (.ref b117)]))
            obtain ⟨T121, h121, X121, e121, W121, V_b117', st121⟩ := stCv X120 hx hZ eq120 V_b117 (j := (1 : Int32)) (i := 1) (by decide) (by decide) (by decide) (Nat.le_of_ble_eq_true rfl) (g := (mkF m 217 (fL23 p0 p1 p2 p3 x1 x2 b x3 x4 x6_s0 (8 : Int32) b117) [(.int c120), (.int (1 : Int32)), (.ref b117)])) rfl rfl (hb hby at_217)
            have N121 := Fr.snoc X121 N120 g_b117
            rw [own_narc hr120] at V_b117'
            have HCn := HC.trans (CHr.wr W121 sf_b117 HC.1)
            have sf_b117n := Safe.wr W121 sf_b117 HC.1 sf_b117
            have HC := HCn
            have sf_b117 := sf_b117n
            have Z0 := Nat.le_trans Z0 (Keep.of_wr W121).1
            have O := O.wr W121 g_b117
            have hk := Nat.le_trans hk (Keep.of_wr W121).1
            have SC := SC.wr W121
            have SK0 := SK0.wr W121
            have SK1 := SK1.wr W121
            have SK2 := SK2.wr W121
            have EB := EB.wr W121
            have VB := VB.other W121 (Or.inl ne_b_b117)
            have DB := DB.other W121 (Or.inl ne_b_b117)
            have AB := AB.other W121 ne_t_b117
            have V_b117 : Arv Z h121 b117 k117 .char (8 : Int32) [(.int c118), (.int c120), (.int (0 : Int32)), (.int (0 : Int32)), (.int (0 : Int32)), (.int (0 : Int32)), (.int (0 : Int32)), (.int (0 : Int32))] (.int (0 : Int32)) := V_b117'
            refine goW st121 ?_
            refine goW (fun _ k => by refine XS.iload X121.here hx rfl (hb hby at_218) rfl ?_; exact k) ?_
            refine goW (fun _ k => by refine XS.iconst X121.here hx rfl (hb hby at_220) ?_; exact k) ?_
            show OwnEndW _ _ _ _ _ _ _ (T121.setTop (mkF m 221 (fL23 p0 p1 p2 p3 x1 x2 b x3 x4 x6_s0 (8 : Int32) b117) [(.int (2 : Int32)), (.int (8 : Int32))]))
            refine goW (fun _ k => by refine XS.icmpNo X121.here hx rfl (hb hby at_221) rfl (tlt (by decide)).2.2.2 ?_; exact k) ?_
            refine goW (fun _ k => by refine XS.aload X121.here hx rfl (hb hby at_224) rfl rfl ?_; exact k) ?_
            refine goW (fun _ k => by refine XS.iconst X121.here hx rfl (hb hby at_226) ?_; exact k) ?_
            refine goW (fun _ k => by refine XS.aload X121.here hx rfl (hb hby at_227) rfl rfl ?_; exact k) ?_
            show OwnEndW _ _ _ _ _ _ _ (T121.setTop (mkF m 229 (fL23 p0 p1 p2 p3 x1 x2 b x3 x4 x6_s0 (8 : Int32) b117) [(.ref b), (.int (2 : Int32)), (.ref b117)]))
            refine goW (fun _ k => by refine XS.iconst X121.here hx rfl (hb hby at_229) ?_; exact k) ?_
            refine goW (fun _ k => by refine XS.iload X121.here hx rfl (hb hby at_230) rfl ?_; exact k) ?_
            refine goW (fun _ k => by refine XS.iload X121.here hx rfl (hb hby at_232) rfl ?_; exact k) ?_
            refine goW (fun _ k => by refine XS.iload X121.here hx rfl (hb hby at_234) rfl ?_; exact k) ?_
            show OwnEndW _ _ _ _ _ _ _ (T121.setTop (mkF m 236 (fL23 p0 p1 p2 p3 x1 x2 b x3 x4 x6_s0 (8 : Int32) b117) [(.int x6_s0), (.int x3), (.int x4), (.int (2 : Int32)), (.ref b), (.int (2 : Int32)), (.ref b117)]))
            obtain ⟨_, T122, L122, X122, hQ122, st122⟩ := callStat X121 hx hZ hown (hw _ (List.mem_of_getElem? (i := 23) rfl)) (hw _ (List.mem_of_getElem? (i := 24) rfl)) (hw _ (List.mem_of_getElem? (i := 25) rfl)) (hw _ (List.mem_of_getElem? (i := 26) rfl)) (by decide) (rm_pick l Z a0 hw [] b x4 x3 x6_s0 2 t kb bs cs fm h121 n0 (by decide) hc7 hbs lbs EB VB DB AB O SC0 c1 SF0 rf) (W := 2) (by decide) (by decide) e121 (g := (mkF m 236 (fL23 p0 p1 p2 p3 x1 x2 b x3 x4 x6_s0 (8 : Int32) b117) [(.int x6_s0), (.int x3), (.int x4), (.int (2 : Int32)), (.ref b), (.int (2 : Int32)), (.ref b117)])) rfl (by rw [hml]; rfl) (argsL := [(.ref b), (.int (2 : Int32)), (.int x4), (.int x3), (.int x6_s0)]) (rest := [(.int (2 : Int32)), (.ref b117)]) rfl (lenOf pd__Ljava_lang_String_IICZ_C rfl) rfl (by show 2 * 0 + _ ≤ _; exact Nat.le_of_eq rfl) (hb hby at_236) (by decide) (by decide)
            obtain ⟨c122, rfl, hr122, Nq122, eq122⟩ := hQ122
            have N122 := Fr.app N121 Nq122
            refine goW st122 ?_
            show OwnEndW _ _ _ _ _ _ _ (T122.setTop (mkF m 239 (fL23 p0 p1 p2 p3 x1 x2 b x3 x4 x6_s0 (8 : Int32) b117) [(.int c122), (.int (2 : Int32)), (.ref b117)]))
            obtain ⟨T123, h123, X123, e123, W123, V_b117', st123⟩ := stCv X122 hx hZ eq122 V_b117 (j := (2 : Int32)) (i := 2) (by decide) (by decide) (by decide) (Nat.le_of_ble_eq_true rfl) (g := (mkF m 239 (fL23 p0 p1 p2 p3 x1 x2 b x3 x4 x6_s0 (8 : Int32) b117) [(.int c122), (.int (2 : Int32)), (.ref b117)])) rfl rfl (hb hby at_239)
            have N123 := Fr.snoc X123 N122 g_b117
            rw [own_narc hr122] at V_b117'
            have HCn := HC.trans (CHr.wr W123 sf_b117 HC.1)
            have sf_b117n := Safe.wr W123 sf_b117 HC.1 sf_b117
            have HC := HCn
            have sf_b117 := sf_b117n
            have Z0 := Nat.le_trans Z0 (Keep.of_wr W123).1
            have O := O.wr W123 g_b117
            have hk := Nat.le_trans hk (Keep.of_wr W123).1
            have SC := SC.wr W123
            have SK0 := SK0.wr W123
            have SK1 := SK1.wr W123
            have SK2 := SK2.wr W123
            have EB := EB.wr W123
            have VB := VB.other W123 (Or.inl ne_b_b117)
            have DB := DB.other W123 (Or.inl ne_b_b117)
            have AB := AB.other W123 ne_t_b117
            have V_b117 : Arv Z h123 b117 k117 .char (8 : Int32) [(.int c118), (.int c120), (.int c122), (.int (0 : Int32)), (.int (0 : Int32)), (.int (0 : Int32)), (.int (0 : Int32)), (.int (0 : Int32))] (.int (0 : Int32)) := V_b117'
            refine goW st123 ?_
            refine goW (fun _ k => by refine XS.iload X123.here hx rfl (hb hby at_240) rfl ?_; exact k) ?_
            refine goW (fun _ k => by refine XS.iconst X123.here hx rfl (hb hby at_242) ?_; exact k) ?_
            show OwnEndW _ _ _ _ _ _ _ (T123.setTop (mkF m 243 (fL23 p0 p1 p2 p3 x1 x2 b x3 x4 x6_s0 (8 : Int32) b117) [(.int (3 : Int32)), (.int (8 : Int32))]))
            refine goW (fun _ k => by refine XS.icmpNo X123.here hx rfl (hb hby at_243) rfl (tlt (by decide)).2.2.2 ?_; exact k) ?_
            refine goW (fun _ k => by refine XS.aload X123.here hx rfl (hb hby at_246) rfl rfl ?_; exact k) ?_
            refine goW (fun _ k => by refine XS.iconst X123.here hx rfl (hb hby at_248) ?_; exact k) ?_
            refine goW (fun _ k => by refine XS.aload X123.here hx rfl (hb hby at_249) rfl rfl ?_; exact k) ?_
            show OwnEndW _ _ _ _ _ _ _ (T123.setTop (mkF m 251 (fL23 p0 p1 p2 p3 x1 x2 b x3 x4 x6_s0 (8 : Int32) b117) [(.ref b), (.int (3 : Int32)), (.ref b117)]))
            refine goW (fun _ k => by refine XS.iconst X123.here hx rfl (hb hby at_251) ?_; exact k) ?_
            refine goW (fun _ k => by refine XS.iload X123.here hx rfl (hb hby at_252) rfl ?_; exact k) ?_
            refine goW (fun _ k => by refine XS.iload X123.here hx rfl (hb hby at_254) rfl ?_; exact k) ?_
            refine goW (fun _ k => by refine XS.iload X123.here hx rfl (hb hby at_256) rfl ?_; exact k) ?_
            show OwnEndW _ _ _ _ _ _ _ (T123.setTop (mkF m 258 (fL23 p0 p1 p2 p3 x1 x2 b x3 x4 x6_s0 (8 : Int32) b117) [(.int x6_s0), (.int x3), (.int x4), (.int (3 : Int32)), (.ref b), (.int (3 : Int32)), (.ref b117)]))
            obtain ⟨_, T124, L124, X124, hQ124, st124⟩ := callStat X123 hx hZ hown (hw _ (List.mem_of_getElem? (i := 23) rfl)) (hw _ (List.mem_of_getElem? (i := 24) rfl)) (hw _ (List.mem_of_getElem? (i := 25) rfl)) (hw _ (List.mem_of_getElem? (i := 26) rfl)) (by decide) (rm_pick l Z a0 hw [] b x4 x3 x6_s0 3 t kb bs cs fm h123 n0 (by decide) hc7 hbs lbs EB VB DB AB O SC0 c1 SF0 rf) (W := 2) (by decide) (by decide) e123 (g := (mkF m 258 (fL23 p0 p1 p2 p3 x1 x2 b x3 x4 x6_s0 (8 : Int32) b117) [(.int x6_s0), (.int x3), (.int x4), (.int (3 : Int32)), (.ref b), (.int (3 : Int32)), (.ref b117)])) rfl (by rw [hml]; rfl) (argsL := [(.ref b), (.int (3 : Int32)), (.int x4), (.int x3), (.int x6_s0)]) (rest := [(.int (3 : Int32)), (.ref b117)]) rfl (lenOf pd__Ljava_lang_String_IICZ_C rfl) rfl (by show 2 * 0 + _ ≤ _; exact Nat.le_of_eq rfl) (hb hby at_258) (by decide) (by decide)
            obtain ⟨c124, rfl, hr124, Nq124, eq124⟩ := hQ124
            have N124 := Fr.app N123 Nq124
            refine goW st124 ?_
            show OwnEndW _ _ _ _ _ _ _ (T124.setTop (mkF m 261 (fL23 p0 p1 p2 p3 x1 x2 b x3 x4 x6_s0 (8 : Int32) b117) [(.int c124), (.int (3 : Int32)), (.ref b117)]))
            obtain ⟨T125, h125, X125, e125, W125, V_b117', st125⟩ := stCv X124 hx hZ eq124 V_b117 (j := (3 : Int32)) (i := 3) (by decide) (by decide) (by decide) (Nat.le_of_ble_eq_true rfl) (g := (mkF m 261 (fL23 p0 p1 p2 p3 x1 x2 b x3 x4 x6_s0 (8 : Int32) b117) [(.int c124), (.int (3 : Int32)), (.ref b117)])) rfl rfl (hb hby at_261)
            have N125 := Fr.snoc X125 N124 g_b117
            rw [own_narc hr124] at V_b117'
            have HCn := HC.trans (CHr.wr W125 sf_b117 HC.1)
            have sf_b117n := Safe.wr W125 sf_b117 HC.1 sf_b117
            have HC := HCn
            have sf_b117 := sf_b117n
            have Z0 := Nat.le_trans Z0 (Keep.of_wr W125).1
            have O := O.wr W125 g_b117
            have hk := Nat.le_trans hk (Keep.of_wr W125).1
            have SC := SC.wr W125
            have SK0 := SK0.wr W125
            have SK1 := SK1.wr W125
            have SK2 := SK2.wr W125
            have EB := EB.wr W125
            have VB := VB.other W125 (Or.inl ne_b_b117)
            have DB := DB.other W125 (Or.inl ne_b_b117)
            have AB := AB.other W125 ne_t_b117
            have V_b117 : Arv Z h125 b117 k117 .char (8 : Int32) [(.int c118), (.int c120), (.int c122), (.int c124), (.int (0 : Int32)), (.int (0 : Int32)), (.int (0 : Int32)), (.int (0 : Int32))] (.int (0 : Int32)) := V_b117'
            refine goW st125 ?_
            refine goW (fun _ k => by refine XS.iload X125.here hx rfl (hb hby at_262) rfl ?_; exact k) ?_
            refine goW (fun _ k => by refine XS.iconst X125.here hx rfl (hb hby at_264) ?_; exact k) ?_
            show OwnEndW _ _ _ _ _ _ _ (T125.setTop (mkF m 265 (fL23 p0 p1 p2 p3 x1 x2 b x3 x4 x6_s0 (8 : Int32) b117) [(.int (4 : Int32)), (.int (8 : Int32))]))
            refine goW (fun _ k => by refine XS.icmpNo X125.here hx rfl (hb hby at_265) rfl (tlt (by decide)).2.2.2 ?_; exact k) ?_
            refine goW (fun _ k => by refine XS.aload X125.here hx rfl (hb hby at_268) rfl rfl ?_; exact k) ?_
            refine goW (fun _ k => by refine XS.iconst X125.here hx rfl (hb hby at_270) ?_; exact k) ?_
            refine goW (fun _ k => by refine XS.aload X125.here hx rfl (hb hby at_271) rfl rfl ?_; exact k) ?_
            show OwnEndW _ _ _ _ _ _ _ (T125.setTop (mkF m 273 (fL23 p0 p1 p2 p3 x1 x2 b x3 x4 x6_s0 (8 : Int32) b117) [(.ref b), (.int (4 : Int32)), (.ref b117)]))
            refine goW (fun _ k => by refine XS.iconst X125.here hx rfl (hb hby at_273) ?_; exact k) ?_
            refine goW (fun _ k => by refine XS.iload X125.here hx rfl (hb hby at_274) rfl ?_; exact k) ?_
            refine goW (fun _ k => by refine XS.iload X125.here hx rfl (hb hby at_276) rfl ?_; exact k) ?_
            refine goW (fun _ k => by refine XS.iload X125.here hx rfl (hb hby at_278) rfl ?_; exact k) ?_
            show OwnEndW _ _ _ _ _ _ _ (T125.setTop (mkF m 280 (fL23 p0 p1 p2 p3 x1 x2 b x3 x4 x6_s0 (8 : Int32) b117) [(.int x6_s0), (.int x3), (.int x4), (.int (4 : Int32)), (.ref b), (.int (4 : Int32)), (.ref b117)]))
            obtain ⟨_, T126, L126, X126, hQ126, st126⟩ := callStat X125 hx hZ hown (hw _ (List.mem_of_getElem? (i := 23) rfl)) (hw _ (List.mem_of_getElem? (i := 24) rfl)) (hw _ (List.mem_of_getElem? (i := 25) rfl)) (hw _ (List.mem_of_getElem? (i := 26) rfl)) (by decide) (rm_pick l Z a0 hw [] b x4 x3 x6_s0 4 t kb bs cs fm h125 n0 (by decide) hc7 hbs lbs EB VB DB AB O SC0 c1 SF0 rf) (W := 2) (by decide) (by decide) e125 (g := (mkF m 280 (fL23 p0 p1 p2 p3 x1 x2 b x3 x4 x6_s0 (8 : Int32) b117) [(.int x6_s0), (.int x3), (.int x4), (.int (4 : Int32)), (.ref b), (.int (4 : Int32)), (.ref b117)])) rfl (by rw [hml]; rfl) (argsL := [(.ref b), (.int (4 : Int32)), (.int x4), (.int x3), (.int x6_s0)]) (rest := [(.int (4 : Int32)), (.ref b117)]) rfl (lenOf pd__Ljava_lang_String_IICZ_C rfl) rfl (by show 2 * 0 + _ ≤ _; exact Nat.le_of_eq rfl) (hb hby at_280) (by decide) (by decide)
            obtain ⟨c126, rfl, hr126, Nq126, eq126⟩ := hQ126
            have N126 := Fr.app N125 Nq126
            refine goW st126 ?_
            show OwnEndW _ _ _ _ _ _ _ (T126.setTop (mkF m 283 (fL23 p0 p1 p2 p3 x1 x2 b x3 x4 x6_s0 (8 : Int32) b117) [(.int c126), (.int (4 : Int32)), (.ref b117)]))
            obtain ⟨T127, h127, X127, e127, W127, V_b117', st127⟩ := stCv X126 hx hZ eq126 V_b117 (j := (4 : Int32)) (i := 4) (by decide) (by decide) (by decide) (Nat.le_of_ble_eq_true rfl) (g := (mkF m 283 (fL23 p0 p1 p2 p3 x1 x2 b x3 x4 x6_s0 (8 : Int32) b117) [(.int c126), (.int (4 : Int32)), (.ref b117)])) rfl rfl (hb hby at_283)
            have N127 := Fr.snoc X127 N126 g_b117
            rw [own_narc hr126] at V_b117'
            have HCn := HC.trans (CHr.wr W127 sf_b117 HC.1)
            have sf_b117n := Safe.wr W127 sf_b117 HC.1 sf_b117
            have HC := HCn
            have sf_b117 := sf_b117n
            have Z0 := Nat.le_trans Z0 (Keep.of_wr W127).1
            have O := O.wr W127 g_b117
            have hk := Nat.le_trans hk (Keep.of_wr W127).1
            have SC := SC.wr W127
            have SK0 := SK0.wr W127
            have SK1 := SK1.wr W127
            have SK2 := SK2.wr W127
            have EB := EB.wr W127
            have VB := VB.other W127 (Or.inl ne_b_b117)
            have DB := DB.other W127 (Or.inl ne_b_b117)
            have AB := AB.other W127 ne_t_b117
            have V_b117 : Arv Z h127 b117 k117 .char (8 : Int32) [(.int c118), (.int c120), (.int c122), (.int c124), (.int c126), (.int (0 : Int32)), (.int (0 : Int32)), (.int (0 : Int32))] (.int (0 : Int32)) := V_b117'
            refine goW st127 ?_
            refine goW (fun _ k => by refine XS.iload X127.here hx rfl (hb hby at_284) rfl ?_; exact k) ?_
            refine goW (fun _ k => by refine XS.iconst X127.here hx rfl (hb hby at_286) ?_; exact k) ?_
            show OwnEndW _ _ _ _ _ _ _ (T127.setTop (mkF m 287 (fL23 p0 p1 p2 p3 x1 x2 b x3 x4 x6_s0 (8 : Int32) b117) [(.int (5 : Int32)), (.int (8 : Int32))]))
            refine goW (fun _ k => by refine XS.icmpNo X127.here hx rfl (hb hby at_287) rfl (tlt (by decide)).2.2.2 ?_; exact k) ?_
            refine goW (fun _ k => by refine XS.aload X127.here hx rfl (hb hby at_290) rfl rfl ?_; exact k) ?_
            refine goW (fun _ k => by refine XS.iconst X127.here hx rfl (hb hby at_292) ?_; exact k) ?_
            refine goW (fun _ k => by refine XS.aload X127.here hx rfl (hb hby at_293) rfl rfl ?_; exact k) ?_
            show OwnEndW _ _ _ _ _ _ _ (T127.setTop (mkF m 295 (fL23 p0 p1 p2 p3 x1 x2 b x3 x4 x6_s0 (8 : Int32) b117) [(.ref b), (.int (5 : Int32)), (.ref b117)]))
            refine goW (fun _ k => by refine XS.iconst X127.here hx rfl (hb hby at_295) ?_; exact k) ?_
            refine goW (fun _ k => by refine XS.iload X127.here hx rfl (hb hby at_296) rfl ?_; exact k) ?_
            refine goW (fun _ k => by refine XS.iload X127.here hx rfl (hb hby at_298) rfl ?_; exact k) ?_
            refine goW (fun _ k => by refine XS.iload X127.here hx rfl (hb hby at_300) rfl ?_; exact k) ?_
            show OwnEndW _ _ _ _ _ _ _ (T127.setTop (mkF m 302 (fL23 p0 p1 p2 p3 x1 x2 b x3 x4 x6_s0 (8 : Int32) b117) [(.int x6_s0), (.int x3), (.int x4), (.int (5 : Int32)), (.ref b), (.int (5 : Int32)), (.ref b117)]))
            obtain ⟨_, T128, L128, X128, hQ128, st128⟩ := callStat X127 hx hZ hown (hw _ (List.mem_of_getElem? (i := 23) rfl)) (hw _ (List.mem_of_getElem? (i := 24) rfl)) (hw _ (List.mem_of_getElem? (i := 25) rfl)) (hw _ (List.mem_of_getElem? (i := 26) rfl)) (by decide) (rm_pick l Z a0 hw [] b x4 x3 x6_s0 5 t kb bs cs fm h127 n0 (by decide) hc7 hbs lbs EB VB DB AB O SC0 c1 SF0 rf) (W := 2) (by decide) (by decide) e127 (g := (mkF m 302 (fL23 p0 p1 p2 p3 x1 x2 b x3 x4 x6_s0 (8 : Int32) b117) [(.int x6_s0), (.int x3), (.int x4), (.int (5 : Int32)), (.ref b), (.int (5 : Int32)), (.ref b117)])) rfl (by rw [hml]; rfl) (argsL := [(.ref b), (.int (5 : Int32)), (.int x4), (.int x3), (.int x6_s0)]) (rest := [(.int (5 : Int32)), (.ref b117)]) rfl (lenOf pd__Ljava_lang_String_IICZ_C rfl) rfl (by show 2 * 0 + _ ≤ _; exact Nat.le_of_eq rfl) (hb hby at_302) (by decide) (by decide)
            obtain ⟨c128, rfl, hr128, Nq128, eq128⟩ := hQ128
            have N128 := Fr.app N127 Nq128
            refine goW st128 ?_
            show OwnEndW _ _ _ _ _ _ _ (T128.setTop (mkF m 305 (fL23 p0 p1 p2 p3 x1 x2 b x3 x4 x6_s0 (8 : Int32) b117) [(.int c128), (.int (5 : Int32)), (.ref b117)]))
            obtain ⟨T129, h129, X129, e129, W129, V_b117', st129⟩ := stCv X128 hx hZ eq128 V_b117 (j := (5 : Int32)) (i := 5) (by decide) (by decide) (by decide) (Nat.le_of_ble_eq_true rfl) (g := (mkF m 305 (fL23 p0 p1 p2 p3 x1 x2 b x3 x4 x6_s0 (8 : Int32) b117) [(.int c128), (.int (5 : Int32)), (.ref b117)])) rfl rfl (hb hby at_305)
            have N129 := Fr.snoc X129 N128 g_b117
            rw [own_narc hr128] at V_b117'
            have HCn := HC.trans (CHr.wr W129 sf_b117 HC.1)
            have sf_b117n := Safe.wr W129 sf_b117 HC.1 sf_b117
            have HC := HCn
            have sf_b117 := sf_b117n
            have Z0 := Nat.le_trans Z0 (Keep.of_wr W129).1
            have O := O.wr W129 g_b117
            have hk := Nat.le_trans hk (Keep.of_wr W129).1
            have SC := SC.wr W129
            have SK0 := SK0.wr W129
            have SK1 := SK1.wr W129
            have SK2 := SK2.wr W129
            have EB := EB.wr W129
            have VB := VB.other W129 (Or.inl ne_b_b117)
            have DB := DB.other W129 (Or.inl ne_b_b117)
            have AB := AB.other W129 ne_t_b117
            have V_b117 : Arv Z h129 b117 k117 .char (8 : Int32) [(.int c118), (.int c120), (.int c122), (.int c124), (.int c126), (.int c128), (.int (0 : Int32)), (.int (0 : Int32))] (.int (0 : Int32)) := V_b117'
            refine goW st129 ?_
            refine goW (fun _ k => by refine XS.iload X129.here hx rfl (hb hby at_306) rfl ?_; exact k) ?_
            refine goW (fun _ k => by refine XS.bipush X129.here hx rfl (hb hby at_308) ?_; exact k) ?_
            show OwnEndW _ _ _ _ _ _ _ (T129.setTop (mkF m 310 (fL23 p0 p1 p2 p3 x1 x2 b x3 x4 x6_s0 (8 : Int32) b117) [(.int (6 : Int32)), (.int (8 : Int32))]))
            refine goW (fun _ k => by refine XS.icmpNo X129.here hx rfl (hb hby at_310) rfl (tlt (by decide)).2.2.2 ?_; exact k) ?_
            refine goW (fun _ k => by refine XS.aload X129.here hx rfl (hb hby at_313) rfl rfl ?_; exact k) ?_
            refine goW (fun _ k => by refine XS.bipush X129.here hx rfl (hb hby at_315) ?_; exact k) ?_
            refine goW (fun _ k => by refine XS.aload X129.here hx rfl (hb hby at_317) rfl rfl ?_; exact k) ?_
            show OwnEndW _ _ _ _ _ _ _ (T129.setTop (mkF m 319 (fL23 p0 p1 p2 p3 x1 x2 b x3 x4 x6_s0 (8 : Int32) b117) [(.ref b), (.int (6 : Int32)), (.ref b117)]))
            refine goW (fun _ k => by refine XS.bipush X129.here hx rfl (hb hby at_319) ?_; exact k) ?_
            refine goW (fun _ k => by refine XS.iload X129.here hx rfl (hb hby at_321) rfl ?_; exact k) ?_
            refine goW (fun _ k => by refine XS.iload X129.here hx rfl (hb hby at_323) rfl ?_; exact k) ?_
            refine goW (fun _ k => by refine XS.iload X129.here hx rfl (hb hby at_325) rfl ?_; exact k) ?_
            show OwnEndW _ _ _ _ _ _ _ (T129.setTop (mkF m 327 (fL23 p0 p1 p2 p3 x1 x2 b x3 x4 x6_s0 (8 : Int32) b117) [(.int x6_s0), (.int x3), (.int x4), (.int (6 : Int32)), (.ref b), (.int (6 : Int32)), (.ref b117)]))
            obtain ⟨_, T130, L130, X130, hQ130, st130⟩ := callStat X129 hx hZ hown (hw _ (List.mem_of_getElem? (i := 23) rfl)) (hw _ (List.mem_of_getElem? (i := 24) rfl)) (hw _ (List.mem_of_getElem? (i := 25) rfl)) (hw _ (List.mem_of_getElem? (i := 26) rfl)) (by decide) (rm_pick l Z a0 hw [] b x4 x3 x6_s0 6 t kb bs cs fm h129 n0 (by decide) hc7 hbs lbs EB VB DB AB O SC0 c1 SF0 rf) (W := 2) (by decide) (by decide) e129 (g := (mkF m 327 (fL23 p0 p1 p2 p3 x1 x2 b x3 x4 x6_s0 (8 : Int32) b117) [(.int x6_s0), (.int x3), (.int x4), (.int (6 : Int32)), (.ref b), (.int (6 : Int32)), (.ref b117)])) rfl (by rw [hml]; rfl) (argsL := [(.ref b), (.int (6 : Int32)), (.int x4), (.int x3), (.int x6_s0)]) (rest := [(.int (6 : Int32)), (.ref b117)]) rfl (lenOf pd__Ljava_lang_String_IICZ_C rfl) rfl (by show 2 * 0 + _ ≤ _; exact Nat.le_of_eq rfl) (hb hby at_327) (by decide) (by decide)
            obtain ⟨c130, rfl, hr130, Nq130, eq130⟩ := hQ130
            have N130 := Fr.app N129 Nq130
            refine goW st130 ?_
            show OwnEndW _ _ _ _ _ _ _ (T130.setTop (mkF m 330 (fL23 p0 p1 p2 p3 x1 x2 b x3 x4 x6_s0 (8 : Int32) b117) [(.int c130), (.int (6 : Int32)), (.ref b117)]))
            obtain ⟨T131, h131, X131, e131, W131, V_b117', st131⟩ := stCv X130 hx hZ eq130 V_b117 (j := (6 : Int32)) (i := 6) (by decide) (by decide) (by decide) (Nat.le_of_ble_eq_true rfl) (g := (mkF m 330 (fL23 p0 p1 p2 p3 x1 x2 b x3 x4 x6_s0 (8 : Int32) b117) [(.int c130), (.int (6 : Int32)), (.ref b117)])) rfl rfl (hb hby at_330)
            have N131 := Fr.snoc X131 N130 g_b117
            rw [own_narc hr130] at V_b117'
            have HCn := HC.trans (CHr.wr W131 sf_b117 HC.1)
            have sf_b117n := Safe.wr W131 sf_b117 HC.1 sf_b117
            have HC := HCn
            have sf_b117 := sf_b117n
            have Z0 := Nat.le_trans Z0 (Keep.of_wr W131).1
            have O := O.wr W131 g_b117
            have hk := Nat.le_trans hk (Keep.of_wr W131).1
            have SC := SC.wr W131
            have SK0 := SK0.wr W131
            have SK1 := SK1.wr W131
            have SK2 := SK2.wr W131
            have EB := EB.wr W131
            have VB := VB.other W131 (Or.inl ne_b_b117)
            have DB := DB.other W131 (Or.inl ne_b_b117)
            have AB := AB.other W131 ne_t_b117
            have V_b117 : Arv Z h131 b117 k117 .char (8 : Int32) [(.int c118), (.int c120), (.int c122), (.int c124), (.int c126), (.int c128), (.int c130), (.int (0 : Int32))] (.int (0 : Int32)) := V_b117'
            refine goW st131 ?_
            refine goW (fun _ k => by refine XS.iload X131.here hx rfl (hb hby at_331) rfl ?_; exact k) ?_
            refine goW (fun _ k => by refine XS.bipush X131.here hx rfl (hb hby at_333) ?_; exact k) ?_
            show OwnEndW _ _ _ _ _ _ _ (T131.setTop (mkF m 335 (fL23 p0 p1 p2 p3 x1 x2 b x3 x4 x6_s0 (8 : Int32) b117) [(.int (7 : Int32)), (.int (8 : Int32))]))
            refine goW (fun _ k => by refine XS.icmpNo X131.here hx rfl (hb hby at_335) rfl (tlt (by decide)).2.2.2 ?_; exact k) ?_
            refine goW (fun _ k => by refine XS.aload X131.here hx rfl (hb hby at_338) rfl rfl ?_; exact k) ?_
            refine goW (fun _ k => by refine XS.bipush X131.here hx rfl (hb hby at_340) ?_; exact k) ?_
            refine goW (fun _ k => by refine XS.aload X131.here hx rfl (hb hby at_342) rfl rfl ?_; exact k) ?_
            show OwnEndW _ _ _ _ _ _ _ (T131.setTop (mkF m 344 (fL23 p0 p1 p2 p3 x1 x2 b x3 x4 x6_s0 (8 : Int32) b117) [(.ref b), (.int (7 : Int32)), (.ref b117)]))
            refine goW (fun _ k => by refine XS.bipush X131.here hx rfl (hb hby at_344) ?_; exact k) ?_
            refine goW (fun _ k => by refine XS.iload X131.here hx rfl (hb hby at_346) rfl ?_; exact k) ?_
            refine goW (fun _ k => by refine XS.iload X131.here hx rfl (hb hby at_348) rfl ?_; exact k) ?_
            refine goW (fun _ k => by refine XS.iload X131.here hx rfl (hb hby at_350) rfl ?_; exact k) ?_
            show OwnEndW _ _ _ _ _ _ _ (T131.setTop (mkF m 352 (fL23 p0 p1 p2 p3 x1 x2 b x3 x4 x6_s0 (8 : Int32) b117) [(.int x6_s0), (.int x3), (.int x4), (.int (7 : Int32)), (.ref b), (.int (7 : Int32)), (.ref b117)]))
            obtain ⟨_, T132, L132, X132, hQ132, st132⟩ := callStat X131 hx hZ hown (hw _ (List.mem_of_getElem? (i := 23) rfl)) (hw _ (List.mem_of_getElem? (i := 24) rfl)) (hw _ (List.mem_of_getElem? (i := 25) rfl)) (hw _ (List.mem_of_getElem? (i := 26) rfl)) (by decide) (rm_pick l Z a0 hw [] b x4 x3 x6_s0 7 t kb bs cs fm h131 n0 (by decide) hc7 hbs lbs EB VB DB AB O SC0 c1 SF0 rf) (W := 2) (by decide) (by decide) e131 (g := (mkF m 352 (fL23 p0 p1 p2 p3 x1 x2 b x3 x4 x6_s0 (8 : Int32) b117) [(.int x6_s0), (.int x3), (.int x4), (.int (7 : Int32)), (.ref b), (.int (7 : Int32)), (.ref b117)])) rfl (by rw [hml]; rfl) (argsL := [(.ref b), (.int (7 : Int32)), (.int x4), (.int x3), (.int x6_s0)]) (rest := [(.int (7 : Int32)), (.ref b117)]) rfl (lenOf pd__Ljava_lang_String_IICZ_C rfl) rfl (by show 2 * 0 + _ ≤ _; exact Nat.le_of_eq rfl) (hb hby at_352) (by decide) (by decide)
            obtain ⟨c132, rfl, hr132, Nq132, eq132⟩ := hQ132
            have N132 := Fr.app N131 Nq132
            refine goW st132 ?_
            show OwnEndW _ _ _ _ _ _ _ (T132.setTop (mkF m 355 (fL23 p0 p1 p2 p3 x1 x2 b x3 x4 x6_s0 (8 : Int32) b117) [(.int c132), (.int (7 : Int32)), (.ref b117)]))
            obtain ⟨T133, h133, X133, e133, W133, V_b117', st133⟩ := stCv X132 hx hZ eq132 V_b117 (j := (7 : Int32)) (i := 7) (by decide) (by decide) (by decide) (Nat.le_of_ble_eq_true rfl) (g := (mkF m 355 (fL23 p0 p1 p2 p3 x1 x2 b x3 x4 x6_s0 (8 : Int32) b117) [(.int c132), (.int (7 : Int32)), (.ref b117)])) rfl rfl (hb hby at_355)
            have N133 := Fr.snoc X133 N132 g_b117
            rw [own_narc hr132] at V_b117'
            have HCn := HC.trans (CHr.wr W133 sf_b117 HC.1)
            have sf_b117n := Safe.wr W133 sf_b117 HC.1 sf_b117
            have HC := HCn
            have sf_b117 := sf_b117n
            have Z0 := Nat.le_trans Z0 (Keep.of_wr W133).1
            have O := O.wr W133 g_b117
            have hk := Nat.le_trans hk (Keep.of_wr W133).1
            have SC := SC.wr W133
            have SK0 := SK0.wr W133
            have SK1 := SK1.wr W133
            have SK2 := SK2.wr W133
            have EB := EB.wr W133
            have VB := VB.other W133 (Or.inl ne_b_b117)
            have DB := DB.other W133 (Or.inl ne_b_b117)
            have AB := AB.other W133 ne_t_b117
            have V_b117 : Arv Z h133 b117 k117 .char (8 : Int32) [(.int c118), (.int c120), (.int c122), (.int c124), (.int c126), (.int c128), (.int c130), (.int c132)] (.int (0 : Int32)) := V_b117'
            refine goW st133 ?_
            refine goW (fun _ k => by refine XS.iload X133.here hx rfl (hb hby at_356) rfl ?_; exact k) ?_
            refine goW (fun _ k => by refine XS.bipush X133.here hx rfl (hb hby at_358) ?_; exact k) ?_
            show OwnEndW _ _ _ _ _ _ _ (T133.setTop (mkF m 360 (fL23 p0 p1 p2 p3 x1 x2 b x3 x4 x6_s0 (8 : Int32) b117) [(.int (8 : Int32)), (.int (8 : Int32))]))
            refine goW (fun _ k => by refine XS.icmpYes X133.here hx rfl (pc0 := 360) (pc' := 381) rfl (hb hby at_360) rfl (flt (by decide)).2.2.2 (by decide) (by decide) ?_; exact k) ?_
            refine goW (fun _ k => by refine XS.iload X133.here hx rfl (hb hby at_381) rfl ?_; exact k) ?_
            refine goW (fun _ k => by refine XS.bipush X133.here hx rfl (hb hby at_383) ?_; exact k) ?_
            show OwnEndW _ _ _ _ _ _ _ (T133.setTop (mkF m 385 (fL23 p0 p1 p2 p3 x1 x2 b x3 x4 x6_s0 (8 : Int32) b117) [(.int (9 : Int32)), (.int (8 : Int32))]))
            refine goW (fun _ k => by refine XS.icmpYes X133.here hx rfl (pc0 := 385) (pc' := 406) rfl (hb hby at_385) rfl (flt (by decide)).2.2.2 (by decide) (by decide) ?_; exact k) ?_
            show OwnEndW _ _ _ _ _ _ _ (T133.setTop (mkF m 406 (fL23 p0 p1 p2 p3 x1 x2 b x3 x4 x6_s0 (8 : Int32) b117) []))
            obtain ⟨T134, h134, X134, e134, E134, A134, D134, -, st134⟩ := newO X133 hx hZ hown (hw _ (List.mem_of_getElem? (i := 49) rfl)) (hw _ (List.mem_of_getElem? (i := 2) rfl)) (hw _ (List.mem_of_getElem? (i := 1) rfl)) e133 (g := (mkF m 406 (fL23 p0 p1 p2 p3 x1 x2 b x3 x4 x6_s0 (8 : Int32) b117) [])) rfl (hb hby at_406) (by decide) (by decide)
            obtain ⟨b134, g134⟩ : ∃ z, z = h133.size := ⟨_, rfl⟩
            rw [← g134] at A134 D134 st134
            have ne_b_b134 : b ≠ b134 := fun q => absurd EB.lt (by rw [q, g134]; exact Nat.lt_irrefl _)
            have ne_t_b134 : t ≠ b134 := fun q => absurd AB.lt (by rw [q, g134]; exact Nat.lt_irrefl _)
            have ne_b117_b134 : b117 ≠ b134 := fun q => absurd V_b117.lt (by rw [q, g134]; exact Nat.lt_irrefl _)
            have sf_b134 : Safe Z own_EL vm1 h133 b134 := Safe.new (Nat.le_of_eq g134.symm)
            have g_b134 : n0 ≤ b134 := Nat.le_trans Z0 (Nat.le_of_eq g134.symm)
            have sf_b117 := Safe.ext E134 HC.1 sf_b117
            have sf_b134 := Safe.ext E134 HC.1 sf_b134
            have HC := HC.trans (CHr.ext E134 HC.1)
            have Z0 := Nat.le_trans Z0 E134.1
            have O := O.ext E134
            have hk := Nat.le_trans hk E134.1
            have SC := SC.ext E134
            have SK0 := SK0.ext E134
            have SK1 := SK1.ext E134
            have SK2 := SK2.ext E134
            have EB := EB.ext E134
            have VB := VB.ext E134
            have DB := DB.ext E134
            have AB := AB.ext E134
            have V_b117 := V_b117.ext E134
            have F_value_b134 : Fld Z h134 b134 "java/lang/String" "value" "[B" .null := D134 (Or.inr (hw _ (List.mem_of_getElem? (i := 4) rfl))) (ty := (.array .byte)) (by decide)
            have F_coder_b134 : Fld Z h134 b134 "java/lang/String" "coder" "B" (.int (0 : Int32)) := D134 (Or.inr (hw _ (List.mem_of_getElem? (i := 5) rfl))) (ty := .byte) (by decide)
            have E_b134 := A134
            refine goW st134 ?_
            refine goW (fun _ k => by refine XS.dup X134.here hx rfl (hb hby at_409) rfl rfl ?_; exact k) ?_
            refine goW (fun _ k => by refine XS.aload X134.here hx rfl (hb hby at_410) rfl rfl ?_; exact k) ?_
            show OwnEndW _ _ _ _ _ _ _ (T134.setTop (mkF m 412 (fL23 p0 p1 p2 p3 x1 x2 b x3 x4 x6_s0 (8 : Int32) b117) [(.ref b117), (.ref b134), (.ref b134)]))
            have hp135 : ∀ c ∈ ([c118, c120, c122, c124, c126, c128, c130, c132] : List Int32), ¬ c < 0 ∧ ¬ (255 : Int32) < c := by
              intro c hc
              simp only [List.mem_cons, List.not_mem_nil, or_false] at hc
              rcases hc with rfl | rfl | rfl | rfl | rfl | rfl | rfl | rfl
              · exact hr118
              · exact hr120
              · exact hr122
              · exact hr124
              · exact hr126
              · exact hr128
              · exact hr130
              · exact hr132
            obtain ⟨_, T135, L135, X135, hQ135, st135⟩ := callInitB X134 hx hZ hown rfl (hw _ (List.mem_of_getElem? (i := 50) rfl)) (hw _ (List.mem_of_getElem? (i := 51) rfl)) (hw _ (List.mem_of_getElem? (i := 52) rfl)) (by decide) (StrChars.Road.backV (W := 1) hZ (fun d hd => hw d ((by decide +kernel : ∀ d ∈ StrChars.Road.words, d ∈ tables_1) d hd)) (kI := 4) (hw _ (List.mem_of_getElem? (i := 2) rfl)) (cs := ([c118, c120, c122, c124, c126, c128, c130, c132] : List Int32)) (bs := (([c118, c120, c122, c124, c126, c128, c130, c132] : List Int32)).map (fun c => c.toInt8.toInt32)) (n := 8) g_b134 Z0 E_b134 F_value_b134 F_coder_b134 V_b117 SC c1 rfl rfl (by decide) (by decide) hp135 rfl (by decide) (by decide)) e134 (g := (mkF m 412 (fL23 p0 p1 p2 p3 x1 x2 b x3 x4 x6_s0 (8 : Int32) b117) [(.ref b117), (.ref b134), (.ref b134)])) rfl (by rw [hml]; rfl) (argsL := [(.ref b117)]) (rest := [(.ref b134)]) rfl (lenOf pd___C_V rfl) rfl (by show 2 * 0 + _ ≤ _; exact Nat.le_of_eq rfl) (hb hby at_412) (by decide) (by decide)
            obtain ⟨rfl, Nq135, K135, E_b134, F_coder_b134, t135, kb135, g_t135, sq135, nt135, F_value_b134, V_t135⟩ := hQ135
            have N135 := Fr.app N133 Nq135
            have HCn := HC.trans (CHr.keep K135 (sfS sf_b134 sf0) HC.1)
            have sf_b117n := Safe.keep K135 (sfS sf_b134 sf0) HC.1 sf_b117
            have sf_b134n := Safe.keep K135 (sfS sf_b134 sf0) HC.1 sf_b134
            have HC := HCn
            have sf_b117 := sf_b117n
            have sf_b134 := sf_b134n
            have Z0 := Nat.le_trans Z0 K135.1
            have O := O.keep K135 (allS g_b134 all0)
            have hk := Nat.le_trans hk K135.1
            have EB := EB.keep K135
            have VB := VB.keep K135 (ninS ne_b_b134 nin0)
            have DB := DB.keep K135 (ninS ne_b_b134 nin0)
            have AB := AB.keep K135 (ninS ne_t_b134 nin0)
            have V_b117 := V_b117.keep K135 (ninS ne_b117_b134 nin0)
            have SC := SC0.ext O.2
            have SK0 := M0.ext O.2
            have SK1 := M1.ext O.2
            have SK2 := M2.ext O.2
            refine goW st135 ?_
            refine goW (fun _ k => by refine XS.astore X135.here hx rfl (hb hby at_415) rfl rfl (l' := (fL22 p0 p1 p2 p3 x1 x2 b x3 x4 x6_s0 (8 : Int32) b134 b117)) rfl ?_; exact k) ?_
            exact J417 vm1 _ _ _ _ (8 : Int32) (.val (.ref b117)) b134 t135 kb135 ([c118, c120, c122, c124, c126, c128, c130, c132] : List Int32) (One.val rfl) (up X135 (by decide) (by decide)) N135 rfl hS hk hZ hown HC O Z0 hp135 (Nat.le_of_ble_eq_true rfl) E_b134 F_value_b134 F_coder_b134 V_t135
          · rw [h10]
            show OwnEndW _ _ _ _ _ _ _ (T20.setTop (mkF m 169 (fL19 p0 p1 p2 p3 x1 x2 b x3 x4 x6_s0 (9 : Int32)) []))
            refine goW (fun _ k => by refine XS.iload X20.here hx rfl (hb hby at_169) rfl ?_; exact k) ?_
            show OwnEndW _ _ _ _ _ _ _ (T20.setTop (mkF m 171 (fL19 p0 p1 p2 p3 x1 x2 b x3 x4 x6_s0 (9 : Int32)) [(.int (9 : Int32))]))
            obtain ⟨T136, h136, k136, X136, e136, E136, A136, st136⟩ := newP X20 hx hZ (hw _ (List.mem_of_getElem? (i := 22) rfl)) e20 (g := (mkF m 171 (fL19 p0 p1 p2 p3 x1 x2 b x3 x4 x6_s0 (9 : Int32)) [(.int (9 : Int32))])) rfl (hb hby at_171) rfl (by decide) (cap := 9) (by decide) (by decide) (by decide) (by decide)
            obtain ⟨b136, g136⟩ : ∃ z, z = h1.size := ⟨_, rfl⟩
            rw [← g136] at A136 st136
            have ne_b_b136 : b ≠ b136 := fun q => absurd EB.lt (by rw [q, g136]; exact Nat.lt_irrefl _)
            have ne_t_b136 : t ≠ b136 := fun q => absurd AB.lt (by rw [q, g136]; exact Nat.lt_irrefl _)
            have sf_b136 : Safe Z own_EL vm1 h1 b136 := Safe.new (Nat.le_of_eq g136.symm)
            have g_b136 : n0 ≤ b136 := Nat.le_trans Z0 (Nat.le_of_eq g136.symm)
            have sf_b136 := Safe.ext E136 HC.1 sf_b136
            have HC := HC.trans (CHr.ext E136 HC.1)
            have Z0 := Nat.le_trans Z0 E136.1
            have O := O.ext E136
            have hk := Nat.le_trans hk E136.1
            have SC := SC.ext E136
            have SK0 := SK0.ext E136
            have SK1 := SK1.ext E136
            have SK2 := SK2.ext E136
            have EB := EB.ext E136
            have VB := VB.ext E136
            have DB := DB.ext E136
            have AB := AB.ext E136
            have V_b136 : Arv Z h136 b136 k136 .char (9 : Int32) [(.int (0 : Int32)), (.int (0 : Int32)), (.int (0 : Int32)), (.int (0 : Int32)), (.int (0 : Int32)), (.int (0 : Int32)), (.int (0 : Int32)), (.int (0 : Int32)), (.int (0 : Int32))] (.int (0 : Int32)) := (Arv.new A136 (by decide)).pad (pad_rep [] (.int (0 : Int32)) 9)
            refine goW st136 ?_
            refine goW (fun _ k => by refine XS.astore X136.here hx rfl (hb hby at_173) rfl rfl (l' := (fL23 p0 p1 p2 p3 x1 x2 b x3 x4 x6_s0 (9 : Int32) b136)) rfl ?_; exact k) ?_
            refine goW (fun _ k => by refine XS.iload X136.here hx rfl (hb hby at_175) rfl ?_; exact k) ?_
            show OwnEndW _ _ _ _ _ _ _ (T136.setTop (mkF m 177 (fL23 p0 p1 p2 p3 x1 x2 b x3 x4 x6_s0 (9 : Int32) b136) [(.int (9 : Int32))]))
            refine goW (fun _ k => by refine XS.ifNo X136.here hx rfl (hb hby at_177) rfl ((if0 _ _).trans (tlt (by decide)).2.2.2) ?_; exact k) ?_
            refine goW (fun _ k => by refine XS.aload X136.here hx rfl (hb hby at_180) rfl rfl ?_; exact k) ?_
            refine goW (fun _ k => by refine XS.iconst X136.here hx rfl (hb hby at_182) ?_; exact k) ?_
            refine goW (fun _ k => by refine XS.aload X136.here hx rfl (hb hby at_183) rfl rfl ?_; exact k) ?_
            show OwnEndW _ _ _ _ _ _ _ (T136.setTop (mkF m 185 (fL23 p0 p1 p2 p3 x1 x2 b x3 x4 x6_s0 (9 : Int32) b136) [(.ref b), (.int (0 : Int32)), (.ref b136)]))
            refine goW (fun _ k => by refine XS.iconst X136.here hx rfl (hb hby at_185) ?_; exact k) ?_
            refine goW (fun _ k => by refine XS.iload X136.here hx rfl (hb hby at_186) rfl ?_; exact k) ?_
            refine goW (fun _ k => by refine XS.iload X136.here hx rfl (hb hby at_188) rfl ?_; exact k) ?_
            refine goW (fun _ k => by refine XS.iload X136.here hx rfl (hb hby at_190) rfl ?_; exact k) ?_
            show OwnEndW _ _ _ _ _ _ _ (T136.setTop (mkF m 192 (fL23 p0 p1 p2 p3 x1 x2 b x3 x4 x6_s0 (9 : Int32) b136) [(.int x6_s0), (.int x3), (.int x4), (.int (0 : Int32)), (.ref b), (.int (0 : Int32)), (.ref b136)]))
            obtain ⟨_, T137, L137, X137, hQ137, st137⟩ := callStat X136 hx hZ hown (hw _ (List.mem_of_getElem? (i := 23) rfl)) (hw _ (List.mem_of_getElem? (i := 24) rfl)) (hw _ (List.mem_of_getElem? (i := 25) rfl)) (hw _ (List.mem_of_getElem? (i := 26) rfl)) (by decide) (rm_pick l Z a0 hw [] b x4 x3 x6_s0 0 t kb bs cs fm h136 n0 (by decide) hc7 hbs lbs EB VB DB AB O SC0 c1 SF0 rf) (W := 2) (by decide) (by decide) e136 (g := (mkF m 192 (fL23 p0 p1 p2 p3 x1 x2 b x3 x4 x6_s0 (9 : Int32) b136) [(.int x6_s0), (.int x3), (.int x4), (.int (0 : Int32)), (.ref b), (.int (0 : Int32)), (.ref b136)])) rfl (by rw [hml]; rfl) (argsL := [(.ref b), (.int (0 : Int32)), (.int x4), (.int x3), (.int x6_s0)]) (rest := [(.int (0 : Int32)), (.ref b136)]) rfl (lenOf pd__Ljava_lang_String_IICZ_C rfl) rfl (by show 2 * 0 + _ ≤ _; exact Nat.le_of_eq rfl) (hb hby at_192) (by decide) (by decide)
            obtain ⟨c137, rfl, hr137, Nq137, eq137⟩ := hQ137
            have N137 := Fr.app N20 Nq137
            refine goW st137 ?_
            show OwnEndW _ _ _ _ _ _ _ (T137.setTop (mkF m 195 (fL23 p0 p1 p2 p3 x1 x2 b x3 x4 x6_s0 (9 : Int32) b136) [(.int c137), (.int (0 : Int32)), (.ref b136)]))
            obtain ⟨T138, h138, X138, e138, W138, V_b136', st138⟩ := stCv X137 hx hZ eq137 V_b136 (j := (0 : Int32)) (i := 0) (by decide) (by decide) (by decide) (Nat.le_of_ble_eq_true rfl) (g := (mkF m 195 (fL23 p0 p1 p2 p3 x1 x2 b x3 x4 x6_s0 (9 : Int32) b136) [(.int c137), (.int (0 : Int32)), (.ref b136)])) rfl rfl (hb hby at_195)
            have N138 := Fr.snoc X138 N137 g_b136
            rw [own_narc hr137] at V_b136'
            have HCn := HC.trans (CHr.wr W138 sf_b136 HC.1)
            have sf_b136n := Safe.wr W138 sf_b136 HC.1 sf_b136
            have HC := HCn
            have sf_b136 := sf_b136n
            have Z0 := Nat.le_trans Z0 (Keep.of_wr W138).1
            have O := O.wr W138 g_b136
            have hk := Nat.le_trans hk (Keep.of_wr W138).1
            have SC := SC.wr W138
            have SK0 := SK0.wr W138
            have SK1 := SK1.wr W138
            have SK2 := SK2.wr W138
            have EB := EB.wr W138
            have VB := VB.other W138 (Or.inl ne_b_b136)
            have DB := DB.other W138 (Or.inl ne_b_b136)
            have AB := AB.other W138 ne_t_b136
            have V_b136 : Arv Z h138 b136 k136 .char (9 : Int32) [(.int c137), (.int (0 : Int32)), (.int (0 : Int32)), (.int (0 : Int32)), (.int (0 : Int32)), (.int (0 : Int32)), (.int (0 : Int32)), (.int (0 : Int32)), (.int (0 : Int32))] (.int (0 : Int32)) := V_b136'
            refine goW st138 ?_
            refine goW (fun _ k => by refine XS.iload X138.here hx rfl (hb hby at_196) rfl ?_; exact k) ?_
            refine goW (fun _ k => by refine XS.iconst X138.here hx rfl (hb hby at_198) ?_; exact k) ?_
            show OwnEndW _ _ _ _ _ _ _ (T138.setTop (mkF m 199 (fL23 p0 p1 p2 p3 x1 x2 b x3 x4 x6_s0 (9 : Int32) b136) [(.int (1 : Int32)), (.int (9 : Int32))]))
            refine goW (fun _ k => by refine XS.icmpNo X138.here hx rfl (hb hby at_199) rfl (tlt (by decide)).2.2.2 ?_; exact k) ?_
            refine goW (fun _ k => by refine XS.aload X138.here hx rfl (hb hby at_202) rfl rfl ?_; exact k) ?_
            refine goW (fun _ k => by refine XS.iconst X138.here hx rfl (hb hby at_204) ?_; exact k) ?_
            refine goW (fun _ k => by refine XS.aload X138.here hx rfl (hb hby at_205) rfl rfl ?_; exact k) ?_
            show OwnEndW _ _ _ _ _ _ _ (T138.setTop (mkF m 207 (fL23 p0 p1 p2 p3 x1 x2 b x3 x4 x6_s0 (9 : Int32) b136) [(.ref b), (.int (1 : Int32)), (.ref b136)]))
            refine goW (fun _ k => by refine XS.iconst X138.here hx rfl (hb hby at_207) ?_; exact k) ?_
            refine goW (fun _ k => by refine XS.iload X138.here hx rfl (hb hby at_208) rfl ?_; exact k) ?_
            refine goW (fun _ k => by refine XS.iload X138.here hx rfl (hb hby at_210) rfl ?_; exact k) ?_
            refine goW (fun _ k => by refine XS.iload X138.here hx rfl (hb hby at_212) rfl ?_; exact k) ?_
            show OwnEndW _ _ _ _ _ _ _ (T138.setTop (mkF m 214 (fL23 p0 p1 p2 p3 x1 x2 b x3 x4 x6_s0 (9 : Int32) b136) [(.int x6_s0), (.int x3), (.int x4), (.int (1 : Int32)), (.ref b), (.int (1 : Int32)), (.ref b136)]))
            obtain ⟨_, T139, L139, X139, hQ139, st139⟩ := callStat X138 hx hZ hown (hw _ (List.mem_of_getElem? (i := 23) rfl)) (hw _ (List.mem_of_getElem? (i := 24) rfl)) (hw _ (List.mem_of_getElem? (i := 25) rfl)) (hw _ (List.mem_of_getElem? (i := 26) rfl)) (by decide) (rm_pick l Z a0 hw [] b x4 x3 x6_s0 1 t kb bs cs fm h138 n0 (by decide) hc7 hbs lbs EB VB DB AB O SC0 c1 SF0 rf) (W := 2) (by decide) (by decide) e138 (g := (mkF m 214 (fL23 p0 p1 p2 p3 x1 x2 b x3 x4 x6_s0 (9 : Int32) b136) [(.int x6_s0), (.int x3), (.int x4), (.int (1 : Int32)), (.ref b), (.int (1 : Int32)), (.ref b136)])) rfl (by rw [hml]; rfl) (argsL := [(.ref b), (.int (1 : Int32)), (.int x4), (.int x3), (.int x6_s0)]) (rest := [(.int (1 : Int32)), (.ref b136)]) rfl (lenOf pd__Ljava_lang_String_IICZ_C rfl) rfl (by show 2 * 0 + _ ≤ _; exact Nat.le_of_eq rfl) (hb hby at_214) (by decide) (by decide)
            obtain ⟨c139, rfl, hr139, Nq139, eq139⟩ := hQ139
            have N139 := Fr.app N138 Nq139
            refine goW st139 ?_
            show OwnEndW _ _ _ _ _ _ _ (T139.setTop (mkF m 217 (fL23 p0 p1 p2 p3 x1 x2 b x3 x4 x6_s0 (9 : Int32) b136) [(.int c139), (.int (1 : Int32)), (.ref b136)]))
            obtain ⟨T140, h140, X140, e140, W140, V_b136', st140⟩ := stCv X139 hx hZ eq139 V_b136 (j := (1 : Int32)) (i := 1) (by decide) (by decide) (by decide) (Nat.le_of_ble_eq_true rfl) (g := (mkF m 217 (fL23 p0 p1 p2 p3 x1 x2 b x3 x4 x6_s0 (9 : Int32) b136) [(.int c139), (.int (1 : Int32)), (.ref b136)])) rfl rfl (hb hby at_217)
            have N140 := Fr.snoc X140 N139 g_b136
            rw [own_narc hr139] at V_b136'
            have HCn := HC.trans (CHr.wr W140 sf_b136 HC.1)
            have sf_b136n := Safe.wr W140 sf_b136 HC.1 sf_b136
            have HC := HCn
            have sf_b136 := sf_b136n
            have Z0 := Nat.le_trans Z0 (Keep.of_wr W140).1
            have O := O.wr W140 g_b136
            have hk := Nat.le_trans hk (Keep.of_wr W140).1
            have SC := SC.wr W140
            have SK0 := SK0.wr W140
            have SK1 := SK1.wr W140
            have SK2 := SK2.wr W140
            have EB := EB.wr W140
            have VB := VB.other W140 (Or.inl ne_b_b136)
            have DB := DB.other W140 (Or.inl ne_b_b136)
            have AB := AB.other W140 ne_t_b136
            have V_b136 : Arv Z h140 b136 k136 .char (9 : Int32) [(.int c137), (.int c139), (.int (0 : Int32)), (.int (0 : Int32)), (.int (0 : Int32)), (.int (0 : Int32)), (.int (0 : Int32)), (.int (0 : Int32)), (.int (0 : Int32))] (.int (0 : Int32)) := V_b136'
            refine goW st140 ?_
            refine goW (fun _ k => by refine XS.iload X140.here hx rfl (hb hby at_218) rfl ?_; exact k) ?_
            refine goW (fun _ k => by refine XS.iconst X140.here hx rfl (hb hby at_220) ?_; exact k) ?_
            show OwnEndW _ _ _ _ _ _ _ (T140.setTop (mkF m 221 (fL23 p0 p1 p2 p3 x1 x2 b x3 x4 x6_s0 (9 : Int32) b136) [(.int (2 : Int32)), (.int (9 : Int32))]))
            refine goW (fun _ k => by refine XS.icmpNo X140.here hx rfl (hb hby at_221) rfl (tlt (by decide)).2.2.2 ?_; exact k) ?_
            refine goW (fun _ k => by refine XS.aload X140.here hx rfl (hb hby at_224) rfl rfl ?_; exact k) ?_
            refine goW (fun _ k => by refine XS.iconst X140.here hx rfl (hb hby at_226) ?_; exact k) ?_
            refine goW (fun _ k => by refine XS.aload X140.here hx rfl (hb hby at_227) rfl rfl ?_; exact k) ?_
            show OwnEndW _ _ _ _ _ _ _ (T140.setTop (mkF m 229 (fL23 p0 p1 p2 p3 x1 x2 b x3 x4 x6_s0 (9 : Int32) b136) [(.ref b), (.int (2 : Int32)), (.ref b136)]))
            refine goW (fun _ k => by refine XS.iconst X140.here hx rfl (hb hby at_229) ?_; exact k) ?_
            refine goW (fun _ k => by refine XS.iload X140.here hx rfl (hb hby at_230) rfl ?_; exact k) ?_
            refine goW (fun _ k => by refine XS.iload X140.here hx rfl (hb hby at_232) rfl ?_; exact k) ?_
            refine goW (fun _ k => by refine XS.iload X140.here hx rfl (hb hby at_234) rfl ?_; exact k) ?_
            show OwnEndW _ _ _ _ _ _ _ (T140.setTop (mkF m 236 (fL23 p0 p1 p2 p3 x1 x2 b x3 x4 x6_s0 (9 : Int32) b136) [(.int x6_s0), (.int x3), (.int x4), (.int (2 : Int32)), (.ref b), (.int (2 : Int32)), (.ref b136)]))
            obtain ⟨_, T141, L141, X141, hQ141, st141⟩ := callStat X140 hx hZ hown (hw _ (List.mem_of_getElem? (i := 23) rfl)) (hw _ (List.mem_of_getElem? (i := 24) rfl)) (hw _ (List.mem_of_getElem? (i := 25) rfl)) (hw _ (List.mem_of_getElem? (i := 26) rfl)) (by decide) (rm_pick l Z a0 hw [] b x4 x3 x6_s0 2 t kb bs cs fm h140 n0 (by decide) hc7 hbs lbs EB VB DB AB O SC0 c1 SF0 rf) (W := 2) (by decide) (by decide) e140 (g := (mkF m 236 (fL23 p0 p1 p2 p3 x1 x2 b x3 x4 x6_s0 (9 : Int32) b136) [(.int x6_s0), (.int x3), (.int x4), (.int (2 : Int32)), (.ref b), (.int (2 : Int32)), (.ref b136)])) rfl (by rw [hml]; rfl) (argsL := [(.ref b), (.int (2 : Int32)), (.int x4), (.int x3), (.int x6_s0)]) (rest := [(.int (2 : Int32)), (.ref b136)]) rfl (lenOf pd__Ljava_lang_String_IICZ_C rfl) rfl (by show 2 * 0 + _ ≤ _; exact Nat.le_of_eq rfl) (hb hby at_236) (by decide) (by decide)
            obtain ⟨c141, rfl, hr141, Nq141, eq141⟩ := hQ141
            have N141 := Fr.app N140 Nq141
            refine goW st141 ?_
            show OwnEndW _ _ _ _ _ _ _ (T141.setTop (mkF m 239 (fL23 p0 p1 p2 p3 x1 x2 b x3 x4 x6_s0 (9 : Int32) b136) [(.int c141), (.int (2 : Int32)), (.ref b136)]))
            obtain ⟨T142, h142, X142, e142, W142, V_b136', st142⟩ := stCv X141 hx hZ eq141 V_b136 (j := (2 : Int32)) (i := 2) (by decide) (by decide) (by decide) (Nat.le_of_ble_eq_true rfl) (g := (mkF m 239 (fL23 p0 p1 p2 p3 x1 x2 b x3 x4 x6_s0 (9 : Int32) b136) [(.int c141), (.int (2 : Int32)), (.ref b136)])) rfl rfl (hb hby at_239)
            have N142 := Fr.snoc X142 N141 g_b136
            rw [own_narc hr141] at V_b136'
            have HCn := HC.trans (CHr.wr W142 sf_b136 HC.1)
            have sf_b136n := Safe.wr W142 sf_b136 HC.1 sf_b136
            have HC := HCn
            have sf_b136 := sf_b136n
            have Z0 := Nat.le_trans Z0 (Keep.of_wr W142).1
            have O := O.wr W142 g_b136
            have hk := Nat.le_trans hk (Keep.of_wr W142).1
            have SC := SC.wr W142
            have SK0 := SK0.wr W142
            have SK1 := SK1.wr W142
            have SK2 := SK2.wr W142
            have EB := EB.wr W142
            have VB := VB.other W142 (Or.inl ne_b_b136)
            have DB := DB.other W142 (Or.inl ne_b_b136)
            have AB := AB.other W142 ne_t_b136
            have V_b136 : Arv Z h142 b136 k136 .char (9 : Int32) [(.int c137), (.int c139), (.int c141), (.int (0 : Int32)), (.int (0 : Int32)), (.int (0 : Int32)), (.int (0 : Int32)), (.int (0 : Int32)), (.int (0 : Int32))] (.int (0 : Int32)) := V_b136'
            refine goW st142 ?_
            refine goW (fun _ k => by refine XS.iload X142.here hx rfl (hb hby at_240) rfl ?_; exact k) ?_
            refine goW (fun _ k => by refine XS.iconst X142.here hx rfl (hb hby at_242) ?_; exact k) ?_
            show OwnEndW _ _ _ _ _ _ _ (T142.setTop (mkF m 243 (fL23 p0 p1 p2 p3 x1 x2 b x3 x4 x6_s0 (9 : Int32) b136) [(.int (3 : Int32)), (.int (9 : Int32))]))
            refine goW (fun _ k => by refine XS.icmpNo X142.here hx rfl (hb hby at_243) rfl (tlt (by decide)).2.2.2 ?_; exact k) ?_
            refine goW (fun _ k => by refine XS.aload X142.here hx rfl (hb hby at_246) rfl rfl ?_; exact k) ?_
            refine goW (fun _ k => by refine XS.iconst X142.here hx rfl (hb hby at_248) ?_; exact k) ?_
            refine goW (fun _ k => by refine XS.aload X142.here hx rfl (hb hby at_249) rfl rfl ?_; exact k) ?_
            show OwnEndW _ _ _ _ _ _ _ (T142.setTop (mkF m 251 (fL23 p0 p1 p2 p3 x1 x2 b x3 x4 x6_s0 (9 : Int32) b136) [(.ref b), (.int (3 : Int32)), (.ref b136)]))
            refine goW (fun _ k => by refine XS.iconst X142.here hx rfl (hb hby at_251) ?_; exact k) ?_
            refine goW (fun _ k => by refine XS.iload X142.here hx rfl (hb hby at_252) rfl ?_; exact k) ?_
            refine goW (fun _ k => by refine XS.iload X142.here hx rfl (hb hby at_254) rfl ?_; exact k) ?_
            refine goW (fun _ k => by refine XS.iload X142.here hx rfl (hb hby at_256) rfl ?_; exact k) ?_
            show OwnEndW _ _ _ _ _ _ _ (T142.setTop (mkF m 258 (fL23 p0 p1 p2 p3 x1 x2 b x3 x4 x6_s0 (9 : Int32) b136) [(.int x6_s0), (.int x3), (.int x4), (.int (3 : Int32)), (.ref b), (.int (3 : Int32)), (.ref b136)]))
            obtain ⟨_, T143, L143, X143, hQ143, st143⟩ := callStat X142 hx hZ hown (hw _ (List.mem_of_getElem? (i := 23) rfl)) (hw _ (List.mem_of_getElem? (i := 24) rfl)) (hw _ (List.mem_of_getElem? (i := 25) rfl)) (hw _ (List.mem_of_getElem? (i := 26) rfl)) (by decide) (rm_pick l Z a0 hw [] b x4 x3 x6_s0 3 t kb bs cs fm h142 n0 (by decide) hc7 hbs lbs EB VB DB AB O SC0 c1 SF0 rf) (W := 2) (by decide) (by decide) e142 (g := (mkF m 258 (fL23 p0 p1 p2 p3 x1 x2 b x3 x4 x6_s0 (9 : Int32) b136) [(.int x6_s0), (.int x3), (.int x4), (.int (3 : Int32)), (.ref b), (.int (3 : Int32)), (.ref b136)])) rfl (by rw [hml]; rfl) (argsL := [(.ref b), (.int (3 : Int32)), (.int x4), (.int x3), (.int x6_s0)]) (rest := [(.int (3 : Int32)), (.ref b136)]) rfl (lenOf pd__Ljava_lang_String_IICZ_C rfl) rfl (by show 2 * 0 + _ ≤ _; exact Nat.le_of_eq rfl) (hb hby at_258) (by decide) (by decide)
            obtain ⟨c143, rfl, hr143, Nq143, eq143⟩ := hQ143
            have N143 := Fr.app N142 Nq143
            refine goW st143 ?_
            show OwnEndW _ _ _ _ _ _ _ (T143.setTop (mkF m 261 (fL23 p0 p1 p2 p3 x1 x2 b x3 x4 x6_s0 (9 : Int32) b136) [(.int c143), (.int (3 : Int32)), (.ref b136)]))
            obtain ⟨T144, h144, X144, e144, W144, V_b136', st144⟩ := stCv X143 hx hZ eq143 V_b136 (j := (3 : Int32)) (i := 3) (by decide) (by decide) (by decide) (Nat.le_of_ble_eq_true rfl) (g := (mkF m 261 (fL23 p0 p1 p2 p3 x1 x2 b x3 x4 x6_s0 (9 : Int32) b136) [(.int c143), (.int (3 : Int32)), (.ref b136)])) rfl rfl (hb hby at_261)
            have N144 := Fr.snoc X144 N143 g_b136
            rw [own_narc hr143] at V_b136'
            have HCn := HC.trans (CHr.wr W144 sf_b136 HC.1)
            have sf_b136n := Safe.wr W144 sf_b136 HC.1 sf_b136
            have HC := HCn
            have sf_b136 := sf_b136n
            have Z0 := Nat.le_trans Z0 (Keep.of_wr W144).1
            have O := O.wr W144 g_b136
            have hk := Nat.le_trans hk (Keep.of_wr W144).1
            have SC := SC.wr W144
            have SK0 := SK0.wr W144
            have SK1 := SK1.wr W144
            have SK2 := SK2.wr W144
            have EB := EB.wr W144
            have VB := VB.other W144 (Or.inl ne_b_b136)
            have DB := DB.other W144 (Or.inl ne_b_b136)
            have AB := AB.other W144 ne_t_b136
            have V_b136 : Arv Z h144 b136 k136 .char (9 : Int32) [(.int c137), (.int c139), (.int c141), (.int c143), (.int (0 : Int32)), (.int (0 : Int32)), (.int (0 : Int32)), (.int (0 : Int32)), (.int (0 : Int32))] (.int (0 : Int32)) := V_b136'
            refine goW st144 ?_
            refine goW (fun _ k => by refine XS.iload X144.here hx rfl (hb hby at_262) rfl ?_; exact k) ?_
            refine goW (fun _ k => by refine XS.iconst X144.here hx rfl (hb hby at_264) ?_; exact k) ?_
            show OwnEndW _ _ _ _ _ _ _ (T144.setTop (mkF m 265 (fL23 p0 p1 p2 p3 x1 x2 b x3 x4 x6_s0 (9 : Int32) b136) [(.int (4 : Int32)), (.int (9 : Int32))]))
            refine goW (fun _ k => by refine XS.icmpNo X144.here hx rfl (hb hby at_265) rfl (tlt (by decide)).2.2.2 ?_; exact k) ?_
            refine goW (fun _ k => by refine XS.aload X144.here hx rfl (hb hby at_268) rfl rfl ?_; exact k) ?_
            refine goW (fun _ k => by refine XS.iconst X144.here hx rfl (hb hby at_270) ?_; exact k) ?_
            refine goW (fun _ k => by refine XS.aload X144.here hx rfl (hb hby at_271) rfl rfl ?_; exact k) ?_
            show OwnEndW _ _ _ _ _ _ _ (T144.setTop (mkF m 273 (fL23 p0 p1 p2 p3 x1 x2 b x3 x4 x6_s0 (9 : Int32) b136) [(.ref b), (.int (4 : Int32)), (.ref b136)]))
            refine goW (fun _ k => by refine XS.iconst X144.here hx rfl (hb hby at_273) ?_; exact k) ?_
            refine goW (fun _ k => by refine XS.iload X144.here hx rfl (hb hby at_274) rfl ?_; exact k) ?_
            refine goW (fun _ k => by refine XS.iload X144.here hx rfl (hb hby at_276) rfl ?_; exact k) ?_
            refine goW (fun _ k => by refine XS.iload X144.here hx rfl (hb hby at_278) rfl ?_; exact k) ?_
            show OwnEndW _ _ _ _ _ _ _ (T144.setTop (mkF m 280 (fL23 p0 p1 p2 p3 x1 x2 b x3 x4 x6_s0 (9 : Int32) b136) [(.int x6_s0), (.int x3), (.int x4), (.int (4 : Int32)), (.ref b), (.int (4 : Int32)), (.ref b136)]))
            obtain ⟨_, T145, L145, X145, hQ145, st145⟩ := callStat X144 hx hZ hown (hw _ (List.mem_of_getElem? (i := 23) rfl)) (hw _ (List.mem_of_getElem? (i := 24) rfl)) (hw _ (List.mem_of_getElem? (i := 25) rfl)) (hw _ (List.mem_of_getElem? (i := 26) rfl)) (by decide) (rm_pick l Z a0 hw [] b x4 x3 x6_s0 4 t kb bs cs fm h144 n0 (by decide) hc7 hbs lbs EB VB DB AB O SC0 c1 SF0 rf) (W := 2) (by decide) (by decide) e144 (g := (mkF m 280 (fL23 p0 p1 p2 p3 x1 x2 b x3 x4 x6_s0 (9 : Int32) b136) [(.int x6_s0), (.int x3), (.int x4), (.int (4 : Int32)), (.ref b), (.int (4 : Int32)), (.ref b136)])) rfl (by rw [hml]; rfl) (argsL := [(.ref b), (.int (4 : Int32)), (.int x4), (.int x3), (.int x6_s0)]) (rest := [(.int (4 : Int32)), (.ref b136)]) rfl (lenOf pd__Ljava_lang_String_IICZ_C rfl) rfl (by show 2 * 0 + _ ≤ _; exact Nat.le_of_eq rfl) (hb hby at_280) (by decide) (by decide)
            obtain ⟨c145, rfl, hr145, Nq145, eq145⟩ := hQ145
            have N145 := Fr.app N144 Nq145
            refine goW st145 ?_
            show OwnEndW _ _ _ _ _ _ _ (T145.setTop (mkF m 283 (fL23 p0 p1 p2 p3 x1 x2 b x3 x4 x6_s0 (9 : Int32) b136) [(.int c145), (.int (4 : Int32)), (.ref b136)]))
            obtain ⟨T146, h146, X146, e146, W146, V_b136', st146⟩ := stCv X145 hx hZ eq145 V_b136 (j := (4 : Int32)) (i := 4) (by decide) (by decide) (by decide) (Nat.le_of_ble_eq_true rfl) (g := (mkF m 283 (fL23 p0 p1 p2 p3 x1 x2 b x3 x4 x6_s0 (9 : Int32) b136) [(.int c145), (.int (4 : Int32)), (.ref b136)])) rfl rfl (hb hby at_283)
            have N146 := Fr.snoc X146 N145 g_b136
            rw [own_narc hr145] at V_b136'
            have HCn := HC.trans (CHr.wr W146 sf_b136 HC.1)
            have sf_b136n := Safe.wr W146 sf_b136 HC.1 sf_b136
            have HC := HCn
            have sf_b136 := sf_b136n
            have Z0 := Nat.le_trans Z0 (Keep.of_wr W146).1
            have O := O.wr W146 g_b136
            have hk := Nat.le_trans hk (Keep.of_wr W146).1
            have SC := SC.wr W146
            have SK0 := SK0.wr W146
            have SK1 := SK1.wr W146
            have SK2 := SK2.wr W146
            have EB := EB.wr W146
            have VB := VB.other W146 (Or.inl ne_b_b136)
            have DB := DB.other W146 (Or.inl ne_b_b136)
            have AB := AB.other W146 ne_t_b136
            have V_b136 : Arv Z h146 b136 k136 .char (9 : Int32) [(.int c137), (.int c139), (.int c141), (.int c143), (.int c145), (.int (0 : Int32)), (.int (0 : Int32)), (.int (0 : Int32)), (.int (0 : Int32))] (.int (0 : Int32)) := V_b136'
            refine goW st146 ?_
            refine goW (fun _ k => by refine XS.iload X146.here hx rfl (hb hby at_284) rfl ?_; exact k) ?_
            refine goW (fun _ k => by refine XS.iconst X146.here hx rfl (hb hby at_286) ?_; exact k) ?_
            show OwnEndW _ _ _ _ _ _ _ (T146.setTop (mkF m 287 (fL23 p0 p1 p2 p3 x1 x2 b x3 x4 x6_s0 (9 : Int32) b136) [(.int (5 : Int32)), (.int (9 : Int32))]))
            refine goW (fun _ k => by refine XS.icmpNo X146.here hx rfl (hb hby at_287) rfl (tlt (by decide)).2.2.2 ?_; exact k) ?_
            refine goW (fun _ k => by refine XS.aload X146.here hx rfl (hb hby at_290) rfl rfl ?_; exact k) ?_
            refine goW (fun _ k => by refine XS.iconst X146.here hx rfl (hb hby at_292) ?_; exact k) ?_
            refine goW (fun _ k => by refine XS.aload X146.here hx rfl (hb hby at_293) rfl rfl ?_; exact k) ?_
            show OwnEndW _ _ _ _ _ _ _ (T146.setTop (mkF m 295 (fL23 p0 p1 p2 p3 x1 x2 b x3 x4 x6_s0 (9 : Int32) b136) [(.ref b), (.int (5 : Int32)), (.ref b136)]))
            refine goW (fun _ k => by refine XS.iconst X146.here hx rfl (hb hby at_295) ?_; exact k) ?_
            refine goW (fun _ k => by refine XS.iload X146.here hx rfl (hb hby at_296) rfl ?_; exact k) ?_
            refine goW (fun _ k => by refine XS.iload X146.here hx rfl (hb hby at_298) rfl ?_; exact k) ?_
            refine goW (fun _ k => by refine XS.iload X146.here hx rfl (hb hby at_300) rfl ?_; exact k) ?_
            show OwnEndW _ _ _ _ _ _ _ (T146.setTop (mkF m 302 (fL23 p0 p1 p2 p3 x1 x2 b x3 x4 x6_s0 (9 : Int32) b136) [(.int x6_s0), (.int x3), (.int x4), (.int (5 : Int32)), (.ref b), (.int (5 : Int32)), (.ref b136)]))
            obtain ⟨_, T147, L147, X147, hQ147, st147⟩ := callStat X146 hx hZ hown (hw _ (List.mem_of_getElem? (i := 23) rfl)) (hw _ (List.mem_of_getElem? (i := 24) rfl)) (hw _ (List.mem_of_getElem? (i := 25) rfl)) (hw _ (List.mem_of_getElem? (i := 26) rfl)) (by decide) (rm_pick l Z a0 hw [] b x4 x3 x6_s0 5 t kb bs cs fm h146 n0 (by decide) hc7 hbs lbs EB VB DB AB O SC0 c1 SF0 rf) (W := 2) (by decide) (by decide) e146 (g := (mkF m 302 (fL23 p0 p1 p2 p3 x1 x2 b x3 x4 x6_s0 (9 : Int32) b136) [(.int x6_s0), (.int x3), (.int x4), (.int (5 : Int32)), (.ref b), (.int (5 : Int32)), (.ref b136)])) rfl (by rw [hml]; rfl) (argsL := [(.ref b), (.int (5 : Int32)), (.int x4), (.int x3), (.int x6_s0)]) (rest := [(.int (5 : Int32)), (.ref b136)]) rfl (lenOf pd__Ljava_lang_String_IICZ_C rfl) rfl (by show 2 * 0 + _ ≤ _; exact Nat.le_of_eq rfl) (hb hby at_302) (by decide) (by decide)
            obtain ⟨c147, rfl, hr147, Nq147, eq147⟩ := hQ147
            have N147 := Fr.app N146 Nq147
            refine goW st147 ?_
            show OwnEndW _ _ _ _ _ _ _ (T147.setTop (mkF m 305 (fL23 p0 p1 p2 p3 x1 x2 b x3 x4 x6_s0 (9 : Int32) b136) [(.int c147), (.int (5 : Int32)), (.ref b136)]))
            obtain ⟨T148, h148, X148, e148, W148, V_b136', st148⟩ := stCv X147 hx hZ eq147 V_b136 (j := (5 : Int32)) (i := 5) (by decide) (by decide) (by decide) (Nat.le_of_ble_eq_true rfl) (g := (mkF m 305 (fL23 p0 p1 p2 p3 x1 x2 b x3 x4 x6_s0 (9 : Int32) b136) [(.int c147), (.int (5 : Int32)), (.ref b136)])) rfl rfl (hb hby at_305)
            have N148 := Fr.snoc X148 N147 g_b136
            rw [own_narc hr147] at V_b136'
            have HCn := HC.trans (CHr.wr W148 sf_b136 HC.1)
            have sf_b136n := Safe.wr W148 sf_b136 HC.1 sf_b136
            have HC := HCn
            have sf_b136 := sf_b136n
            have Z0 := Nat.le_trans Z0 (Keep.of_wr W148).1
            have O := O.wr W148 g_b136
            have hk := Nat.le_trans hk (Keep.of_wr W148).1
            have SC := SC.wr W148
            have SK0 := SK0.wr W148
            have SK1 := SK1.wr W148
            have SK2 := SK2.wr W148
            have EB := EB.wr W148
            have VB := VB.other W148 (Or.inl ne_b_b136)
            have DB := DB.other W148 (Or.inl ne_b_b136)
            have AB := AB.other W148 ne_t_b136
            have V_b136 : Arv Z h148 b136 k136 .char (9 : Int32) [(.int c137), (.int c139), (.int c141), (.int c143), (.int c145), (.int c147), (.int (0 : Int32)), (.int (0 : Int32)), (.int (0 : Int32))] (.int (0 : Int32)) := V_b136'
            refine goW st148 ?_
            refine goW (fun _ k => by refine XS.iload X148.here hx rfl (hb hby at_306) rfl ?_; exact k) ?_
            refine goW (fun _ k => by refine XS.bipush X148.here hx rfl (hb hby at_308) ?_; exact k) ?_
            show OwnEndW _ _ _ _ _ _ _ (T148.setTop (mkF m 310 (fL23 p0 p1 p2 p3 x1 x2 b x3 x4 x6_s0 (9 : Int32) b136) [(.int (6 : Int32)), (.int (9 : Int32))]))
            refine goW (fun _ k => by refine XS.icmpNo X148.here hx rfl (hb hby at_310) rfl (tlt (by decide)).2.2.2 ?_; exact k) ?_
            refine goW (fun _ k => by refine XS.aload X148.here hx rfl (hb hby at_313) rfl rfl ?_; exact k) ?_
            refine goW (fun _ k => by refine XS.bipush X148.here hx rfl (hb hby at_315) ?_; exact k) ?_
            refine goW (fun _ k => by refine XS.aload X148.here hx rfl (hb hby at_317) rfl rfl ?_; exact k) ?_
            show OwnEndW _ _ _ _ _ _ _ (T148.setTop (mkF m 319 (fL23 p0 p1 p2 p3 x1 x2 b x3 x4 x6_s0 (9 : Int32) b136) [(.ref b), (.int (6 : Int32)), (.ref b136)]))
            refine goW (fun _ k => by refine XS.bipush X148.here hx rfl (hb hby at_319) ?_; exact k) ?_
            refine goW (fun _ k => by refine XS.iload X148.here hx rfl (hb hby at_321) rfl ?_; exact k) ?_
            refine goW (fun _ k => by refine XS.iload X148.here hx rfl (hb hby at_323) rfl ?_; exact k) ?_
            refine goW (fun _ k => by refine XS.iload X148.here hx rfl (hb hby at_325) rfl ?_; exact k) ?_
            show OwnEndW _ _ _ _ _ _ _ (T148.setTop (mkF m 327 (fL23 p0 p1 p2 p3 x1 x2 b x3 x4 x6_s0 (9 : Int32) b136) [(.int x6_s0), (.int x3), (.int x4), (.int (6 : Int32)), (.ref b), (.int (6 : Int32)), (.ref b136)]))
            obtain ⟨_, T149, L149, X149, hQ149, st149⟩ := callStat X148 hx hZ hown (hw _ (List.mem_of_getElem? (i := 23) rfl)) (hw _ (List.mem_of_getElem? (i := 24) rfl)) (hw _ (List.mem_of_getElem? (i := 25) rfl)) (hw _ (List.mem_of_getElem? (i := 26) rfl)) (by decide) (rm_pick l Z a0 hw [] b x4 x3 x6_s0 6 t kb bs cs fm h148 n0 (by decide) hc7 hbs lbs EB VB DB AB O SC0 c1 SF0 rf) (W := 2) (by decide) (by decide) e148 (g := (mkF m 327 (fL23 p0 p1 p2 p3 x1 x2 b x3 x4 x6_s0 (9 : Int32) b136) [(.int x6_s0), (.int x3), (.int x4), (.int (6 : Int32)), (.ref b), (.int (6 : Int32)), (.ref b136)])) rfl (by rw [hml]; rfl) (argsL := [(.ref b), (.int (6 : Int32)), (.int x4), (.int x3), (.int x6_s0)]) (rest := [(.int (6 : Int32)), (.ref b136)]) rfl (lenOf pd__Ljava_lang_String_IICZ_C rfl) rfl (by show 2 * 0 + _ ≤ _; exact Nat.le_of_eq rfl) (hb hby at_327) (by decide) (by decide)
            obtain ⟨c149, rfl, hr149, Nq149, eq149⟩ := hQ149
            have N149 := Fr.app N148 Nq149
            refine goW st149 ?_
            show OwnEndW _ _ _ _ _ _ _ (T149.setTop (mkF m 330 (fL23 p0 p1 p2 p3 x1 x2 b x3 x4 x6_s0 (9 : Int32) b136) [(.int c149), (.int (6 : Int32)), (.ref b136)]))
            obtain ⟨T150, h150, X150, e150, W150, V_b136', st150⟩ := stCv X149 hx hZ eq149 V_b136 (j := (6 : Int32)) (i := 6) (by decide) (by decide) (by decide) (Nat.le_of_ble_eq_true rfl) (g := (mkF m 330 (fL23 p0 p1 p2 p3 x1 x2 b x3 x4 x6_s0 (9 : Int32) b136) [(.int c149), (.int (6 : Int32)), (.ref b136)])) rfl rfl (hb hby at_330)
            have N150 := Fr.snoc X150 N149 g_b136
            rw [own_narc hr149] at V_b136'
            have HCn := HC.trans (CHr.wr W150 sf_b136 HC.1)
            have sf_b136n := Safe.wr W150 sf_b136 HC.1 sf_b136
            have HC := HCn
            have sf_b136 := sf_b136n
            have Z0 := Nat.le_trans Z0 (Keep.of_wr W150).1
            have O := O.wr W150 g_b136
            have hk := Nat.le_trans hk (Keep.of_wr W150).1
            have SC := SC.wr W150
            have SK0 := SK0.wr W150
            have SK1 := SK1.wr W150
            have SK2 := SK2.wr W150
            have EB := EB.wr W150
            have VB := VB.other W150 (Or.inl ne_b_b136)
            have DB := DB.other W150 (Or.inl ne_b_b136)
            have AB := AB.other W150 ne_t_b136
            have V_b136 : Arv Z h150 b136 k136 .char (9 : Int32) [(.int c137), (.int c139), (.int c141), (.int c143), (.int c145), (.int c147), (.int c149), (.int (0 : Int32)), (.int (0 : Int32))] (.int (0 : Int32)) := V_b136'
            refine goW st150 ?_
            refine goW (fun _ k => by refine XS.iload X150.here hx rfl (hb hby at_331) rfl ?_; exact k) ?_
            refine goW (fun _ k => by refine XS.bipush X150.here hx rfl (hb hby at_333) ?_; exact k) ?_
            show OwnEndW _ _ _ _ _ _ _ (T150.setTop (mkF m 335 (fL23 p0 p1 p2 p3 x1 x2 b x3 x4 x6_s0 (9 : Int32) b136) [(.int (7 : Int32)), (.int (9 : Int32))]))
            refine goW (fun _ k => by refine XS.icmpNo X150.here hx rfl (hb hby at_335) rfl (tlt (by decide)).2.2.2 ?_; exact k) ?_
            refine goW (fun _ k => by refine XS.aload X150.here hx rfl (hb hby at_338) rfl rfl ?_; exact k) ?_
            refine goW (fun _ k => by refine XS.bipush X150.here hx rfl (hb hby at_340) ?_; exact k) ?_
            refine goW (fun _ k => by refine XS.aload X150.here hx rfl (hb hby at_342) rfl rfl ?_; exact k) ?_
            show OwnEndW _ _ _ _ _ _ _ (T150.setTop (mkF m 344 (fL23 p0 p1 p2 p3 x1 x2 b x3 x4 x6_s0 (9 : Int32) b136) [(.ref b), (.int (7 : Int32)), (.ref b136)]))
            refine goW (fun _ k => by refine XS.bipush X150.here hx rfl (hb hby at_344) ?_; exact k) ?_
            refine goW (fun _ k => by refine XS.iload X150.here hx rfl (hb hby at_346) rfl ?_; exact k) ?_
            refine goW (fun _ k => by refine XS.iload X150.here hx rfl (hb hby at_348) rfl ?_; exact k) ?_
            refine goW (fun _ k => by refine XS.iload X150.here hx rfl (hb hby at_350) rfl ?_; exact k) ?_
            show OwnEndW _ _ _ _ _ _ _ (T150.setTop (mkF m 352 (fL23 p0 p1 p2 p3 x1 x2 b x3 x4 x6_s0 (9 : Int32) b136) [(.int x6_s0), (.int x3), (.int x4), (.int (7 : Int32)), (.ref b), (.int (7 : Int32)), (.ref b136)]))
            obtain ⟨_, T151, L151, X151, hQ151, st151⟩ := callStat X150 hx hZ hown (hw _ (List.mem_of_getElem? (i := 23) rfl)) (hw _ (List.mem_of_getElem? (i := 24) rfl)) (hw _ (List.mem_of_getElem? (i := 25) rfl)) (hw _ (List.mem_of_getElem? (i := 26) rfl)) (by decide) (rm_pick l Z a0 hw [] b x4 x3 x6_s0 7 t kb bs cs fm h150 n0 (by decide) hc7 hbs lbs EB VB DB AB O SC0 c1 SF0 rf) (W := 2) (by decide) (by decide) e150 (g := (mkF m 352 (fL23 p0 p1 p2 p3 x1 x2 b x3 x4 x6_s0 (9 : Int32) b136) [(.int x6_s0), (.int x3), (.int x4), (.int (7 : Int32)), (.ref b), (.int (7 : Int32)), (.ref b136)])) rfl (by rw [hml]; rfl) (argsL := [(.ref b), (.int (7 : Int32)), (.int x4), (.int x3), (.int x6_s0)]) (rest := [(.int (7 : Int32)), (.ref b136)]) rfl (lenOf pd__Ljava_lang_String_IICZ_C rfl) rfl (by show 2 * 0 + _ ≤ _; exact Nat.le_of_eq rfl) (hb hby at_352) (by decide) (by decide)
            obtain ⟨c151, rfl, hr151, Nq151, eq151⟩ := hQ151
            have N151 := Fr.app N150 Nq151
            refine goW st151 ?_
            show OwnEndW _ _ _ _ _ _ _ (T151.setTop (mkF m 355 (fL23 p0 p1 p2 p3 x1 x2 b x3 x4 x6_s0 (9 : Int32) b136) [(.int c151), (.int (7 : Int32)), (.ref b136)]))
            obtain ⟨T152, h152, X152, e152, W152, V_b136', st152⟩ := stCv X151 hx hZ eq151 V_b136 (j := (7 : Int32)) (i := 7) (by decide) (by decide) (by decide) (Nat.le_of_ble_eq_true rfl) (g := (mkF m 355 (fL23 p0 p1 p2 p3 x1 x2 b x3 x4 x6_s0 (9 : Int32) b136) [(.int c151), (.int (7 : Int32)), (.ref b136)])) rfl rfl (hb hby at_355)
            have N152 := Fr.snoc X152 N151 g_b136
            rw [own_narc hr151] at V_b136'
            have HCn := HC.trans (CHr.wr W152 sf_b136 HC.1)
            have sf_b136n := Safe.wr W152 sf_b136 HC.1 sf_b136
            have HC := HCn
            have sf_b136 := sf_b136n
            have Z0 := Nat.le_trans Z0 (Keep.of_wr W152).1
            have O := O.wr W152 g_b136
            have hk := Nat.le_trans hk (Keep.of_wr W152).1
            have SC := SC.wr W152
            have SK0 := SK0.wr W152
            have SK1 := SK1.wr W152
            have SK2 := SK2.wr W152
            have EB := EB.wr W152
            have VB := VB.other W152 (Or.inl ne_b_b136)
            have DB := DB.other W152 (Or.inl ne_b_b136)
            have AB := AB.other W152 ne_t_b136
            have V_b136 : Arv Z h152 b136 k136 .char (9 : Int32) [(.int c137), (.int c139), (.int c141), (.int c143), (.int c145), (.int c147), (.int c149), (.int c151), (.int (0 : Int32))] (.int (0 : Int32)) := V_b136'
            refine goW st152 ?_
            refine goW (fun _ k => by refine XS.iload X152.here hx rfl (hb hby at_356) rfl ?_; exact k) ?_
            refine goW (fun _ k => by refine XS.bipush X152.here hx rfl (hb hby at_358) ?_; exact k) ?_
            show OwnEndW _ _ _ _ _ _ _ (T152.setTop (mkF m 360 (fL23 p0 p1 p2 p3 x1 x2 b x3 x4 x6_s0 (9 : Int32) b136) [(.int (8 : Int32)), (.int (9 : Int32))]))
            refine goW (fun _ k => by refine XS.icmpNo X152.here hx rfl (hb hby at_360) rfl (tlt (by decide)).2.2.2 ?_; exact k) ?_
            refine goW (fun _ k => by refine XS.aload X152.here hx rfl (hb hby at_363) rfl rfl ?_; exact k) ?_
            refine goW (fun _ k => by refine XS.bipush X152.here hx rfl (hb hby at_365) ?_; exact k) ?_
            refine goW (fun _ k => by refine XS.aload X152.here hx rfl (hb hby at_367) rfl rfl ?_; exact k) ?_
            show OwnEndW _ _ _ _ _ _ _ (T152.setTop (mkF m 369 (fL23 p0 p1 p2 p3 x1 x2 b x3 x4 x6_s0 (9 : Int32) b136) [(.ref b), (.int (8 : Int32)), (.ref b136)]))
            refine goW (fun _ k => by refine XS.bipush X152.here hx rfl (hb hby at_369) ?_; exact k) ?_
            refine goW (fun _ k => by refine XS.iload X152.here hx rfl (hb hby at_371) rfl ?_; exact k) ?_
            refine goW (fun _ k => by refine XS.iload X152.here hx rfl (hb hby at_373) rfl ?_; exact k) ?_
            refine goW (fun _ k => by refine XS.iload X152.here hx rfl (hb hby at_375) rfl ?_; exact k) ?_
            show OwnEndW _ _ _ _ _ _ _ (T152.setTop (mkF m 377 (fL23 p0 p1 p2 p3 x1 x2 b x3 x4 x6_s0 (9 : Int32) b136) [(.int x6_s0), (.int x3), (.int x4), (.int (8 : Int32)), (.ref b), (.int (8 : Int32)), (.ref b136)]))
            obtain ⟨_, T153, L153, X153, hQ153, st153⟩ := callStat X152 hx hZ hown (hw _ (List.mem_of_getElem? (i := 23) rfl)) (hw _ (List.mem_of_getElem? (i := 24) rfl)) (hw _ (List.mem_of_getElem? (i := 25) rfl)) (hw _ (List.mem_of_getElem? (i := 26) rfl)) (by decide) (rm_pick l Z a0 hw [] b x4 x3 x6_s0 8 t kb bs cs fm h152 n0 (by decide) hc7 hbs lbs EB VB DB AB O SC0 c1 SF0 rf) (W := 2) (by decide) (by decide) e152 (g := (mkF m 377 (fL23 p0 p1 p2 p3 x1 x2 b x3 x4 x6_s0 (9 : Int32) b136) [(.int x6_s0), (.int x3), (.int x4), (.int (8 : Int32)), (.ref b), (.int (8 : Int32)), (.ref b136)])) rfl (by rw [hml]; rfl) (argsL := [(.ref b), (.int (8 : Int32)), (.int x4), (.int x3), (.int x6_s0)]) (rest := [(.int (8 : Int32)), (.ref b136)]) rfl (lenOf pd__Ljava_lang_String_IICZ_C rfl) rfl (by show 2 * 0 + _ ≤ _; exact Nat.le_of_eq rfl) (hb hby at_377) (by decide) (by decide)
            obtain ⟨c153, rfl, hr153, Nq153, eq153⟩ := hQ153
            have N153 := Fr.app N152 Nq153
            refine goW st153 ?_
            show OwnEndW _ _ _ _ _ _ _ (T153.setTop (mkF m 380 (fL23 p0 p1 p2 p3 x1 x2 b x3 x4 x6_s0 (9 : Int32) b136) [(.int c153), (.int (8 : Int32)), (.ref b136)]))
            obtain ⟨T154, h154, X154, e154, W154, V_b136', st154⟩ := stCv X153 hx hZ eq153 V_b136 (j := (8 : Int32)) (i := 8) (by decide) (by decide) (by decide) (Nat.le_of_ble_eq_true rfl) (g := (mkF m 380 (fL23 p0 p1 p2 p3 x1 x2 b x3 x4 x6_s0 (9 : Int32) b136) [(.int c153), (.int (8 : Int32)), (.ref b136)])) rfl rfl (hb hby at_380)
            have N154 := Fr.snoc X154 N153 g_b136
            rw [own_narc hr153] at V_b136'
            have HCn := HC.trans (CHr.wr W154 sf_b136 HC.1)
            have sf_b136n := Safe.wr W154 sf_b136 HC.1 sf_b136
            have HC := HCn
            have sf_b136 := sf_b136n
            have Z0 := Nat.le_trans Z0 (Keep.of_wr W154).1
            have O := O.wr W154 g_b136
            have hk := Nat.le_trans hk (Keep.of_wr W154).1
            have SC := SC.wr W154
            have SK0 := SK0.wr W154
            have SK1 := SK1.wr W154
            have SK2 := SK2.wr W154
            have EB := EB.wr W154
            have VB := VB.other W154 (Or.inl ne_b_b136)
            have DB := DB.other W154 (Or.inl ne_b_b136)
            have AB := AB.other W154 ne_t_b136
            have V_b136 : Arv Z h154 b136 k136 .char (9 : Int32) [(.int c137), (.int c139), (.int c141), (.int c143), (.int c145), (.int c147), (.int c149), (.int c151), (.int c153)] (.int (0 : Int32)) := V_b136'
            refine goW st154 ?_
            refine goW (fun _ k => by refine XS.iload X154.here hx rfl (hb hby at_381) rfl ?_; exact k) ?_
            refine goW (fun _ k => by refine XS.bipush X154.here hx rfl (hb hby at_383) ?_; exact k) ?_
            show OwnEndW _ _ _ _ _ _ _ (T154.setTop (mkF m 385 (fL23 p0 p1 p2 p3 x1 x2 b x3 x4 x6_s0 (9 : Int32) b136) [(.int (9 : Int32)), (.int (9 : Int32))]))
            refine goW (fun _ k => by refine XS.icmpYes X154.here hx rfl (pc0 := 385) (pc' := 406) rfl (hb hby at_385) rfl (flt (by decide)).2.2.2 (by decide) (by decide) ?_; exact k) ?_
            show OwnEndW _ _ _ _ _ _ _ (T154.setTop (mkF m 406 (fL23 p0 p1 p2 p3 x1 x2 b x3 x4 x6_s0 (9 : Int32) b136) []))
            obtain ⟨T155, h155, X155, e155, E155, A155, D155, -, st155⟩ := newO X154 hx hZ hown (hw _ (List.mem_of_getElem? (i := 49) rfl)) (hw _ (List.mem_of_getElem? (i := 2) rfl)) (hw _ (List.mem_of_getElem? (i := 1) rfl)) e154 (g := (mkF m 406 (fL23 p0 p1 p2 p3 x1 x2 b x3 x4 x6_s0 (9 : Int32) b136) [])) rfl (hb hby at_406) (by decide) (by decide)
            obtain ⟨b155, g155⟩ : ∃ z, z = h154.size := ⟨_, rfl⟩
            rw [← g155] at A155 D155 st155
            have ne_b_b155 : b ≠ b155 := fun q => absurd EB.lt (by rw [q, g155]; exact Nat.lt_irrefl _)
            have ne_t_b155 : t ≠ b155 := fun q => absurd AB.lt (by rw [q, g155]; exact Nat.lt_irrefl _)
            have ne_b136_b155 : b136 ≠ b155 := fun q => absurd V_b136.lt (by rw [q, g155]; exact Nat.lt_irrefl _)
            have sf_b155 : Safe Z own_EL vm1 h154 b155 := Safe.new (Nat.le_of_eq g155.symm)
            have g_b155 : n0 ≤ b155 := Nat.le_trans Z0 (Nat.le_of_eq g155.symm)
            have sf_b136 := Safe.ext E155 HC.1 sf_b136
            have sf_b155 := Safe.ext E155 HC.1 sf_b155
            have HC := HC.trans (CHr.ext E155 HC.1)
            have Z0 := Nat.le_trans Z0 E155.1
            have O := O.ext E155
            have hk := Nat.le_trans hk E155.1
            have SC := SC.ext E155
            have SK0 := SK0.ext E155
            have SK1 := SK1.ext E155
            have SK2 := SK2.ext E155
            have EB := EB.ext E155
            have VB := VB.ext E155
            have DB := DB.ext E155
            have AB := AB.ext E155
            have V_b136 := V_b136.ext E155
            have F_value_b155 : Fld Z h155 b155 "java/lang/String" "value" "[B" .null := D155 (Or.inr (hw _ (List.mem_of_getElem? (i := 4) rfl))) (ty := (.array .byte)) (by decide)
            have F_coder_b155 : Fld Z h155 b155 "java/lang/String" "coder" "B" (.int (0 : Int32)) := D155 (Or.inr (hw _ (List.mem_of_getElem? (i := 5) rfl))) (ty := .byte) (by decide)
            have E_b155 := A155
            refine goW st155 ?_
            refine goW (fun _ k => by refine XS.dup X155.here hx rfl (hb hby at_409) rfl rfl ?_; exact k) ?_
            refine goW (fun _ k => by refine XS.aload X155.here hx rfl (hb hby at_410) rfl rfl ?_; exact k) ?_
            show OwnEndW _ _ _ _ _ _ _ (T155.setTop (mkF m 412 (fL23 p0 p1 p2 p3 x1 x2 b x3 x4 x6_s0 (9 : Int32) b136) [(.ref b136), (.ref b155), (.ref b155)]))
            have hp156 : ∀ c ∈ ([c137, c139, c141, c143, c145, c147, c149, c151, c153] : List Int32), ¬ c < 0 ∧ ¬ (255 : Int32) < c := by
              intro c hc
              simp only [List.mem_cons, List.not_mem_nil, or_false] at hc
              rcases hc with rfl | rfl | rfl | rfl | rfl | rfl | rfl | rfl | rfl
              · exact hr137
              · exact hr139
              · exact hr141
              · exact hr143
              · exact hr145
              · exact hr147
              · exact hr149
              · exact hr151
              · exact hr153
            obtain ⟨_, T156, L156, X156, hQ156, st156⟩ := callInitB X155 hx hZ hown rfl (hw _ (List.mem_of_getElem? (i := 50) rfl)) (hw _ (List.mem_of_getElem? (i := 51) rfl)) (hw _ (List.mem_of_getElem? (i := 52) rfl)) (by decide) (StrChars.Road.backV (W := 1) hZ (fun d hd => hw d ((by decide +kernel : ∀ d ∈ StrChars.Road.words, d ∈ tables_1) d hd)) (kI := 4) (hw _ (List.mem_of_getElem? (i := 2) rfl)) (cs := ([c137, c139, c141, c143, c145, c147, c149, c151, c153] : List Int32)) (bs := (([c137, c139, c141, c143, c145, c147, c149, c151, c153] : List Int32)).map (fun c => c.toInt8.toInt32)) (n := 9) g_b155 Z0 E_b155 F_value_b155 F_coder_b155 V_b136 SC c1 rfl rfl (by decide) (by decide) hp156 rfl (by decide) (by decide)) e155 (g := (mkF m 412 (fL23 p0 p1 p2 p3 x1 x2 b x3 x4 x6_s0 (9 : Int32) b136) [(.ref b136), (.ref b155), (.ref b155)])) rfl (by rw [hml]; rfl) (argsL := [(.ref b136)]) (rest := [(.ref b155)]) rfl (lenOf pd___C_V rfl) rfl (by show 2 * 0 + _ ≤ _; exact Nat.le_of_eq rfl) (hb hby at_412) (by decide) (by decide)
            obtain ⟨rfl, Nq156, K156, E_b155, F_coder_b155, t156, kb156, g_t156, sq156, nt156, F_value_b155, V_t156⟩ := hQ156
            have N156 := Fr.app N154 Nq156
            have HCn := HC.trans (CHr.keep K156 (sfS sf_b155 sf0) HC.1)
            have sf_b136n := Safe.keep K156 (sfS sf_b155 sf0) HC.1 sf_b136
            have sf_b155n := Safe.keep K156 (sfS sf_b155 sf0) HC.1 sf_b155
            have HC := HCn
            have sf_b136 := sf_b136n
            have sf_b155 := sf_b155n
            have Z0 := Nat.le_trans Z0 K156.1
            have O := O.keep K156 (allS g_b155 all0)
            have hk := Nat.le_trans hk K156.1
            have EB := EB.keep K156
            have VB := VB.keep K156 (ninS ne_b_b155 nin0)
            have DB := DB.keep K156 (ninS ne_b_b155 nin0)
            have AB := AB.keep K156 (ninS ne_t_b155 nin0)
            have V_b136 := V_b136.keep K156 (ninS ne_b136_b155 nin0)
            have SC := SC0.ext O.2
            have SK0 := M0.ext O.2
            have SK1 := M1.ext O.2
            have SK2 := M2.ext O.2
            refine goW st156 ?_
            refine goW (fun _ k => by refine XS.astore X156.here hx rfl (hb hby at_415) rfl rfl (l' := (fL22 p0 p1 p2 p3 x1 x2 b x3 x4 x6_s0 (9 : Int32) b155 b136)) rfl ?_; exact k) ?_
            exact J417 vm1 _ _ _ _ (9 : Int32) (.val (.ref b136)) b155 t156 kb156 ([c137, c139, c141, c143, c145, c147, c149, c151, c153] : List Int32) (One.val rfl) (up X156 (by decide) (by decide)) N156 rfl hS hk hZ hown HC O Z0 hp156 (Nat.le_of_ble_eq_true rfl) E_b155 F_value_b155 F_coder_b155 V_t156
          · rw [h10]
            show OwnEndW _ _ _ _ _ _ _ (T20.setTop (mkF m 169 (fL19 p0 p1 p2 p3 x1 x2 b x3 x4 x6_s0 (10 : Int32)) []))
            refine goW (fun _ k => by refine XS.iload X20.here hx rfl (hb hby at_169) rfl ?_; exact k) ?_
            show OwnEndW _ _ _ _ _ _ _ (T20.setTop (mkF m 171 (fL19 p0 p1 p2 p3 x1 x2 b x3 x4 x6_s0 (10 : Int32)) [(.int (10 : Int32))]))
            obtain ⟨T157, h157, k157, X157, e157, E157, A157, st157⟩ := newP X20 hx hZ (hw _ (List.mem_of_getElem? (i := 22) rfl)) e20 (g := (mkF m 171 (fL19 p0 p1 p2 p3 x1 x2 b x3 x4 x6_s0 (10 : Int32)) [(.int (10 : Int32))])) rfl (hb hby at_171) rfl (by decide) (cap := 10) (by decide) (by decide) (by decide) (by decide)
            obtain ⟨b157, g157⟩ : ∃ z, z = h1.size := ⟨_, rfl⟩
            rw [← g157] at A157 st157
            have ne_b_b157 : b ≠ b157 := fun q => absurd EB.lt (by rw [q, g157]; exact Nat.lt_irrefl _)
            have ne_t_b157 : t ≠ b157 := fun q => absurd AB.lt (by rw [q, g157]; exact Nat.lt_irrefl _)
            have sf_b157 : Safe Z own_EL vm1 h1 b157 := Safe.new (Nat.le_of_eq g157.symm)
            have g_b157 : n0 ≤ b157 := Nat.le_trans Z0 (Nat.le_of_eq g157.symm)
            have sf_b157 := Safe.ext E157 HC.1 sf_b157
            have HC := HC.trans (CHr.ext E157 HC.1)
            have Z0 := Nat.le_trans Z0 E157.1
            have O := O.ext E157
            have hk := Nat.le_trans hk E157.1
            have SC := SC.ext E157
            have SK0 := SK0.ext E157
            have SK1 := SK1.ext E157
            have SK2 := SK2.ext E157
            have EB := EB.ext E157
            have VB := VB.ext E157
            have DB := DB.ext E157
            have AB := AB.ext E157
            have V_b157 : Arv Z h157 b157 k157 .char (10 : Int32) [(.int (0 : Int32)), (.int (0 : Int32)), (.int (0 : Int32)), (.int (0 : Int32)), (.int (0 : Int32)), (.int (0 : Int32)), (.int (0 : Int32)), (.int (0 : Int32)), (.int (0 : Int32)), (.int (0 : Int32))] (.int (0 : Int32)) := (Arv.new A157 (by decide)).pad (pad_rep [] (.int (0 : Int32)) 10)
            refine goW st157 ?_
            refine goW (fun _ k => by refine XS.astore X157.here hx rfl (hb hby at_173) rfl rfl (l' := (fL23 p0 p1 p2 p3 x1 x2 b x3 x4 x6_s0 (10 : Int32) b157)) rfl ?_; exact k) ?_
            refine goW (fun _ k => by refine XS.iload X157.here hx rfl (hb hby at_175) rfl ?_; exact k) ?_
            show OwnEndW _ _ _ _ _ _ _ (T157.setTop (mkF m 177 (fL23 p0 p1 p2 p3 x1 x2 b x3 x4 x6_s0 (10 : Int32) b157) [(.int (10 : Int32))]))
            refine goW (fun _ k => by refine XS.ifNo X157.here hx rfl (hb hby at_177) rfl ((if0 _ _).trans (tlt (by decide)).2.2.2) ?_; exact k) ?_
            refine goW (fun _ k => by refine XS.aload X157.here hx rfl (hb hby at_180) rfl rfl ?_; exact k) ?_
            refine goW (fun _ k => by refine XS.iconst X157.here hx rfl (hb hby at_182) ?_; exact k) ?_
            refine goW (fun _ k => by refine XS.aload X157.here hx rfl (hb hby at_183) rfl rfl ?_; exact k) ?_
            show OwnEndW _ _ _ _ _ _ _ (T157.setTop (mkF m 185 (fL23 p0 p1 p2 p3 x1 x2 b x3 x4 x6_s0 (10 : Int32) b157) [(.ref b), (.int (0 : Int32)), (.ref b157)]))
            refine goW (fun _ k => by refine XS.iconst X157.here hx rfl (hb hby at_185) ?_; exact k) ?_
            refine goW (fun _ k => by refine XS.iload X157.here hx rfl (hb hby at_186) rfl ?_; exact k) ?_
            refine goW (fun _ k => by refine XS.iload X157.here hx rfl (hb hby at_188) rfl ?_; exact k) ?_
            refine goW (fun _ k => by refine XS.iload X157.here hx rfl (hb hby at_190) rfl ?_; exact k) ?_
            show OwnEndW _ _ _ _ _ _ _ (T157.setTop (mkF m 192 (fL23 p0 p1 p2 p3 x1 x2 b x3 x4 x6_s0 (10 : Int32) b157) [(.int x6_s0), (.int x3), (.int x4), (.int (0 : Int32)), (.ref b), (.int (0 : Int32)), (.ref b157)]))
            obtain ⟨_, T158, L158, X158, hQ158, st158⟩ := callStat X157 hx hZ hown (hw _ (List.mem_of_getElem? (i := 23) rfl)) (hw _ (List.mem_of_getElem? (i := 24) rfl)) (hw _ (List.mem_of_getElem? (i := 25) rfl)) (hw _ (List.mem_of_getElem? (i := 26) rfl)) (by decide) (rm_pick l Z a0 hw [] b x4 x3 x6_s0 0 t kb bs cs fm h157 n0 (by decide) hc7 hbs lbs EB VB DB AB O SC0 c1 SF0 rf) (W := 2) (by decide) (by decide) e157 (g := (mkF m 192 (fL23 p0 p1 p2 p3 x1 x2 b x3 x4 x6_s0 (10 : Int32) b157) [(.int x6_s0), (.int x3), (.int x4), (.int (0 : Int32)), (.ref b), (.int (0 : Int32)), (.ref b157)])) rfl (by rw [hml]; rfl) (argsL := [(.ref b), (.int (0 : Int32)), (.int x4), (.int x3), (.int x6_s0)]) (rest := [(.int (0 : Int32)), (.ref b157)]) rfl (lenOf pd__Ljava_lang_String_IICZ_C rfl) rfl (by show 2 * 0 + _ ≤ _; exact Nat.le_of_eq rfl) (hb hby at_192) (by decide) (by decide)
            obtain ⟨c158, rfl, hr158, Nq158, eq158⟩ := hQ158
            have N158 := Fr.app N20 Nq158
            refine goW st158 ?_
            show OwnEndW _ _ _ _ _ _ _ (T158.setTop (mkF m 195 (fL23 p0 p1 p2 p3 x1 x2 b x3 x4 x6_s0 (10 : Int32) b157) [(.int c158), (.int (0 : Int32)), (.ref b157)]))
            obtain ⟨T159, h159, X159, e159, W159, V_b157', st159⟩ := stCv X158 hx hZ eq158 V_b157 (j := (0 : Int32)) (i := 0) (by decide) (by decide) (by decide) (Nat.le_of_ble_eq_true rfl) (g := (mkF m 195 (fL23 p0 p1 p2 p3 x1 x2 b x3 x4 x6_s0 (10 : Int32) b157) [(.int c158), (.int (0 : Int32)), (.ref b157)])) rfl rfl (hb hby at_195)
            have N159 := Fr.snoc X159 N158 g_b157
            rw [own_narc hr158] at V_b157'
            have HCn := HC.trans (CHr.wr W159 sf_b157 HC.1)
            have sf_b157n := Safe.wr W159 sf_b157 HC.1 sf_b157
            have HC := HCn
            have sf_b157 := sf_b157n
            have Z0 := Nat.le_trans Z0 (Keep.of_wr W159).1
            have O := O.wr W159 g_b157
            have hk := Nat.le_trans hk (Keep.of_wr W159).1
            have SC := SC.wr W159
            have SK0 := SK0.wr W159
            have SK1 := SK1.wr W159
            have SK2 := SK2.wr W159
            have EB := EB.wr W159
            have VB := VB.other W159 (Or.inl ne_b_b157)
            have DB := DB.other W159 (Or.inl ne_b_b157)
            have AB := AB.other W159 ne_t_b157
            have V_b157 : Arv Z h159 b157 k157 .char (10 : Int32) [(.int c158), (.int (0 : Int32)), (.int (0 : Int32)), (.int (0 : Int32)), (.int (0 : Int32)), (.int (0 : Int32)), (.int (0 : Int32)), (.int (0 : Int32)), (.int (0 : Int32)), (.int (0 : Int32))] (.int (0 : Int32)) := V_b157'
            refine goW st159 ?_
            refine goW (fun _ k => by refine XS.iload X159.here hx rfl (hb hby at_196) rfl ?_; exact k) ?_
            refine goW (fun _ k => by refine XS.iconst X159.here hx rfl (hb hby at_198) ?_; exact k) ?_
            show OwnEndW _ _ _ _ _ _ _ (T159.setTop (mkF m 199 (fL23 p0 p1 p2 p3 x1 x2 b x3 x4 x6_s0 (10 : Int32) b157) [(.int (1 : Int32)), (.int (10 : Int32))]))
            refine goW (fun _ k => by refine XS.icmpNo X159.here hx rfl (hb hby at_199) rfl (tlt (by decide)).2.2.2 ?_; exact k) ?_
            refine goW (fun _ k => by refine XS.aload X159.here hx rfl (hb hby at_202) rfl rfl ?_; exact k) ?_
            refine goW (fun _ k => by refine XS.iconst X159.here hx rfl (hb hby at_204) ?_; exact k) ?_
            refine goW (fun _ k => by refine XS.aload X159.here hx rfl (hb hby at_205) rfl rfl ?_; exact k) ?_
            show OwnEndW _ _ _ _ _ _ _ (T159.setTop (mkF m 207 (fL23 p0 p1 p2 p3 x1 x2 b x3 x4 x6_s0 (10 : Int32) b157) [(.ref b), (.int (1 : Int32)), (.ref b157)]))
            refine goW (fun _ k => by refine XS.iconst X159.here hx rfl (hb hby at_207) ?_; exact k) ?_
            refine goW (fun _ k => by refine XS.iload X159.here hx rfl (hb hby at_208) rfl ?_; exact k) ?_
            refine goW (fun _ k => by refine XS.iload X159.here hx rfl (hb hby at_210) rfl ?_; exact k) ?_
            refine goW (fun _ k => by refine XS.iload X159.here hx rfl (hb hby at_212) rfl ?_; exact k) ?_
            show OwnEndW _ _ _ _ _ _ _ (T159.setTop (mkF m 214 (fL23 p0 p1 p2 p3 x1 x2 b x3 x4 x6_s0 (10 : Int32) b157) [(.int x6_s0), (.int x3), (.int x4), (.int (1 : Int32)), (.ref b), (.int (1 : Int32)), (.ref b157)]))
            obtain ⟨_, T160, L160, X160, hQ160, st160⟩ := callStat X159 hx hZ hown (hw _ (List.mem_of_getElem? (i := 23) rfl)) (hw _ (List.mem_of_getElem? (i := 24) rfl)) (hw _ (List.mem_of_getElem? (i := 25) rfl)) (hw _ (List.mem_of_getElem? (i := 26) rfl)) (by decide) (rm_pick l Z a0 hw [] b x4 x3 x6_s0 1 t kb bs cs fm h159 n0 (by decide) hc7 hbs lbs EB VB DB AB O SC0 c1 SF0 rf) (W := 2) (by decide) (by decide) e159 (g := (mkF m 214 (fL23 p0 p1 p2 p3 x1 x2 b x3 x4 x6_s0 (10 : Int32) b157) [(.int x6_s0), (.int x3), (.int x4), (.int (1 : Int32)), (.ref b), (.int (1 : Int32)), (.ref b157)])) rfl (by rw [hml]; rfl) (argsL := [(.ref b), (.int (1 : Int32)), (.int x4), (.int x3), (.int x6_s0)]) (rest := [(.int (1 : Int32)), (.ref b157)]) rfl (lenOf pd__Ljava_lang_String_IICZ_C rfl) rfl (by show 2 * 0 + _ ≤ _; exact Nat.le_of_eq rfl) (hb hby at_214) (by decide) (by decide)
            obtain ⟨c160, rfl, hr160, Nq160, eq160⟩ := hQ160
            have N160 := Fr.app N159 Nq160
            refine goW st160 ?_
            show OwnEndW _ _ _ _ _ _ _ (T160.setTop (mkF m 217 (fL23 p0 p1 p2 p3 x1 x2 b x3 x4 x6_s0 (10 : Int32) b157) [(.int c160), (.int (1 : Int32)), (.ref b157)]))
            obtain ⟨T161, h161, X161, e161, W161, V_b157', st161⟩ := stCv X160 hx hZ eq160 V_b157 (j := (1 : Int32)) (i := 1) (by decide) (by decide) (by decide) (Nat.le_of_ble_eq_true rfl) (g := (mkF m 217 (fL23 p0 p1 p2 p3 x1 x2 b x3 x4 x6_s0 (10 : Int32) b157) [(.int c160), (.int (1 : Int32)), (.ref b157)])) rfl rfl (hb hby at_217)
            have N161 := Fr.snoc X161 N160 g_b157
            rw [own_narc hr160] at V_b157'
            have HCn := HC.trans (CHr.wr W161 sf_b157 HC.1)
            have sf_b157n := Safe.wr W161 sf_b157 HC.1 sf_b157
            have HC := HCn
            have sf_b157 := sf_b157n
            have Z0 := Nat.le_trans Z0 (Keep.of_wr W161).1
            have O := O.wr W161 g_b157
            have hk := Nat.le_trans hk (Keep.of_wr W161).1
            have SC := SC.wr W161
            have SK0 := SK0.wr W161
            have SK1 := SK1.wr W161
            have SK2 := SK2.wr W161
            have EB := EB.wr W161
            have VB := VB.other W161 (Or.inl ne_b_b157)
            have DB := DB.other W161 (Or.inl ne_b_b157)
            have AB := AB.other W161 ne_t_b157
            have V_b157 : Arv Z h161 b157 k157 .char (10 : Int32) [(.int c158), (.int c160), (.int (0 : Int32)), (.int (0 : Int32)), (.int (0 : Int32)), (.int (0 : Int32)), (.int (0 : Int32)), (.int (0 : Int32)), (.int (0 : Int32)), (.int (0 : Int32))] (.int (0 : Int32)) := V_b157'
            refine goW st161 ?_
            refine goW (fun _ k => by refine XS.iload X161.here hx rfl (hb hby at_218) rfl ?_; exact k) ?_
            refine goW (fun _ k => by refine XS.iconst X161.here hx rfl (hb hby at_220) ?_; exact k) ?_
            show OwnEndW _ _ _ _ _ _ _ (T161.setTop (mkF m 221 (fL23 p0 p1 p2 p3 x1 x2 b x3 x4 x6_s0 (10 : Int32) b157) [(.int (2 : Int32)), (.int (10 : Int32))]))
            refine goW (fun _ k => by refine XS.icmpNo X161.here hx rfl (hb hby at_221) rfl (tlt (by decide)).2.2.2 ?_; exact k) ?_
            refine goW (fun _ k => by refine XS.aload X161.here hx rfl (hb hby at_224) rfl rfl ?_; exact k) ?_
            refine goW (fun _ k => by refine XS.iconst X161.here hx rfl (hb hby at_226) ?_; exact k) ?_
            refine goW (fun _ k => by refine XS.aload X161.here hx rfl (hb hby at_227) rfl rfl ?_; exact k) ?_
            show OwnEndW _ _ _ _ _ _ _ (T161.setTop (mkF m 229 (fL23 p0 p1 p2 p3 x1 x2 b x3 x4 x6_s0 (10 : Int32) b157) [(.ref b), (.int (2 : Int32)), (.ref b157)]))
            refine goW (fun _ k => by refine XS.iconst X161.here hx rfl (hb hby at_229) ?_; exact k) ?_
            refine goW (fun _ k => by refine XS.iload X161.here hx rfl (hb hby at_230) rfl ?_; exact k) ?_
            refine goW (fun _ k => by refine XS.iload X161.here hx rfl (hb hby at_232) rfl ?_; exact k) ?_
            refine goW (fun _ k => by refine XS.iload X161.here hx rfl (hb hby at_234) rfl ?_; exact k) ?_
            show OwnEndW _ _ _ _ _ _ _ (T161.setTop (mkF m 236 (fL23 p0 p1 p2 p3 x1 x2 b x3 x4 x6_s0 (10 : Int32) b157) [(.int x6_s0), (.int x3), (.int x4), (.int (2 : Int32)), (.ref b), (.int (2 : Int32)), (.ref b157)]))
            obtain ⟨_, T162, L162, X162, hQ162, st162⟩ := callStat X161 hx hZ hown (hw _ (List.mem_of_getElem? (i := 23) rfl)) (hw _ (List.mem_of_getElem? (i := 24) rfl)) (hw _ (List.mem_of_getElem? (i := 25) rfl)) (hw _ (List.mem_of_getElem? (i := 26) rfl)) (by decide) (rm_pick l Z a0 hw [] b x4 x3 x6_s0 2 t kb bs cs fm h161 n0 (by decide) hc7 hbs lbs EB VB DB AB O SC0 c1 SF0 rf) (W := 2) (by decide) (by decide) e161 (g := (mkF m 236 (fL23 p0 p1 p2 p3 x1 x2 b x3 x4 x6_s0 (10 : Int32) b157) [(.int x6_s0), (.int x3), (.int x4), (.int (2 : Int32)), (.ref b), (.int (2 : Int32)), (.ref b157)])) rfl (by rw [hml]; rfl) (argsL := [(.ref b), (.int (2 : Int32)), (.int x4), (.int x3), (.int x6_s0)]) (rest := [(.int (2 : Int32)), (.ref b157)]) rfl (lenOf pd__Ljava_lang_String_IICZ_C rfl) rfl (by show 2 * 0 + _ ≤ _; exact Nat.le_of_eq rfl) (hb hby at_236) (by decide) (by decide)
            obtain ⟨c162, rfl, hr162, Nq162, eq162⟩ := hQ162
            have N162 := Fr.app N161 Nq162
            refine goW st162 ?_
            show OwnEndW _ _ _ _ _ _ _ (T162.setTop (mkF m 239 (fL23 p0 p1 p2 p3 x1 x2 b x3 x4 x6_s0 (10 : Int32) b157) [(.int c162), (.int (2 : Int32)), (.ref b157)]))
            obtain ⟨T163, h163, X163, e163, W163, V_b157', st163⟩ := stCv X162 hx hZ eq162 V_b157 (j := (2 : Int32)) (i := 2) (by decide) (by decide) (by decide) (Nat.le_of_ble_eq_true rfl) (g := (mkF m 239 (fL23 p0 p1 p2 p3 x1 x2 b x3 x4 x6_s0 (10 : Int32) b157) [(.int c162), (.int (2 : Int32)), (.ref b157)])) rfl rfl (hb hby at_239)
            have N163 := Fr.snoc X163 N162 g_b157
            rw [own_narc hr162] at V_b157'
            have HCn := HC.trans (CHr.wr W163 sf_b157 HC.1)
            have sf_b157n := Safe.wr W163 sf_b157 HC.1 sf_b157
            have HC := HCn
            have sf_b157 := sf_b157n
            have Z0 := Nat.le_trans Z0 (Keep.of_wr W163).1
            have O := O.wr W163 g_b157
            have hk := Nat.le_trans hk (Keep.of_wr W163).1
            have SC := SC.wr W163
            have SK0 := SK0.wr W163
            have SK1 := SK1.wr W163
            have SK2 := SK2.wr W163
            have EB := EB.wr W163
            have VB := VB.other W163 (Or.inl ne_b_b157)
            have DB := DB.other W163 (Or.inl ne_b_b157)
            have AB := AB.other W163 ne_t_b157
            have V_b157 : Arv Z h163 b157 k157 .char (10 : Int32) [(.int c158), (.int c160), (.int c162), (.int (0 : Int32)), (.int (0 : Int32)), (.int (0 : Int32)), (.int (0 : Int32)), (.int (0 : Int32)), (.int (0 : Int32)), (.int (0 : Int32))] (.int (0 : Int32)) := V_b157'
            refine goW st163 ?_
            refine goW (fun _ k => by refine XS.iload X163.here hx rfl (hb hby at_240) rfl ?_; exact k) ?_
            refine goW (fun _ k => by refine XS.iconst X163.here hx rfl (hb hby at_242) ?_; exact k) ?_
            show OwnEndW _ _ _ _ _ _ _ (T163.setTop (mkF m 243 (fL23 p0 p1 p2 p3 x1 x2 b x3 x4 x6_s0 (10 : Int32) b157) [(.int (3 : Int32)), (.int (10 : Int32))]))
            refine goW (fun _ k => by refine XS.icmpNo X163.here hx rfl (hb hby at_243) rfl (tlt (by decide)).2.2.2 ?_; exact k) ?_
            refine goW (fun _ k => by refine XS.aload X163.here hx rfl (hb hby at_246) rfl rfl ?_; exact k) ?_
            refine goW (fun _ k => by refine XS.iconst X163.here hx rfl (hb hby at_248) ?_; exact k) ?_
            refine goW (fun _ k => by refine XS.aload X163.here hx rfl (hb hby at_249) rfl rfl ?_; exact k) ?_
            show OwnEndW _ _ _ _ _ _ _ (T163.setTop (mkF m 251 (fL23 p0 p1 p2 p3 x1 x2 b x3 x4 x6_s0 (10 : Int32) b157) [(.ref b), (.int (3 : Int32)), (.ref b157)]))
            refine goW (fun _ k => by refine XS.iconst X163.here hx rfl (hb hby at_251) ?_; exact k) ?_
            refine goW (fun _ k => by refine XS.iload X163.here hx rfl (hb hby at_252) rfl ?_; exact k) ?_
            refine goW (fun _ k => by refine XS.iload X163.here hx rfl (hb hby at_254) rfl ?_; exact k) ?_
            refine goW (fun _ k => by refine XS.iload X163.here hx rfl (hb hby at_256) rfl ?_; exact k) ?_
            show OwnEndW _ _ _ _ _ _ _ (T163.setTop (mkF m 258 (fL23 p0 p1 p2 p3 x1 x2 b x3 x4 x6_s0 (10 : Int32) b157) [(.int x6_s0), (.int x3), (.int x4), (.int (3 : Int32)), (.ref b), (.int (3 : Int32)), (.ref b157)]))
            obtain ⟨_, T164, L164, X164, hQ164, st164⟩ := callStat X163 hx hZ hown (hw _ (List.mem_of_getElem? (i := 23) rfl)) (hw _ (List.mem_of_getElem? (i := 24) rfl)) (hw _ (List.mem_of_getElem? (i := 25) rfl)) (hw _ (List.mem_of_getElem? (i := 26) rfl)) (by decide) (rm_pick l Z a0 hw [] b x4 x3 x6_s0 3 t kb bs cs fm h163 n0 (by decide) hc7 hbs lbs EB VB DB AB O SC0 c1 SF0 rf) (W := 2) (by decide) (by decide) e163 (g := (mkF m 258 (fL23 p0 p1 p2 p3 x1 x2 b x3 x4 x6_s0 (10 : Int32) b157) [(.int x6_s0), (.int x3), (.int x4), (.int (3 : Int32)), (.ref b), (.int (3 : Int32)), (.ref b157)])) rfl (by rw [hml]; rfl) (argsL := [(.ref b), (.int (3 : Int32)), (.int x4), (.int x3), (.int x6_s0)]) (rest := [(.int (3 : Int32)), (.ref b157)]) rfl (lenOf pd__Ljava_lang_String_IICZ_C rfl) rfl (by show 2 * 0 + _ ≤ _; exact Nat.le_of_eq rfl) (hb hby at_258) (by decide) (by decide)
            obtain ⟨c164, rfl, hr164, Nq164, eq164⟩ := hQ164
            have N164 := Fr.app N163 Nq164
            refine goW st164 ?_
            show OwnEndW _ _ _ _ _ _ _ (T164.setTop (mkF m 261 (fL23 p0 p1 p2 p3 x1 x2 b x3 x4 x6_s0 (10 : Int32) b157) [(.int c164), (.int (3 : Int32)), (.ref b157)]))
            obtain ⟨T165, h165, X165, e165, W165, V_b157', st165⟩ := stCv X164 hx hZ eq164 V_b157 (j := (3 : Int32)) (i := 3) (by decide) (by decide) (by decide) (Nat.le_of_ble_eq_true rfl) (g := (mkF m 261 (fL23 p0 p1 p2 p3 x1 x2 b x3 x4 x6_s0 (10 : Int32) b157) [(.int c164), (.int (3 : Int32)), (.ref b157)])) rfl rfl (hb hby at_261)
            have N165 := Fr.snoc X165 N164 g_b157
            rw [own_narc hr164] at V_b157'
            have HCn := HC.trans (CHr.wr W165 sf_b157 HC.1)
            have sf_b157n := Safe.wr W165 sf_b157 HC.1 sf_b157
            have HC := HCn
            have sf_b157 := sf_b157n
            have Z0 := Nat.le_trans Z0 (Keep.of_wr W165).1
            have O := O.wr W165 g_b157
            have hk := Nat.le_trans hk (Keep.of_wr W165).1
            have SC := SC.wr W165
            have SK0 := SK0.wr W165
            have SK1 := SK1.wr W165
            have SK2 := SK2.wr W165
            have EB := EB.wr W165
            have VB := VB.other W165 (Or.inl ne_b_b157)
            have DB := DB.other W165 (Or.inl ne_b_b157)
            have AB := AB.other W165 ne_t_b157
            have V_b157 : Arv Z h165 b157 k157 .char (10 : Int32) [(.int c158), (.int c160), (.int c162), (.int c164), (.int (0 : Int32)), (.int (0 : Int32)), (.int (0 : Int32)), (.int (0 : Int32)), (.int (0 : Int32)), (.int (0 : Int32))] (.int (0 : Int32)) := V_b157'
            refine goW st165 ?_
            refine goW (fun _ k => by refine XS.iload X165.here hx rfl (hb hby at_262) rfl ?_; exact k) ?_
            refine goW (fun _ k => by refine XS.iconst X165.here hx rfl (hb hby at_264) ?_; exact k) ?_
            show OwnEndW _ _ _ _ _ _ _ (T165.setTop (mkF m 265 (fL23 p0 p1 p2 p3 x1 x2 b x3 x4 x6_s0 (10 : Int32) b157) [(.int (4 : Int32)), (.int (10 : Int32))]))
            refine goW (fun _ k => by refine XS.icmpNo X165.here hx rfl (hb hby at_265) rfl (tlt (by decide)).2.2.2 ?_; exact k) ?_
            refine goW (fun _ k => by refine XS.aload X165.here hx rfl (hb hby at_268) rfl rfl ?_; exact k) ?_
            refine goW (fun _ k => by refine XS.iconst X165.here hx rfl (hb hby at_270) ?_; exact k) ?_
            refine goW (fun _ k => by refine XS.aload X165.here hx rfl (hb hby at_271) rfl rfl ?_; exact k) ?_
            show OwnEndW _ _ _ _ _ _ _ (T165.setTop (mkF m 273 (fL23 p0 p1 p2 p3 x1 x2 b x3 x4 x6_s0 (10 : Int32) b157) [(.ref b), (.int (4 : Int32)), (.ref b157)]))
            refine goW (fun _ k => by refine XS.iconst X165.here hx rfl (hb hby at_273) ?_; exact k) ?_
            refine goW (fun _ k => by refine XS.iload X165.here hx rfl (hb hby at_274) rfl ?_; exact k) ?_
            refine goW (fun _ k => by refine XS.iload X165.here hx rfl (hb hby at_276) rfl ?_; exact k) ?_
            refine goW (fun _ k => by refine XS.iload X165.here hx rfl (hb hby at_278) rfl ?_; exact k) ?_
            show OwnEndW _ _ _ _ _ _ _ (T165.setTop (mkF m 280 (fL23 p0 p1 p2 p3 x1 x2 b x3 x4 x6_s0 (10 : Int32) b157) [(.int x6_s0), (.int x3), (.int x4), (.int (4 : Int32)), (.ref b), (.int (4 : Int32)), (.ref b157)]))
            obtain ⟨_, T166, L166, X166, hQ166, st166⟩ := callStat X165 hx hZ hown (hw _ (List.mem_of_getElem? (i := 23) rfl)) (hw _ (List.mem_of_getElem? (i := 24) rfl)) (hw _ (List.mem_of_getElem? (i := 25) rfl)) (hw _ (List.mem_of_getElem? (i := 26) rfl)) (by decide) (rm_pick l Z a0 hw [] b x4 x3 x6_s0 4 t kb bs cs fm h165 n0 (by decide) hc7 hbs lbs EB VB DB AB O SC0 c1 SF0 rf) (W := 2) (by decide) (by decide) e165 (g := (mkF m 280 (fL23 p0 p1 p2 p3 x1 x2 b x3 x4 x6_s0 (10 : Int32) b157) [(.int x6_s0), (.int x3), (.int x4), (.int (4 : Int32)), (.ref b), (.int (4 : Int32)), (.ref b157)])) rfl (by rw [hml]; rfl) (argsL := [(.ref b), (.int (4 : Int32)), (.int x4), (.int x3), (.int x6_s0)]) (rest := [(.int (4 : Int32)), (.ref b157)]) rfl (lenOf pd__Ljava_lang_String_IICZ_C rfl) rfl (by show 2 * 0 + _ ≤ _; exact Nat.le_of_eq rfl) (hb hby at_280) (by decide) (by decide)
            obtain ⟨c166, rfl, hr166, Nq166, eq166⟩ := hQ166
            have N166 := Fr.app N165 Nq166
            refine goW st166 ?_
            show OwnEndW _ _ _ _ _ _ _ (T166.setTop (mkF m 283 (fL23 p0 p1 p2 p3 x1 x2 b x3 x4 x6_s0 (10 : Int32) b157) [(.int c166), (.int (4 : Int32)), (.ref b157)]))
            obtain ⟨T167, h167, X167, e167, W167, V_b157', st167⟩ := stCv X166 hx hZ eq166 V_b157 (j := (4 : Int32)) (i := 4) (by decide) (by decide) (by decide) (Nat.le_of_ble_eq_true rfl) (g := (mkF m 283 (fL23 p0 p1 p2 p3 x1 x2 b x3 x4 x6_s0 (10 : Int32) b157) [(.int c166), (.int (4 : Int32)), (.ref b157)])) rfl rfl (hb hby at_283)
            have N167 := Fr.snoc X167 N166 g_b157
            rw [own_narc hr166] at V_b157'
            have HCn := HC.trans (CHr.wr W167 sf_b157 HC.1)
            have sf_b157n := Safe.wr W167 sf_b157 HC.1 sf_b157
            have HC := HCn
            have sf_b157 := sf_b157n
            have Z0 := Nat.le_trans Z0 (Keep.of_wr W167).1
            have O := O.wr W167 g_b157
            have hk := Nat.le_trans hk (Keep.of_wr W167).1
            have SC := SC.wr W167
            have SK0 := SK0.wr W167
            have SK1 := SK1.wr W167
            have SK2 := SK2.wr W167
            have EB := EB.wr W167
            have VB := VB.other W167 (Or.inl ne_b_b157)
            have DB := DB.other W167 (Or.inl ne_b_b157)
            have AB := AB.other W167 ne_t_b157
            have V_b157 : Arv Z h167 b157 k157 .char (10 : Int32) [(.int c158), (.int c160), (.int c162), (.int c164), (.int c166), (.int (0 : Int32)), (.int (0 : Int32)), (.int (0 : Int32)), (.int (0 : Int32)), (.int (0 : Int32))] (.int (0 : Int32)) := V_b157'
            refine goW st167 ?_
            refine goW (fun _ k => by refine XS.iload X167.here hx rfl (hb hby at_284) rfl ?_; exact k) ?_
            refine goW (fun _ k => by refine XS.iconst X167.here hx rfl (hb hby at_286) ?_; exact k) ?_
            show OwnEndW _ _ _ _ _ _ _ (T167.setTop (mkF m 287 (fL23 p0 p1 p2 p3 x1 x2 b x3 x4 x6_s0 (10 : Int32) b157) [(.int (5 : Int32)), (.int (10 : Int32))]))
            refine goW (fun _ k => by refine XS.icmpNo X167.here hx rfl (hb hby at_287) rfl (tlt (by decide)).2.2.2 ?_; exact k) ?_
            refine goW (fun _ k => by refine XS.aload X167.here hx rfl (hb hby at_290) rfl rfl ?_; exact k) ?_
            refine goW (fun _ k => by refine XS.iconst X167.here hx rfl (hb hby at_292) ?_; exact k) ?_
            refine goW (fun _ k => by refine XS.aload X167.here hx rfl (hb hby at_293) rfl rfl ?_; exact k) ?_
            show OwnEndW _ _ _ _ _ _ _ (T167.setTop (mkF m 295 (fL23 p0 p1 p2 p3 x1 x2 b x3 x4 x6_s0 (10 : Int32) b157) [(.ref b), (.int (5 : Int32)), (.ref b157)]))
            refine goW (fun _ k => by refine XS.iconst X167.here hx rfl (hb hby at_295) ?_; exact k) ?_
            refine goW (fun _ k => by refine XS.iload X167.here hx rfl (hb hby at_296) rfl ?_; exact k) ?_
            refine goW (fun _ k => by refine XS.iload X167.here hx rfl (hb hby at_298) rfl ?_; exact k) ?_
            refine goW (fun _ k => by refine XS.iload X167.here hx rfl (hb hby at_300) rfl ?_; exact k) ?_
            show OwnEndW _ _ _ _ _ _ _ (T167.setTop (mkF m 302 (fL23 p0 p1 p2 p3 x1 x2 b x3 x4 x6_s0 (10 : Int32) b157) [(.int x6_s0), (.int x3), (.int x4), (.int (5 : Int32)), (.ref b), (.int (5 : Int32)), (.ref b157)]))
            obtain ⟨_, T168, L168, X168, hQ168, st168⟩ := callStat X167 hx hZ hown (hw _ (List.mem_of_getElem? (i := 23) rfl)) (hw _ (List.mem_of_getElem? (i := 24) rfl)) (hw _ (List.mem_of_getElem? (i := 25) rfl)) (hw _ (List.mem_of_getElem? (i := 26) rfl)) (by decide) (rm_pick l Z a0 hw [] b x4 x3 x6_s0 5 t kb bs cs fm h167 n0 (by decide) hc7 hbs lbs EB VB DB AB O SC0 c1 SF0 rf) (W := 2) (by decide) (by decide) e167 (g := (mkF m 302 (fL23 p0 p1 p2 p3 x1 x2 b x3 x4 x6_s0 (10 : Int32) b157) [(.int x6_s0), (.int x3), (.int x4), (.int (5 : Int32)), (.ref b), (.int (5 : Int32)), (.ref b157)])) rfl (by rw [hml]; rfl) (argsL := [(.ref b), (.int (5 : Int32)), (.int x4), (.int x3), (.int x6_s0)]) (rest := [(.int (5 : Int32)), (.ref b157)]) rfl (lenOf pd__Ljava_lang_String_IICZ_C rfl) rfl (by show 2 * 0 + _ ≤ _; exact Nat.le_of_eq rfl) (hb hby at_302) (by decide) (by decide)
            obtain ⟨c168, rfl, hr168, Nq168, eq168⟩ := hQ168
            have N168 := Fr.app N167 Nq168
            refine goW st168 ?_
            show OwnEndW _ _ _ _ _ _ _ (T168.setTop (mkF m 305 (fL23 p0 p1 p2 p3 x1 x2 b x3 x4 x6_s0 (10 : Int32) b157) [(.int c168), (.int (5 : Int32)), (.ref b157)]))
            obtain ⟨T169, h169, X169, e169, W169, V_b157', st169⟩ := stCv X168 hx hZ eq168 V_b157 (j := (5 : Int32)) (i := 5) (by decide) (by decide) (by decide) (Nat.le_of_ble_eq_true rfl) (g := (mkF m 305 (fL23 p0 p1 p2 p3 x1 x2 b x3 x4 x6_s0 (10 : Int32) b157) [(.int c168), (.int (5 : Int32)), (.ref b157)])) rfl rfl (hb hby at_305)
            have N169 := Fr.snoc X169 N168 g_b157
            rw [own_narc hr168] at V_b157'
            have HCn := HC.trans (CHr.wr W169 sf_b157 HC.1)
            have sf_b157n := Safe.wr W169 sf_b157 HC.1 sf_b157
            have HC := HCn
            have sf_b157 := sf_b157n
            have Z0 := Nat.le_trans Z0 (Keep.of_wr W169).1
            have O := O.wr W169 g_b157
            have hk := Nat.le_trans hk (Keep.of_wr W169).1
            have SC := SC.wr W169
            have SK0 := SK0.wr W169
            have SK1 := SK1.wr W169
            have SK2 := SK2.wr W169
            have EB := EB.wr W169
            have VB := VB.other W169 (Or.inl ne_b_b157)
            have DB := DB.other W169 (Or.inl ne_b_b157)
            have AB := AB.other W169 ne_t_b157
            have V_b157 : Arv Z h169 b157 k157 .char (10 : Int32) [(.int c158), (.int c160), (.int c162), (.int c164), (.int c166), (.int c168), (.int (0 : Int32)), (.int (0 : Int32)), (.int (0 : Int32)), (.int (0 : Int32))] (.int (0 : Int32)) := V_b157'
            refine goW st169 ?_
            refine goW (fun _ k => by refine XS.iload X169.here hx rfl (hb hby at_306) rfl ?_; exact k) ?_
            refine goW (fun _ k => by refine XS.bipush X169.here hx rfl (hb hby at_308) ?_; exact k) ?_
            show OwnEndW _ _ _ _ _ _ _ (T169.setTop (mkF m 310 (fL23 p0 p1 p2 p3 x1 x2 b x3 x4 x6_s0 (10 : Int32) b157) [(.int (6 : Int32)), (.int (10 : Int32))]))
            refine goW (fun _ k => by refine XS.icmpNo X169.here hx rfl (hb hby at_310) rfl (tlt (by decide)).2.2.2 ?_; exact k) ?_
            refine goW (fun _ k => by refine XS.aload X169.here hx rfl (hb hby at_313) rfl rfl ?_; exact k) ?_
            refine goW (fun _ k => by refine XS.bipush X169.here hx rfl (hb hby at_315) ?_; exact k) ?_
            refine goW (fun _ k => by refine XS.aload X169.here hx rfl (hb hby at_317) rfl rfl ?_; exact k) ?_
            show OwnEndW _ _ _ _ _ _ _ (T169.setTop (mkF m 319 (fL23 p0 p1 p2 p3 x1 x2 b x3 x4 x6_s0 (10 : Int32) b157) [(.ref b), (.int (6 : Int32)), (.ref b157)]))
            refine goW (fun _ k => by refine XS.bipush X169.here hx rfl (hb hby at_319) ?_; exact k) ?_
            refine goW (fun _ k => by refine XS.iload X169.here hx rfl (hb hby at_321) rfl ?_; exact k) ?_
            refine goW (fun _ k => by refine XS.iload X169.here hx rfl (hb hby at_323) rfl ?_; exact k) ?_
            refine goW (fun _ k => by refine XS.iload X169.here hx rfl (hb hby at_325) rfl ?_; exact k) ?_
            show OwnEndW _ _ _ _ _ _ _ (T169.setTop (mkF m 327 (fL23 p0 p1 p2 p3 x1 x2 b x3 x4 x6_s0 (10 : Int32) b157) [(.int x6_s0), (.int x3), (.int x4), (.int (6 : Int32)), (.ref b), (.int (6 : Int32)), (.ref b157)]))
            obtain ⟨_, T170, L170, X170, hQ170, st170⟩ := callStat X169 hx hZ hown (hw _ (List.mem_of_getElem? (i := 23) rfl)) (hw _ (List.mem_of_getElem? (i := 24) rfl)) (hw _ (List.mem_of_getElem? (i := 25) rfl)) (hw _ (List.mem_of_getElem? (i := 26) rfl)) (by decide) (rm_pick l Z a0 hw [] b x4 x3 x6_s0 6 t kb bs cs fm h169 n0 (by decide) hc7 hbs lbs EB VB DB AB O SC0 c1 SF0 rf) (W := 2) (by decide) (by decide) e169 (g := (mkF m 327 (fL23 p0 p1 p2 p3 x1 x2 b x3 x4 x6_s0 (10 : Int32) b157) [(.int x6_s0), (.int x3), (.int x4), (.int (6 : Int32)), (.ref b), (.int (6 : Int32)), (.ref b157)])) rfl (by rw [hml]; rfl) (argsL := [(.ref b), (.int (6 : Int32)), (.int x4), (.int x3), (.int x6_s0)]) (rest := [(.int (6 : Int32)), (.ref b157)]) rfl (lenOf pd__Ljava_lang_String_IICZ_C rfl) rfl (by show 2 * 0 + _ ≤ _; exact Nat.le_of_eq rfl) (hb hby at_327) (by decide) (by decide)
            obtain ⟨c170, rfl, hr170, Nq170, eq170⟩ := hQ170
            have N170 := Fr.app N169 Nq170
            refine goW st170 ?_
            show OwnEndW _ _ _ _ _ _ _ (T170.setTop (mkF m 330 (fL23 p0 p1 p2 p3 x1 x2 b x3 x4 x6_s0 (10 : Int32) b157) [(.int c170), (.int (6 : Int32)), (.ref b157)]))
            obtain ⟨T171, h171, X171, e171, W171, V_b157', st171⟩ := stCv X170 hx hZ eq170 V_b157 (j := (6 : Int32)) (i := 6) (by decide) (by decide) (by decide) (Nat.le_of_ble_eq_true rfl) (g := (mkF m 330 (fL23 p0 p1 p2 p3 x1 x2 b x3 x4 x6_s0 (10 : Int32) b157) [(.int c170), (.int (6 : Int32)), (.ref b157)])) rfl rfl (hb hby at_330)
            have N171 := Fr.snoc X171 N170 g_b157
            rw [own_narc hr170] at V_b157'
            have HCn := HC.trans (CHr.wr W171 sf_b157 HC.1)
            have sf_b157n := Safe.wr W171 sf_b157 HC.1 sf_b157
            have HC := HCn
            have sf_b157 := sf_b157n
            have Z0 := Nat.le_trans Z0 (Keep.of_wr W171).1
            have O := O.wr W171 g_b157
            have hk := Nat.le_trans hk (Keep.of_wr W171).1
            have SC := SC.wr W171
            have SK0 := SK0.wr W171
            have SK1 := SK1.wr W171
            have SK2 := SK2.wr W171
            have EB := EB.wr W171
            have VB := VB.other W171 (Or.inl ne_b_b157)
            have DB := DB.other W171 (Or.inl ne_b_b157)
            have AB := AB.other W171 ne_t_b157
            have V_b157 : Arv Z h171 b157 k157 .char (10 : Int32) [(.int c158), (.int c160), (.int c162), (.int c164), (.int c166), (.int c168), (.int c170), (.int (0 : Int32)), (.int (0 : Int32)), (.int (0 : Int32))] (.int (0 : Int32)) := V_b157'
            refine goW st171 ?_
            refine goW (fun _ k => by refine XS.iload X171.here hx rfl (hb hby at_331) rfl ?_; exact k) ?_
            refine goW (fun _ k => by refine XS.bipush X171.here hx rfl (hb hby at_333) ?_; exact k) ?_
            show OwnEndW _ _ _ _ _ _ _ (T171.setTop (mkF m 335 (fL23 p0 p1 p2 p3 x1 x2 b x3 x4 x6_s0 (10 : Int32) b157) [(.int (7 : Int32)), (.int (10 : Int32))]))
            refine goW (fun _ k => by refine XS.icmpNo X171.here hx rfl (hb hby at_335) rfl (tlt (by decide)).2.2.2 ?_; exact k) ?_
            refine goW (fun _ k => by refine XS.aload X171.here hx rfl (hb hby at_338) rfl rfl ?_; exact k) ?_
            refine goW (fun _ k => by refine XS.bipush X171.here hx rfl (hb hby at_340) ?_; exact k) ?_
            refine goW (fun _ k => by refine XS.aload X171.here hx rfl (hb hby at_342) rfl rfl ?_; exact k) ?_
            show OwnEndW _ _ _ _ _ _ _ (T171.setTop (mkF m 344 (fL23 p0 p1 p2 p3 x1 x2 b x3 x4 x6_s0 (10 : Int32) b157) [(.ref b), (.int (7 : Int32)), (.ref b157)]))
            refine goW (fun _ k => by refine XS.bipush X171.here hx rfl (hb hby at_344) ?_; exact k) ?_
            refine goW (fun _ k => by refine XS.iload X171.here hx rfl (hb hby at_346) rfl ?_; exact k) ?_
            refine goW (fun _ k => by refine XS.iload X171.here hx rfl (hb hby at_348) rfl ?_; exact k) ?_
            refine goW (fun _ k => by refine XS.iload X171.here hx rfl (hb hby at_350) rfl ?_; exact k) ?_
            show OwnEndW _ _ _ _ _ _ _ (T171.setTop (mkF m 352 (fL23 p0 p1 p2 p3 x1 x2 b x3 x4 x6_s0 (10 : Int32) b157) [(.int x6_s0), (.int x3), (.int x4), (.int (7 : Int32)), (.ref b), (.int (7 : Int32)), (.ref b157)]))
            obtain ⟨_, T172, L172, X172, hQ172, st172⟩ := callStat X171 hx hZ hown (hw _ (List.mem_of_getElem? (i := 23) rfl)) (hw _ (List.mem_of_getElem? (i := 24) rfl)) (hw _ (List.mem_of_getElem? (i := 25) rfl)) (hw _ (List.mem_of_getElem? (i := 26) rfl)) (by decide) (rm_pick l Z a0 hw [] b x4 x3 x6_s0 7 t kb bs cs fm h171 n0 (by decide) hc7 hbs lbs EB VB DB AB O SC0 c1 SF0 rf) (W := 2) (by decide) (by decide) e171 (g := (mkF m 352 (fL23 p0 p1 p2 p3 x1 x2 b x3 x4 x6_s0 (10 : Int32) b157) [(.int x6_s0), (.int x3), (.int x4), (.int (7 : Int32)), (.ref b), (.int (7 : Int32)), (.ref b157)])) rfl (by rw [hml]; rfl) (argsL := [(.ref b), (.int (7 : Int32)), (.int x4), (.int x3), (.int x6_s0)]) (rest := [(.int (7 : Int32)), (.ref b157)]) rfl (lenOf pd__Ljava_lang_String_IICZ_C rfl) rfl (by show 2 * 0 + _ ≤ _; exact Nat.le_of_eq rfl) (hb hby at_352) (by decide) (by decide)
            obtain ⟨c172, rfl, hr172, Nq172, eq172⟩ := hQ172
            have N172 := Fr.app N171 Nq172
            refine goW st172 ?_
            show OwnEndW _ _ _ _ _ _ _ (T172.setTop (mkF m 355 (fL23 p0 p1 p2 p3 x1 x2 b x3 x4 x6_s0 (10 : Int32) b157) [(.int c172), (.int (7 : Int32)), (.ref b157)]))
            obtain ⟨T173, h173, X173, e173, W173, V_b157', st173⟩ := stCv X172 hx hZ eq172 V_b157 (j := (7 : Int32)) (i := 7) (by decide) (by decide) (by decide) (Nat.le_of_ble_eq_true rfl) (g := (mkF m 355 (fL23 p0 p1 p2 p3 x1 x2 b x3 x4 x6_s0 (10 : Int32) b157) [(.int c172), (.int (7 : Int32)), (.ref b157)])) rfl rfl (hb hby at_355)
            have N173 := Fr.snoc X173 N172 g_b157
            rw [own_narc hr172] at V_b157'
            have HCn := HC.trans (CHr.wr W173 sf_b157 HC.1)
            have sf_b157n := Safe.wr W173 sf_b157 HC.1 sf_b157
            have HC := HCn
            have sf_b157 := sf_b157n
            have Z0 := Nat.le_trans Z0 (Keep.of_wr W173).1
            have O := O.wr W173 g_b157
            have hk := Nat.le_trans hk (Keep.of_wr W173).1
            have SC := SC.wr W173
            have SK0 := SK0.wr W173
            have SK1 := SK1.wr W173
            have SK2 := SK2.wr W173
            have EB := EB.wr W173
            have VB := VB.other W173 (Or.inl ne_b_b157)
            have DB := DB.other W173 (Or.inl ne_b_b157)
            have AB := AB.other W173 ne_t_b157
            have V_b157 : Arv Z h173 b157 k157 .char (10 : Int32) [(.int c158), (.int c160), (.int c162), (.int c164), (.int c166), (.int c168), (.int c170), (.int c172), (.int (0 : Int32)), (.int (0 : Int32))] (.int (0 : Int32)) := V_b157'
            refine goW st173 ?_
            refine goW (fun _ k => by refine XS.iload X173.here hx rfl (hb hby at_356) rfl ?_; exact k) ?_
            refine goW (fun _ k => by refine XS.bipush X173.here hx rfl (hb hby at_358) ?_; exact k) ?_
            show OwnEndW _ _ _ _ _ _ _ (T173.setTop (mkF m 360 (fL23 p0 p1 p2 p3 x1 x2 b x3 x4 x6_s0 (10 : Int32) b157) [(.int (8 : Int32)), (.int (10 : Int32))]))
            refine goW (fun _ k => by refine XS.icmpNo X173.here hx rfl (hb hby at_360) rfl (tlt (by decide)).2.2.2 ?_; exact k) ?_
            refine goW (fun _ k => by refine XS.aload X173.here hx rfl (hb hby at_363) rfl rfl ?_; exact k) ?_
            refine goW (fun _ k => by refine XS.bipush X173.here hx rfl (hb hby at_365) ?_; exact k) ?_
            refine goW (fun _ k => by refine XS.aload X173.here hx rfl (hb hby at_367) rfl rfl ?_; exact k) ?_
            show OwnEndW _ _ _ _ _ _ _ (T173.setTop (mkF m 369 (fL23 p0 p1 p2 p3 x1 x2 b x3 x4 x6_s0 (10 : Int32) b157) [(.ref b), (.int (8 : Int32)), (.ref b157)]))
            refine goW (fun _ k => by refine XS.bipush X173.here hx rfl (hb hby at_369) ?_; exact k) ?_
            refine goW (fun _ k => by refine XS.iload X173.here hx rfl (hb hby at_371) rfl ?_; exact k) ?_
            refine goW (fun _ k => by refine XS.iload X173.here hx rfl (hb hby at_373) rfl ?_; exact k) ?_
            refine goW (fun _ k => by refine XS.iload X173.here hx rfl (hb hby at_375) rfl ?_; exact k) ?_
            show OwnEndW _ _ _ _ _ _ _ (T173.setTop (mkF m 377 (fL23 p0 p1 p2 p3 x1 x2 b x3 x4 x6_s0 (10 : Int32) b157) [(.int x6_s0), (.int x3), (.int x4), (.int (8 : Int32)), (.ref b), (.int (8 : Int32)), (.ref b157)]))
            obtain ⟨_, T174, L174, X174, hQ174, st174⟩ := callStat X173 hx hZ hown (hw _ (List.mem_of_getElem? (i := 23) rfl)) (hw _ (List.mem_of_getElem? (i := 24) rfl)) (hw _ (List.mem_of_getElem? (i := 25) rfl)) (hw _ (List.mem_of_getElem? (i := 26) rfl)) (by decide) (rm_pick l Z a0 hw [] b x4 x3 x6_s0 8 t kb bs cs fm h173 n0 (by decide) hc7 hbs lbs EB VB DB AB O SC0 c1 SF0 rf) (W := 2) (by decide) (by decide) e173 (g := (mkF m 377 (fL23 p0 p1 p2 p3 x1 x2 b x3 x4 x6_s0 (10 : Int32) b157) [(.int x6_s0), (.int x3), (.int x4), (.int (8 : Int32)), (.ref b), (.int (8 : Int32)), (.ref b157)])) rfl (by rw [hml]; rfl) (argsL := [(.ref b), (.int (8 : Int32)), (.int x4), (.int x3), (.int x6_s0)]) (rest := [(.int (8 : Int32)), (.ref b157)]) rfl (lenOf pd__Ljava_lang_String_IICZ_C rfl) rfl (by show 2 * 0 + _ ≤ _; exact Nat.le_of_eq rfl) (hb hby at_377) (by decide) (by decide)
            obtain ⟨c174, rfl, hr174, Nq174, eq174⟩ := hQ174
            have N174 := Fr.app N173 Nq174
            refine goW st174 ?_
            show OwnEndW _ _ _ _ _ _ _ (T174.setTop (mkF m 380 (fL23 p0 p1 p2 p3 x1 x2 b x3 x4 x6_s0 (10 : Int32) b157) [(.int c174), (.int (8 : Int32)), (.ref b157)]))
            obtain ⟨T175, h175, X175, e175, W175, V_b157', st175⟩ := stCv X174 hx hZ eq174 V_b157 (j := (8 : Int32)) (i := 8) (by decide) (by decide) (by decide) (Nat.le_of_ble_eq_true rfl) (g := (mkF m 380 (fL23 p0 p1 p2 p3 x1 x2 b x3 x4 x6_s0 (10 : Int32) b157) [(.int c174), (.int (8 : Int32)), (.ref b157)])) rfl rfl (hb hby at_380)
            have N175 := Fr.snoc X175 N174 g_b157
            rw [own_narc hr174] at V_b157'
            have HCn := HC.trans (CHr.wr W175 sf_b157 HC.1)
            have sf_b157n := Safe.wr W175 sf_b157 HC.1 sf_b157
            have HC := HCn
            have sf_b157 := sf_b157n
            have Z0 := Nat.le_trans Z0 (Keep.of_wr W175).1
            have O := O.wr W175 g_b157
            have hk := Nat.le_trans hk (Keep.of_wr W175).1
            have SC := SC.wr W175
            have SK0 := SK0.wr W175
            have SK1 := SK1.wr W175
            have SK2 := SK2.wr W175
            have EB := EB.wr W175
            have VB := VB.other W175 (Or.inl ne_b_b157)
            have DB := DB.other W175 (Or.inl ne_b_b157)
            have AB := AB.other W175 ne_t_b157
            have V_b157 : Arv Z h175 b157 k157 .char (10 : Int32) [(.int c158), (.int c160), (.int c162), (.int c164), (.int c166), (.int c168), (.int c170), (.int c172), (.int c174), (.int (0 : Int32))] (.int (0 : Int32)) := V_b157'
            refine goW st175 ?_
            refine goW (fun _ k => by refine XS.iload X175.here hx rfl (hb hby at_381) rfl ?_; exact k) ?_
            refine goW (fun _ k => by refine XS.bipush X175.here hx rfl (hb hby at_383) ?_; exact k) ?_
            show OwnEndW _ _ _ _ _ _ _ (T175.setTop (mkF m 385 (fL23 p0 p1 p2 p3 x1 x2 b x3 x4 x6_s0 (10 : Int32) b157) [(.int (9 : Int32)), (.int (10 : Int32))]))
            refine goW (fun _ k => by refine XS.icmpNo X175.here hx rfl (hb hby at_385) rfl (tlt (by decide)).2.2.2 ?_; exact k) ?_
            refine goW (fun _ k => by refine XS.aload X175.here hx rfl (hb hby at_388) rfl rfl ?_; exact k) ?_
            refine goW (fun _ k => by refine XS.bipush X175.here hx rfl (hb hby at_390) ?_; exact k) ?_
            refine goW (fun _ k => by refine XS.aload X175.here hx rfl (hb hby at_392) rfl rfl ?_; exact k) ?_
            show OwnEndW _ _ _ _ _ _ _ (T175.setTop (mkF m 394 (fL23 p0 p1 p2 p3 x1 x2 b x3 x4 x6_s0 (10 : Int32) b157) [(.ref b), (.int (9 : Int32)), (.ref b157)]))
            refine goW (fun _ k => by refine XS.bipush X175.here hx rfl (hb hby at_394) ?_; exact k) ?_
            refine goW (fun _ k => by refine XS.iload X175.here hx rfl (hb hby at_396) rfl ?_; exact k) ?_
            refine goW (fun _ k => by refine XS.iload X175.here hx rfl (hb hby at_398) rfl ?_; exact k) ?_
            refine goW (fun _ k => by refine XS.iload X175.here hx rfl (hb hby at_400) rfl ?_; exact k) ?_
            show OwnEndW _ _ _ _ _ _ _ (T175.setTop (mkF m 402 (fL23 p0 p1 p2 p3 x1 x2 b x3 x4 x6_s0 (10 : Int32) b157) [(.int x6_s0), (.int x3), (.int x4), (.int (9 : Int32)), (.ref b), (.int (9 : Int32)), (.ref b157)]))
            obtain ⟨_, T176, L176, X176, hQ176, st176⟩ := callStat X175 hx hZ hown (hw _ (List.mem_of_getElem? (i := 23) rfl)) (hw _ (List.mem_of_getElem? (i := 24) rfl)) (hw _ (List.mem_of_getElem? (i := 25) rfl)) (hw _ (List.mem_of_getElem? (i := 26) rfl)) (by decide) (rm_pick l Z a0 hw [] b x4 x3 x6_s0 9 t kb bs cs fm h175 n0 (by decide) hc7 hbs lbs EB VB DB AB O SC0 c1 SF0 rf) (W := 2) (by decide) (by decide) e175 (g := (mkF m 402 (fL23 p0 p1 p2 p3 x1 x2 b x3 x4 x6_s0 (10 : Int32) b157) [(.int x6_s0), (.int x3), (.int x4), (.int (9 : Int32)), (.ref b), (.int (9 : Int32)), (.ref b157)])) rfl (by rw [hml]; rfl) (argsL := [(.ref b), (.int (9 : Int32)), (.int x4), (.int x3), (.int x6_s0)]) (rest := [(.int (9 : Int32)), (.ref b157)]) rfl (lenOf pd__Ljava_lang_String_IICZ_C rfl) rfl (by show 2 * 0 + _ ≤ _; exact Nat.le_of_eq rfl) (hb hby at_402) (by decide) (by decide)
            obtain ⟨c176, rfl, hr176, Nq176, eq176⟩ := hQ176
            have N176 := Fr.app N175 Nq176
            refine goW st176 ?_
            show OwnEndW _ _ _ _ _ _ _ (T176.setTop (mkF m 405 (fL23 p0 p1 p2 p3 x1 x2 b x3 x4 x6_s0 (10 : Int32) b157) [(.int c176), (.int (9 : Int32)), (.ref b157)]))
            obtain ⟨T177, h177, X177, e177, W177, V_b157', st177⟩ := stCv X176 hx hZ eq176 V_b157 (j := (9 : Int32)) (i := 9) (by decide) (by decide) (by decide) (Nat.le_of_ble_eq_true rfl) (g := (mkF m 405 (fL23 p0 p1 p2 p3 x1 x2 b x3 x4 x6_s0 (10 : Int32) b157) [(.int c176), (.int (9 : Int32)), (.ref b157)])) rfl rfl (hb hby at_405)
            have N177 := Fr.snoc X177 N176 g_b157
            rw [own_narc hr176] at V_b157'
            have HCn := HC.trans (CHr.wr W177 sf_b157 HC.1)
            have sf_b157n := Safe.wr W177 sf_b157 HC.1 sf_b157
            have HC := HCn
            have sf_b157 := sf_b157n
            have Z0 := Nat.le_trans Z0 (Keep.of_wr W177).1
            have O := O.wr W177 g_b157
            have hk := Nat.le_trans hk (Keep.of_wr W177).1
            have SC := SC.wr W177
            have SK0 := SK0.wr W177
            have SK1 := SK1.wr W177
            have SK2 := SK2.wr W177
            have EB := EB.wr W177
            have VB := VB.other W177 (Or.inl ne_b_b157)
            have DB := DB.other W177 (Or.inl ne_b_b157)
            have AB := AB.other W177 ne_t_b157
            have V_b157 : Arv Z h177 b157 k157 .char (10 : Int32) [(.int c158), (.int c160), (.int c162), (.int c164), (.int c166), (.int c168), (.int c170), (.int c172), (.int c174), (.int c176)] (.int (0 : Int32)) := V_b157'
            refine goW st177 ?_
            show OwnEndW _ _ _ _ _ _ _ (T177.setTop (mkF m 406 (fL23 p0 p1 p2 p3 x1 x2 b x3 x4 x6_s0 (10 : Int32) b157) []))
            obtain ⟨T178, h178, X178, e178, E178, A178, D178, -, st178⟩ := newO X177 hx hZ hown (hw _ (List.mem_of_getElem? (i := 49) rfl)) (hw _ (List.mem_of_getElem? (i := 2) rfl)) (hw _ (List.mem_of_getElem? (i := 1) rfl)) e177 (g := (mkF m 406 (fL23 p0 p1 p2 p3 x1 x2 b x3 x4 x6_s0 (10 : Int32) b157) [])) rfl (hb hby at_406) (by decide) (by decide)
            obtain ⟨b178, g178⟩ : ∃ z, z = h177.size := ⟨_, rfl⟩
            rw [← g178] at A178 D178 st178
            have ne_b_b178 : b ≠ b178 := fun q => absurd EB.lt (by rw [q, g178]; exact Nat.lt_irrefl _)
            have ne_t_b178 : t ≠ b178 := fun q => absurd AB.lt (by rw [q, g178]; exact Nat.lt_irrefl _)
            have ne_b157_b178 : b157 ≠ b178 := fun q => absurd V_b157.lt (by rw [q, g178]; exact Nat.lt_irrefl _)
            have sf_b178 : Safe Z own_EL vm1 h177 b178 := Safe.new (Nat.le_of_eq g178.symm)
            have g_b178 : n0 ≤ b178 := Nat.le_trans Z0 (Nat.le_of_eq g178.symm)
            have sf_b157 := Safe.ext E178 HC.1 sf_b157
            have sf_b178 := Safe.ext E178 HC.1 sf_b178
            have HC := HC.trans (CHr.ext E178 HC.1)
            have Z0 := Nat.le_trans Z0 E178.1
            have O := O.ext E178
            have hk := Nat.le_trans hk E178.1
            have SC := SC.ext E178
            have SK0 := SK0.ext E178
            have SK1 := SK1.ext E178
            have SK2 := SK2.ext E178
            have EB := EB.ext E178
            have VB := VB.ext E178
            have DB := DB.ext E178
            have AB := AB.ext E178
            have V_b157 := V_b157.ext E178
            have F_value_b178 : Fld Z h178 b178 "java/lang/String" "value" "[B" .null := D178 (Or.inr (hw _ (List.mem_of_getElem? (i := 4) rfl))) (ty := (.array .byte)) (by decide)
            have F_coder_b178 : Fld Z h178 b178 "java/lang/String" "coder" "B" (.int (0 : Int32)) := D178 (Or.inr (hw _ (List.mem_of_getElem? (i := 5) rfl))) (ty := .byte) (by decide)
            have E_b178 := A178
            refine goW st178 ?_
            refine goW (fun _ k => by refine XS.dup X178.here hx rfl (hb hby at_409) rfl rfl ?_; exact k) ?_
            refine goW (fun _ k => by refine XS.aload X178.here hx rfl (hb hby at_410) rfl rfl ?_; exact k) ?_
            show OwnEndW _ _ _ _ _ _ _ (T178.setTop (mkF m 412 (fL23 p0 p1 p2 p3 x1 x2 b x3 x4 x6_s0 (10 : Int32) b157) [(.ref b157), (.ref b178), (.ref b178)]))
            have hp179 : ∀ c ∈ ([c158, c160, c162, c164, c166, c168, c170, c172, c174, c176] : List Int32), ¬ c < 0 ∧ ¬ (255 : Int32) < c := by
              intro c hc
              simp only [List.mem_cons, List.not_mem_nil, or_false] at hc
              rcases hc with rfl | rfl | rfl | rfl | rfl | rfl | rfl | rfl | rfl | rfl
              · exact hr158
              · exact hr160
              · exact hr162
              · exact hr164
              · exact hr166
              · exact hr168
              · exact hr170
              · exact hr172
              · exact hr174
              · exact hr176
            obtain ⟨_, T179, L179, X179, hQ179, st179⟩ := callInitB X178 hx hZ hown rfl (hw _ (List.mem_of_getElem? (i := 50) rfl)) (hw _ (List.mem_of_getElem? (i := 51) rfl)) (hw _ (List.mem_of_getElem? (i := 52) rfl)) (by decide) (StrChars.Road.backV (W := 1) hZ (fun d hd => hw d ((by decide +kernel : ∀ d ∈ StrChars.Road.words, d ∈ tables_1) d hd)) (kI := 4) (hw _ (List.mem_of_getElem? (i := 2) rfl)) (cs := ([c158, c160, c162, c164, c166, c168, c170, c172, c174, c176] : List Int32)) (bs := (([c158, c160, c162, c164, c166, c168, c170, c172, c174, c176] : List Int32)).map (fun c => c.toInt8.toInt32)) (n := 10) g_b178 Z0 E_b178 F_value_b178 F_coder_b178 V_b157 SC c1 rfl rfl (by decide) (by decide) hp179 rfl (by decide) (by decide)) e178 (g := (mkF m 412 (fL23 p0 p1 p2 p3 x1 x2 b x3 x4 x6_s0 (10 : Int32) b157) [(.ref b157), (.ref b178), (.ref b178)])) rfl (by rw [hml]; rfl) (argsL := [(.ref b157)]) (rest := [(.ref b178)]) rfl (lenOf pd___C_V rfl) rfl (by show 2 * 0 + _ ≤ _; exact Nat.le_of_eq rfl) (hb hby at_412) (by decide) (by decide)
            obtain ⟨rfl, Nq179, K179, E_b178, F_coder_b178, t179, kb179, g_t179, sq179, nt179, F_value_b178, V_t179⟩ := hQ179
            have N179 := Fr.app N177 Nq179
            have HCn := HC.trans (CHr.keep K179 (sfS sf_b178 sf0) HC.1)
            have sf_b157n := Safe.keep K179 (sfS sf_b178 sf0) HC.1 sf_b157
            have sf_b178n := Safe.keep K179 (sfS sf_b178 sf0) HC.1 sf_b178
            have HC := HCn
            have sf_b157 := sf_b157n
            have sf_b178 := sf_b178n
            have Z0 := Nat.le_trans Z0 K179.1
            have O := O.keep K179 (allS g_b178 all0)
            have hk := Nat.le_trans hk K179.1
            have EB := EB.keep K179
            have VB := VB.keep K179 (ninS ne_b_b178 nin0)
            have DB := DB.keep K179 (ninS ne_b_b178 nin0)
            have AB := AB.keep K179 (ninS ne_t_b178 nin0)
            have V_b157 := V_b157.keep K179 (ninS ne_b157_b178 nin0)
            have SC := SC0.ext O.2
            have SK0 := M0.ext O.2
            have SK1 := M1.ext O.2
            have SK2 := M2.ext O.2
            refine goW st179 ?_
            refine goW (fun _ k => by refine XS.astore X179.here hx rfl (hb hby at_415) rfl rfl (l' := (fL22 p0 p1 p2 p3 x1 x2 b x3 x4 x6_s0 (10 : Int32) b178 b157)) rfl ?_; exact k) ?_
            exact J417 vm1 _ _ _ _ (10 : Int32) (.val (.ref b157)) b178 t179 kb179 ([c158, c160, c162, c164, c166, c168, c170, c172, c174, c176] : List Int32) (One.val rfl) (up X179 (by decide) (by decide)) N179 rfl hS hk hZ hown HC O Z0 hp179 (Nat.le_of_ble_eq_true rfl) E_b178 F_value_b178 F_coder_b178 V_t179
        show OwnEndW _ _ _ _ _ _ _ (T20.setTop (mkF m 145 (fL19 p0 p1 p2 p3 x1 x2 b x3 x4 x6_s0 x20_10) []))
        refine goW (fun _ k => by refine XS.iload X20.here hx rfl (hb hby at_145) rfl ?_; exact k) ?_
        refine goW (fun _ k => by refine XS.iconst X20.here hx rfl (hb hby at_147) ?_; exact k) ?_
        show OwnEndW _ _ _ _ _ _ _ (T20.setTop (mkF m 148 (fL19 p0 p1 p2 p3 x1 x2 b x3 x4 x6_s0 x20_10) [(.int (3 : Int32)), (.int x1)]))
        by_cases hc148_180 : x1 = (3 : Int32)
        · refine goW (fun _ k => by refine XS.icmpNo X20.here hx rfl (hb hby at_148) rfl (teq hc148_180).2 ?_; exact k) ?_
          show OwnEndW _ _ _ _ _ _ _ (T20.setTop (mkF m 151 (fL19 p0 p1 p2 p3 x1 x2 b x3 x4 x6_s0 x20_10) []))
          refine goW (fun _ k => by refine XS.iload X20.here hx rfl (hb hby at_151) rfl ?_; exact k) ?_
          show OwnEndW _ _ _ _ _ _ _ (T20.setTop (mkF m 153 (fL19 p0 p1 p2 p3 x1 x2 b x3 x4 x6_s0 x20_10) [(.int x2)]))
          by_cases hc153_181 : x2 = (0 : Int32)
          · refine goW (fun _ k => by refine XS.ifNo X20.here hx rfl (hb hby at_153) rfl ((if0 _ _).trans (teq hc153_181).2) ?_; exact k) ?_
            show OwnEndW _ _ _ _ _ _ _ (T20.setTop (mkF m 156 (fL19 p0 p1 p2 p3 x1 x2 b x3 x4 x6_s0 x20_10) []))
            refine goW (fun _ k => by refine XS.iloadN X20.here hx rfl (hb hby at_156) rfl ?_; exact k) ?_
            refine goW (fun _ k => by refine XS.iconst X20.here hx rfl (hb hby at_157) ?_; exact k) ?_
            refine goW (fun _ k => by refine XS.iand X20.here hx rfl (hb hby at_158) rfl ?_; exact k) ?_
            refine goW (fun _ k => by refine XS.iconst X20.here hx rfl (hb hby at_159) ?_; exact k) ?_
            show OwnEndW _ _ _ _ _ _ _ (T20.setTop (mkF m 160 (fL19 p0 p1 p2 p3 x1 x2 b x3 x4 x6_s0 x20_10) [(.int (1 : Int32)), (.int (p3 &&& (1 : Int32)))]))
            by_cases hc160_182 : (p3 &&& (1 : Int32)) = (1 : Int32)
            · refine goW (fun _ k => by refine XS.icmpNo X20.here hx rfl (hb hby at_160) rfl (teq hc160_182).2 ?_; exact k) ?_
              show OwnEndW _ _ _ _ _ _ _ (T20.setTop (mkF m 163 (fL19 p0 p1 p2 p3 x1 x2 b x3 x4 x6_s0 x20_10) []))
              refine goW (fun _ k => by refine XS.aconstNull X20.here hx rfl (hb hby at_163) ?_; exact k) ?_
              refine goW (fun _ k => by refine XS.astore X20.here hx rfl (hb hby at_164) rfl rfl (l' := (fL24 p0 p1 p2 p3 x1 x2 b x3 x4 x6_s0 x20_10)) rfl ?_; exact k) ?_
              refine goW (fun _ k => by refine XS.goto X20.here hx rfl (pc0 := 166) (pc' := 417) rfl (hb hby at_166) (by decide) (by decide) ?_; exact k) ?_
              refine goW (fun _ k => by refine XS.aload X20.here hx rfl (hb hby at_417) rfl rfl ?_; exact k) ?_
              show OwnEndW _ _ _ _ _ _ _ (T20.setTop (mkF m 419 (fL24 p0 p1 p2 p3 x1 x2 b x3 x4 x6_s0 x20_10) [.null]))
              refine goW (fun _ k => by refine XS.ifnonnullNo X20.here hx rfl (hb hby at_419) rfl ?_; exact k) ?_
              refine goW (fun _ k => by refine XS.aconstNull X20.here hx rfl (hb hby at_422) ?_; exact k) ?_
              refine goW (fun _ k => by refine XS.astore X20.here hx rfl (hb hby at_423) rfl rfl (l' := (fL25 p0 p1 p2 p3 x1 x2 b x3 x4 x6_s0 x20_10)) rfl ?_; exact k) ?_
              refine goW (fun _ k => by refine XS.goto X20.here hx rfl (pc0 := 425) (pc' := 485) rfl (hb hby at_425) (by decide) (by decide) ?_; exact k) ?_
              show OwnEndW _ _ _ _ _ _ _ (T20.setTop (mkF m 485 (fL25 p0 p1 p2 p3 x1 x2 b x3 x4 x6_s0 x20_10) []))
              refine goW (fun _ k => by refine XS.aload X20.here hx rfl (hb hby at_485) rfl rfl ?_; exact k) ?_
              show OwnEndW _ _ _ _ _ _ _ (T20.setTop (mkF m 487 (fL25 p0 p1 p2 p3 x1 x2 b x3 x4 x6_s0 x20_10) [.null]))
              obtain ⟨_, T183, L183, X183, hQ183, st183⟩ := callStat X20 hx hZ hown (hw _ (List.mem_of_getElem? (i := 82) rfl)) (hw _ (List.mem_of_getElem? (i := 83) rfl)) (hw _ (List.mem_of_getElem? (i := 80) rfl)) (hw _ (List.mem_of_getElem? (i := 84) rfl)) (by decide) (rm_ofn l Z a0 hw [] cs va vk w0 w1 w2 nn0 nn1 nn2 tn0 tn1 tn2 kn0 kn1 kn2 h1 n0 Z0 O SC0 c1 SV VV EV EW0 FN0 EN0 VN0 DN0 AN0 EW1 FN1 EN1 VN1 DN1 AN1 EW2 FN2 EN2 VN2 DN2 AN2) (W := 0) (by decide) (by decide) e20 (g := (mkF m 487 (fL25 p0 p1 p2 p3 x1 x2 b x3 x4 x6_s0 x20_10) [.null])) rfl (by rw [hml]; rfl) (argsL := [.null]) (rest := []) rfl (lenOf pd__Ljava_lang_String__Lcom_example_minder_minder_model_ClockValue_ rfl) rfl (by show 2 * 0 + _ ≤ _; exact Nat.le_of_eq rfl) (hb hby at_487) (by decide) (by decide)
              obtain ⟨hv183, Nq183, K183⟩ := hQ183
              subst hv183
              have N183 := Fr.app N20 Nq183
              have HCn := HC.trans (CHr.keep K183 sf0 HC.1)
              have HC := HCn
              have Z0 := Nat.le_trans Z0 K183.1
              have O := O.keep K183 all0
              have hk := Nat.le_trans hk K183.1
              have EB := EB.keep K183
              have VB := VB.keep K183 nin0
              have DB := DB.keep K183 nin0
              have AB := AB.keep K183 nin0
              have SC := SC0.ext O.2
              have SK0 := M0.ext O.2
              have SK1 := M1.ext O.2
              have SK2 := M2.ext O.2
              refine goW st183 ?_
              refine goW (fun _ k => by refine XS.aload X183.here hx rfl (hb hby at_490) rfl rfl ?_; exact k) ?_
              show OwnEndW _ _ _ _ _ _ _ (T183.setTop (mkF m 492 (fL25 p0 p1 p2 p3 x1 x2 b x3 x4 x6_s0 x20_10) [.null, .null]))
              refine goW (fun t k => Jvm.RoadKit.acmp (g := (mkF m 492 (fL25 p0 p1 p2 p3 x1 x2 b x3 x4 x6_s0 x20_10) [.null, .null])) X183 hx rfl rfl rfl (pc0 := 492) (pc' := 495) (same := true) rfl (hb hby at_492) rfl (decide_eq_true rfl) (by decide) (by decide) k) ?_
              refine goW (fun _ k => by refine XS.iconst X183.here hx rfl (hb hby at_495) ?_; exact k) ?_
              refine goW (fun _ k => by refine XS.goto X183.here hx rfl (pc0 := 496) (pc' := 500) rfl (hb hby at_496) (by decide) (by decide) ?_; exact k) ?_
              show OwnEndW _ _ _ _ _ _ _ (T183.setTop (mkF m 500 (fL25 p0 p1 p2 p3 x1 x2 b x3 x4 x6_s0 x20_10) [(.int (1 : Int32))]))
              refine endNW (vm₁ := vm1) X183 hS hk hx hlk (t := .boolean) (by simp) Bd.returns (hb hby at_500) rfl (by decide) (by decide) ?_
              exact ⟨rfl, N183⟩
            · refine goW (fun _ k => by refine XS.icmpYes X20.here hx rfl (pc0 := 160) (pc' := 169) rfl (hb hby at_160) rfl (feq hc160_182).2 (by decide) (by decide) ?_; exact k) ?_
              exact J169
          · refine goW (fun _ k => by refine XS.ifYes X20.here hx rfl (pc0 := 153) (pc' := 169) rfl (hb hby at_153) rfl ((if0 _ _).trans (feq hc153_181).2) (by decide) (by decide) ?_; exact k) ?_
            exact J169
        · refine goW (fun _ k => by refine XS.icmpYes X20.here hx rfl (pc0 := 148) (pc' := 169) rfl (hb hby at_148) rfl (feq hc148_180).2 (by decide) (by decide) ?_; exact k) ?_
          exact J169
      by_cases hc85_7 : x2 = (0 : Int32)
      · refine goW (fun _ k => by refine XS.ifYes X1.here hx rfl (pc0 := 85) (pc' := 94) rfl (hb hby at_85) rfl ((if0 _ _).trans (teq hc85_7).1) (by decide) (by decide) ?_; exact k) ?_
        show OwnEndW _ _ _ _ _ _ _ (T1.setTop (mkF m 94 (fL18 p0 p1 p2 p3 x1 x2 b x3 x4 x6_s0) []))
        refine goW (fun _ k => by refine XS.aload X1.here hx rfl (hb hby at_94) rfl rfl ?_; exact k) ?_
        show OwnEndW _ _ _ _ _ _ _ (T1.setTop (mkF m 96 (fL18 p0 p1 p2 p3 x1 x2 b x3 x4 x6_s0) [(.ref b)]))
        obtain ⟨_, T8, L8, X8, hQ8, st8⟩ := callVirtB X1 hx hZ hown (hw _ (List.mem_of_getElem? (i := 9) rfl)) (hw _ (List.mem_of_getElem? (i := 10) rfl)) (notFace_of_selects (args := #[]) (mvT hZ (hw _ (List.mem_of_getElem? (i := 12) rfl)))) (hw _ (List.mem_of_getElem? (i := 12) rfl)) (hw _ (List.mem_of_getElem? (i := 11) rfl)) (by decide) (Qc := fun v hp L => v = some (.int (Int32.ofNat bs.length)) ∧ L = [] ∧ hp = h1) (StrChars.Road.lenW (W := 0) hZ (fun d hd => hw d ((by decide +kernel : ∀ d ∈ StrChars.Road.wordsLen, d ∈ tables_1) d hd)) (kI := 4) (hw _ (List.mem_of_getElem? (i := 2) rfl)) EB VB DB AB (StrChars.Road.codOf rfl (fun c hc => (hbs c hc).2)) (own_up _ hbs) (SC0.ext O.2) c1 (Nat.le_trans lbs (by decide)) (by decide) (by decide)) e1 EB (g := (mkF m 96 (fL18 p0 p1 p2 p3 x1 x2 b x3 x4 x6_s0) [(.ref b)])) rfl (by rw [hml]; rfl) (argsL := []) (rest := []) rfl (lenOf pd___I rfl) rfl (by show 2 * 0 + _ ≤ _; exact Nat.le_of_eq rfl) (hb hby at_96) (by decide) (by decide)
        obtain ⟨hv8, rfl, eq8⟩ := hQ8
        obtain rfl := hv8
        rw [List.append_nil] at X8
        refine goW st8 ?_
        refine goW (fun _ k => by refine XS.istore X8.here hx rfl (hb hby at_99) rfl (l' := (fL19 p0 p1 p2 p3 x1 x2 b x3 x4 x6_s0 (Int32.ofNat bs.length))) rfl ?_; exact k) ?_
        show OwnEndW _ _ _ _ _ _ _ (T8.setTop (mkF m 101 (fL19 p0 p1 p2 p3 x1 x2 b x3 x4 x6_s0 (Int32.ofNat bs.length)) []))
        generalize qx9 : (Int32.ofNat bs.length) = x9
        refine goW (fun _ k => by refine XS.goto X8.here hx rfl (pc0 := 101) (pc' := 145) rfl (hb hby at_101) (by decide) (by decide) ?_; exact k) ?_
        exact J20 x9 (by subst qx9; rw [if_pos hc85_7]) _ _ X8 N1 eq8
      · refine goW (fun _ k => by refine XS.ifNo X1.here hx rfl (hb hby at_85) rfl ((if0 _ _).trans (feq hc85_7).1) ?_; exact k) ?_
        show OwnEndW _ _ _ _ _ _ _ (T1.setTop (mkF m 88 (fL18 p0 p1 p2 p3 x1 x2 b x3 x4 x6_s0) []))
        refine goW (fun _ k => by refine XS.iload X1.here hx rfl (hb hby at_88) rfl ?_; exact k) ?_
        refine goW (fun _ k => by refine XS.iconst X1.here hx rfl (hb hby at_90) ?_; exact k) ?_
        show OwnEndW _ _ _ _ _ _ _ (T1.setTop (mkF m 91 (fL18 p0 p1 p2 p3 x1 x2 b x3 x4 x6_s0) [(.int (1 : Int32)), (.int x2)]))
        by_cases hc91_10 : x2 = (1 : Int32)
        · refine goW (fun _ k => by refine XS.icmpNo X1.here hx rfl (hb hby at_91) rfl (teq hc91_10).2 ?_; exact k) ?_
          show OwnEndW _ _ _ _ _ _ _ (T1.setTop (mkF m 94 (fL18 p0 p1 p2 p3 x1 x2 b x3 x4 x6_s0) []))
          refine goW (fun _ k => by refine XS.aload X1.here hx rfl (hb hby at_94) rfl rfl ?_; exact k) ?_
          show OwnEndW _ _ _ _ _ _ _ (T1.setTop (mkF m 96 (fL18 p0 p1 p2 p3 x1 x2 b x3 x4 x6_s0) [(.ref b)]))
          obtain ⟨_, T11, L11, X11, hQ11, st11⟩ := callVirtB X1 hx hZ hown (hw _ (List.mem_of_getElem? (i := 9) rfl)) (hw _ (List.mem_of_getElem? (i := 10) rfl)) (notFace_of_selects (args := #[]) (mvT hZ (hw _ (List.mem_of_getElem? (i := 12) rfl)))) (hw _ (List.mem_of_getElem? (i := 12) rfl)) (hw _ (List.mem_of_getElem? (i := 11) rfl)) (by decide) (Qc := fun v hp L => v = some (.int (Int32.ofNat bs.length)) ∧ L = [] ∧ hp = h1) (StrChars.Road.lenW (W := 0) hZ (fun d hd => hw d ((by decide +kernel : ∀ d ∈ StrChars.Road.wordsLen, d ∈ tables_1) d hd)) (kI := 4) (hw _ (List.mem_of_getElem? (i := 2) rfl)) EB VB DB AB (StrChars.Road.codOf rfl (fun c hc => (hbs c hc).2)) (own_up _ hbs) (SC0.ext O.2) c1 (Nat.le_trans lbs (by decide)) (by decide) (by decide)) e1 EB (g := (mkF m 96 (fL18 p0 p1 p2 p3 x1 x2 b x3 x4 x6_s0) [(.ref b)])) rfl (by rw [hml]; rfl) (argsL := []) (rest := []) rfl (lenOf pd___I rfl) rfl (by show 2 * 0 + _ ≤ _; exact Nat.le_of_eq rfl) (hb hby at_96) (by decide) (by decide)
          obtain ⟨hv11, rfl, eq11⟩ := hQ11
          obtain rfl := hv11
          rw [List.append_nil] at X11
          refine goW st11 ?_
          refine goW (fun _ k => by refine XS.istore X11.here hx rfl (hb hby at_99) rfl (l' := (fL19 p0 p1 p2 p3 x1 x2 b x3 x4 x6_s0 (Int32.ofNat bs.length))) rfl ?_; exact k) ?_
          show OwnEndW _ _ _ _ _ _ _ (T11.setTop (mkF m 101 (fL19 p0 p1 p2 p3 x1 x2 b x3 x4 x6_s0 (Int32.ofNat bs.length)) []))
          generalize qx12 : (Int32.ofNat bs.length) = x12
          refine goW (fun _ k => by refine XS.goto X11.here hx rfl (pc0 := 101) (pc' := 145) rfl (hb hby at_101) (by decide) (by decide) ?_; exact k) ?_
          exact J20 x12 (by subst qx12; rw [if_neg hc85_7, if_pos hc91_10]) _ _ X11 N1 eq11
        · refine goW (fun _ k => by refine XS.icmpYes X1.here hx rfl (pc0 := 91) (pc' := 104) rfl (hb hby at_91) rfl (feq hc91_10).2 (by decide) (by decide) ?_; exact k) ?_
          show OwnEndW _ _ _ _ _ _ _ (T1.setTop (mkF m 104 (fL18 p0 p1 p2 p3 x1 x2 b x3 x4 x6_s0) []))
          refine goW (fun _ k => by refine XS.iload X1.here hx rfl (hb hby at_104) rfl ?_; exact k) ?_
          refine goW (fun _ k => by refine XS.iconst X1.here hx rfl (hb hby at_106) ?_; exact k) ?_
          show OwnEndW _ _ _ _ _ _ _ (T1.setTop (mkF m 107 (fL18 p0 p1 p2 p3 x1 x2 b x3 x4 x6_s0) [(.int (2 : Int32)), (.int x2)]))
          by_cases hc107_13 : x2 = (2 : Int32)
          · refine goW (fun _ k => by refine XS.icmpNo X1.here hx rfl (hb hby at_107) rfl (teq hc107_13).2 ?_; exact k) ?_
            show OwnEndW _ _ _ _ _ _ _ (T1.setTop (mkF m 110 (fL18 p0 p1 p2 p3 x1 x2 b x3 x4 x6_s0) []))
            refine goW (fun _ k => by refine XS.iconst X1.here hx rfl (hb hby at_110) ?_; exact k) ?_
            refine goW (fun _ k => by refine XS.aload X1.here hx rfl (hb hby at_111) rfl rfl ?_; exact k) ?_
            show OwnEndW _ _ _ _ _ _ _ (T1.setTop (mkF m 113 (fL18 p0 p1 p2 p3 x1 x2 b x3 x4 x6_s0) [(.ref b), (.int (0 : Int32))]))
            obtain ⟨_, T14, L14, X14, hQ14, st14⟩ := callVirtB X1 hx hZ hown (hw _ (List.mem_of_getElem? (i := 9) rfl)) (hw _ (List.mem_of_getElem? (i := 10) rfl)) (notFace_of_selects (args := #[]) (mvT hZ (hw _ (List.mem_of_getElem? (i := 12) rfl)))) (hw _ (List.mem_of_getElem? (i := 12) rfl)) (hw _ (List.mem_of_getElem? (i := 11) rfl)) (by decide) (Qc := fun v hp L => v = some (.int (Int32.ofNat bs.length)) ∧ L = [] ∧ hp = h1) (StrChars.Road.lenW (W := 1) hZ (fun d hd => hw d ((by decide +kernel : ∀ d ∈ StrChars.Road.wordsLen, d ∈ tables_1) d hd)) (kI := 4) (hw _ (List.mem_of_getElem? (i := 2) rfl)) EB VB DB AB (StrChars.Road.codOf rfl (fun c hc => (hbs c hc).2)) (own_up _ hbs) (SC0.ext O.2) c1 (Nat.le_trans lbs (by decide)) (by decide) (by decide)) e1 EB (g := (mkF m 113 (fL18 p0 p1 p2 p3 x1 x2 b x3 x4 x6_s0) [(.ref b), (.int (0 : Int32))])) rfl (by rw [hml]; rfl) (argsL := []) (rest := [(.int (0 : Int32))]) rfl (lenOf pd___I rfl) rfl (by show 2 * 0 + _ ≤ _; exact Nat.le_of_eq rfl) (hb hby at_113) (by decide) (by decide)
            obtain ⟨hv14, rfl, eq14⟩ := hQ14
            obtain rfl := hv14
            rw [List.append_nil] at X14
            refine goW st14 ?_
            refine goW (fun _ k => by refine XS.iloadN X14.here hx rfl (hb hby at_116) rfl ?_; exact k) ?_
            refine goW (fun _ k => by refine XS.iconst X14.here hx rfl (hb hby at_117) ?_; exact k) ?_
            refine goW (fun _ k => by refine XS.iand X14.here hx rfl (hb hby at_118) rfl ?_; exact k) ?_
            show OwnEndW _ _ _ _ _ _ _ (T14.setTop (mkF m 119 (fL18 p0 p1 p2 p3 x1 x2 b x3 x4 x6_s0) [(.int (p3 &&& (1 : Int32))), (.int (Int32.ofNat bs.length)), (.int (0 : Int32))]))
            have J16 : ∀ (x16_s0 : Int32) (qx16_s0 : x16_s0 = (if (p3 &&& (1 : Int32)) = (0 : Int32) then (1 : Int32) else (-1 : Int32))), OwnEndW p e below s (Q_rm_law Z p0 p1 p2 p3 cs va vk w0 w1 w2 nn0 nn1 nn2 tn0 tn1 tn2 kn0 kn1 kn2 fm h0 n0) 32 5312 (T14.setTop (mkF m 127 (fL18 p0 p1 p2 p3 x1 x2 b x3 x4 x6_s0) [(.int x16_s0), (.int (Int32.ofNat bs.length)), (.int (0 : Int32))])) := by
              intro x16_s0 qx16_s0
              show OwnEndW _ _ _ _ _ _ _ (T14.setTop (mkF m 127 (fL18 p0 p1 p2 p3 x1 x2 b x3 x4 x6_s0) [(.int x16_s0), (.int (Int32.ofNat bs.length)), (.int (0 : Int32))]))
              refine goW (fun _ k => by refine XS.iadd X14.here hx rfl (hb hby at_127) rfl ?_; exact k) ?_
              show OwnEndW _ _ _ _ _ _ _ (T14.setTop (mkF m 128 (fL18 p0 p1 p2 p3 x1 x2 b x3 x4 x6_s0) [(.int ((Int32.ofNat bs.length) + x16_s0)), (.int (0 : Int32))]))
              obtain ⟨_, T17, L17, X17, hQ17, st17⟩ := callStat X14 hx hZ hown (hw _ (List.mem_of_getElem? (i := 108) rfl)) (hw _ (List.mem_of_getElem? (i := 109) rfl)) (hw _ (List.mem_of_getElem? (i := 110) rfl)) (hw _ (List.mem_of_getElem? (i := 111) rfl)) (by decide) (rm_max l Z a0 hw [] (0 : Int32) ((Int32.ofNat bs.length) + x16_s0) h1 n0 ) (W := 0) (by decide) (by decide) eq14 (g := (mkF m 128 (fL18 p0 p1 p2 p3 x1 x2 b x3 x4 x6_s0) [(.int ((Int32.ofNat bs.length) + x16_s0)), (.int (0 : Int32))])) rfl (by rw [hml]; rfl) (argsL := [(.int (0 : Int32)), (.int ((Int32.ofNat bs.length) + x16_s0))]) (rest := []) rfl (lenOf pd__II_I rfl) rfl (by show 2 * 0 + _ ≤ _; exact Nat.le_of_eq rfl) (hb hby at_128) (by decide) (by decide)
              obtain ⟨rfl, Nq17, eq17⟩ := hQ17
              have N17 := Fr.app N1 Nq17
              refine goW st17 ?_
              refine goW (fun _ k => by refine XS.istore X17.here hx rfl (hb hby at_131) rfl (l' := (fL19 p0 p1 p2 p3 x1 x2 b x3 x4 x6_s0 (own_max (0 : Int32) ((Int32.ofNat bs.length) + x16_s0)))) rfl ?_; exact k) ?_
              show OwnEndW _ _ _ _ _ _ _ (T17.setTop (mkF m 133 (fL19 p0 p1 p2 p3 x1 x2 b x3 x4 x6_s0 (own_max (0 : Int32) ((Int32.ofNat bs.length) + x16_s0))) []))
              generalize qx18 : (own_max (0 : Int32) ((Int32.ofNat bs.length) + x16_s0)) = x18
              refine goW (fun _ k => by refine XS.goto X17.here hx rfl (pc0 := 133) (pc' := 145) rfl (hb hby at_133) (by decide) (by decide) ?_; exact k) ?_
              exact J20 x18 (by subst qx18; subst qx16_s0; rw [if_neg hc85_7, if_neg hc91_10, if_pos hc107_13]) _ _ X17 N17 eq17
            by_cases hc119_15 : (p3 &&& (1 : Int32)) = (0 : Int32)
            · refine goW (fun _ k => by refine XS.ifNo X14.here hx rfl (hb hby at_119) rfl ((if0 _ _).trans (teq hc119_15).2) ?_; exact k) ?_
              show OwnEndW _ _ _ _ _ _ _ (T14.setTop (mkF m 122 (fL18 p0 p1 p2 p3 x1 x2 b x3 x4 x6_s0) [(.int (Int32.ofNat bs.length)), (.int (0 : Int32))]))
              refine goW (fun _ k => by refine XS.iconst X14.here hx rfl (hb hby at_122) ?_; exact k) ?_
              refine goW (fun _ k => by refine XS.goto X14.here hx rfl (pc0 := 123) (pc' := 127) rfl (hb hby at_123) (by decide) (by decide) ?_; exact k) ?_
              exact J16 (1 : Int32) (by rw [if_pos hc119_15])
            · refine goW (fun _ k => by refine XS.ifYes X14.here hx rfl (pc0 := 119) (pc' := 126) rfl (hb hby at_119) rfl ((if0 _ _).trans (feq hc119_15).2) (by decide) (by decide) ?_; exact k) ?_
              show OwnEndW _ _ _ _ _ _ _ (T14.setTop (mkF m 126 (fL18 p0 p1 p2 p3 x1 x2 b x3 x4 x6_s0) [(.int (Int32.ofNat bs.length)), (.int (0 : Int32))]))
              refine goW (fun _ k => by refine XS.iconst X14.here hx rfl (hb hby at_126) ?_; exact k) ?_
              exact J16 (-1 : Int32) (by rw [if_neg hc119_15])
          · refine goW (fun _ k => by refine XS.icmpYes X1.here hx rfl (pc0 := 107) (pc' := 136) rfl (hb hby at_107) rfl (feq hc107_13).2 (by decide) (by decide) ?_; exact k) ?_
            show OwnEndW _ _ _ _ _ _ _ (T1.setTop (mkF m 136 (fL18 p0 p1 p2 p3 x1 x2 b x3 x4 x6_s0) []))
            refine goW (fun _ k => by refine XS.iloadN X1.here hx rfl (hb hby at_136) rfl ?_; exact k) ?_
            show OwnEndW _ _ _ _ _ _ _ (T1.setTop (mkF m 137 (fL18 p0 p1 p2 p3 x1 x2 b x3 x4 x6_s0) [(.int p3)]))
            refine goW (X1.ldcInt hx hown (mvT hZ (hw _ (List.mem_of_getElem? (i := 8) rfl))) (g := (mkF m 137 (fL18 p0 p1 p2 p3 x1 x2 b x3 x4 x6_s0) [(.int p3)])) rfl (hb hby at_137)) ?_
            refine goW (fun _ k => by refine XS.iand X1.here hx rfl (hb hby at_139) rfl ?_; exact k) ?_
            refine goW (fun _ k => by refine XS.bipush X1.here hx rfl (hb hby at_140) ?_; exact k) ?_
            show OwnEndW _ _ _ _ _ _ _ (T1.setTop (mkF m 142 (fL18 p0 p1 p2 p3 x1 x2 b x3 x4 x6_s0) [(.int (11 : Int32)), (.int (p3 &&& (2147483647 : Int32)))]))
            refine goW (fun t k => iremM (g := (mkF m 142 (fL18 p0 p1 p2 p3 x1 x2 b x3 x4 x6_s0) [(.int (11 : Int32)), (.int (p3 &&& (2147483647 : Int32)))])) X1 hx rfl (hb hby at_142) rfl (by decide) k) ?_
            refine goW (fun _ k => by refine XS.istore X1.here hx rfl (hb hby at_143) rfl (l' := (fL19 p0 p1 p2 p3 x1 x2 b x3 x4 x6_s0 ((p3 &&& (2147483647 : Int32)) % (11 : Int32)))) rfl ?_; exact k) ?_
            show OwnEndW _ _ _ _ _ _ _ (T1.setTop (mkF m 145 (fL19 p0 p1 p2 p3 x1 x2 b x3 x4 x6_s0 ((p3 &&& (2147483647 : Int32)) % (11 : Int32))) []))
            generalize qx19 : ((p3 &&& (2147483647 : Int32)) % (11 : Int32)) = x19
            exact J20 x19 (by subst qx19; rw [if_neg hc85_7, if_neg hc91_10, if_neg hc107_13]) _ _ X1 N1 e1
    by_cases hc73_5 : x2 = (0 : Int32)
    · refine goW (fun _ k => by refine XS.ifYes X1.here hx rfl (pc0 := 73) (pc' := 80) rfl (hb hby at_73) rfl ((if0 _ _).trans (teq hc73_5).1) (by decide) (by decide) ?_; exact k) ?_
      show OwnEndW _ _ _ _ _ _ _ (T1.setTop (mkF m 80 (fL17 p0 p1 p2 p3 x1 x2 b x3 x4) []))
      refine goW (fun _ k => by refine XS.iconst X1.here hx rfl (hb hby at_80) ?_; exact k) ?_
      exact J6 (0 : Int32) (by rw [if_pos hc73_5])
    · refine goW (fun _ k => by refine XS.ifNo X1.here hx rfl (hb hby at_73) rfl ((if0 _ _).trans (feq hc73_5).1) ?_; exact k) ?_
      show OwnEndW _ _ _ _ _ _ _ (T1.setTop (mkF m 76 (fL17 p0 p1 p2 p3 x1 x2 b x3 x4) []))
      refine goW (fun _ k => by refine XS.iconst X1.here hx rfl (hb hby at_76) ?_; exact k) ?_
      refine goW (fun _ k => by refine XS.goto X1.here hx rfl (pc0 := 77) (pc' := 81) rfl (hb hby at_77) (by decide) (by decide) ?_; exact k) ?_
      exact J6 (1 : Int32) (by rw [if_neg hc73_5])
  refine goW (fun _ k => by refine XS.iload X0.here hx rfl (hb hby at_12) rfl ?_; exact k) ?_
  show OwnEndW _ _ _ _ _ _ _ (s₁.setTop (mkF m 14 (fL14 p0 p1 p2 p3 x1 x2) [(.int x1)]))
  by_cases hc14_184 : x1 = (0 : Int32)
  · refine goW (fun _ k => by refine XS.ifNo X0.here hx rfl (hb hby at_14) rfl ((if0 _ _).trans (teq hc14_184).2) ?_; exact k) ?_
    show OwnEndW _ _ _ _ _ _ _ (s₁.setTop (mkF m 17 (fL14 p0 p1 p2 p3 x1 x2) []))
    obtain ⟨b185, T185, h185, k185, t185, kb185, X185, e185, E185, hS, hk, hZ, hown, E_b185, FC_b185, FV_b185, V_t185, -, -, hC185, hL185, hne185, st185⟩ := ldcCH (vm0 := s.vm) (EL := own_EL) X0 hx hZ hown (hw _ (List.mem_of_getElem? (i := 0) rfl)) wS e0 hS hk hEL (List.mem_of_getElem? (i := 0) rfl) HC.1 (vs := [(.int (104 : Int32)), (.int (111 : Int32)), (.int (117 : Int32)), (.int (114 : Int32))]) (z := 4) ⟨by decide +kernel, by decide +kernel⟩ (by decide) (by decide) (g := (mkF m 17 (fL14 p0 p1 p2 p3 x1 x2) [])) rfl (hb hby at_17) (n := 16) (by decide) (by decide) (by decide) (by decide)
    have HC := HC.trans hC185
    have Z0 := Nat.le_trans Z0 E185.1
    have SC := SC.ext E185
    have O := O.ext E185
    have V_t185' : Arv Z h185 t185 kb185 .byte (Int32.ofNat ([(104 : Int32), (111 : Int32), (117 : Int32), (114 : Int32)] : List Int32).length) (own_vs ([(104 : Int32), (111 : Int32), (117 : Int32), (114 : Int32)] : List Int32)) (.int 0) := by rw [show own_vs ([(104 : Int32), (111 : Int32), (117 : Int32), (114 : Int32)] : List Int32) = [(.int (104 : Int32)), (.int (111 : Int32)), (.int (117 : Int32)), (.int (114 : Int32))] from by decide +kernel]; exact V_t185
    have V_t185 := V_t185'
    refine goW st185 ?_
    refine goW (fun _ k => by refine XS.astore X185.here hx rfl (hb hby at_19) rfl rfl (l' := (fL15 p0 p1 p2 p3 x1 x2 b185)) rfl ?_; exact k) ?_
    refine goW (fun _ k => by refine XS.goto X185.here hx rfl (pc0 := 21) (pc' := 54) rfl (hb hby at_21) (by decide) (by decide) ?_; exact k) ?_
    exact J54 T185.vm _ _ _ _ b185 t185 kb185 ([(104 : Int32), (111 : Int32), (117 : Int32), (114 : Int32)] : List Int32) (up X185 (by decide) (by decide)) N0 e185 hS hk hZ hown HC O Z0 (by decide) (by decide) E_b185 FV_b185 FC_b185 V_t185
  · refine goW (fun _ k => by refine XS.ifYes X0.here hx rfl (pc0 := 14) (pc' := 24) rfl (hb hby at_14) rfl ((if0 _ _).trans (feq hc14_184).2) (by decide) (by decide) ?_; exact k) ?_
    show OwnEndW _ _ _ _ _ _ _ (s₁.setTop (mkF m 24 (fL14 p0 p1 p2 p3 x1 x2) []))
    refine goW (fun _ k => by refine XS.iload X0.here hx rfl (hb hby at_24) rfl ?_; exact k) ?_
    refine goW (fun _ k => by refine XS.iconst X0.here hx rfl (hb hby at_26) ?_; exact k) ?_
    show OwnEndW _ _ _ _ _ _ _ (s₁.setTop (mkF m 27 (fL14 p0 p1 p2 p3 x1 x2) [(.int (1 : Int32)), (.int x1)]))
    by_cases hc27_186 : x1 = (1 : Int32)
    · refine goW (fun _ k => by refine XS.icmpNo X0.here hx rfl (hb hby at_27) rfl (teq hc27_186).2 ?_; exact k) ?_
      show OwnEndW _ _ _ _ _ _ _ (s₁.setTop (mkF m 30 (fL14 p0 p1 p2 p3 x1 x2) []))
      obtain ⟨b187, T187, h187, k187, t187, kb187, X187, e187, E187, hS, hk, hZ, hown, E_b187, FC_b187, FV_b187, V_t187, -, -, hC187, hL187, hne187, st187⟩ := ldcCH (vm0 := s.vm) (EL := own_EL) X0 hx hZ hown (hw _ (List.mem_of_getElem? (i := 105) rfl)) wS e0 hS hk hEL (List.mem_of_getElem? (i := 1) rfl) HC.1 (vs := [(.int (109 : Int32)), (.int (105 : Int32)), (.int (110 : Int32)), (.int (117 : Int32)), (.int (116 : Int32)), (.int (101 : Int32))]) (z := 6) ⟨by decide +kernel, by decide +kernel⟩ (by decide) (by decide) (g := (mkF m 30 (fL14 p0 p1 p2 p3 x1 x2) [])) rfl (hb hby at_30) (n := 24) (by decide) (by decide) (by decide) (by decide)
      have HC := HC.trans hC187
      have Z0 := Nat.le_trans Z0 E187.1
      have SC := SC.ext E187
      have O := O.ext E187
      have V_t187' : Arv Z h187 t187 kb187 .byte (Int32.ofNat ([(109 : Int32), (105 : Int32), (110 : Int32), (117 : Int32), (116 : Int32), (101 : Int32)] : List Int32).length) (own_vs ([(109 : Int32), (105 : Int32), (110 : Int32), (117 : Int32), (116 : Int32), (101 : Int32)] : List Int32)) (.int 0) := by rw [show own_vs ([(109 : Int32), (105 : Int32), (110 : Int32), (117 : Int32), (116 : Int32), (101 : Int32)] : List Int32) = [(.int (109 : Int32)), (.int (105 : Int32)), (.int (110 : Int32)), (.int (117 : Int32)), (.int (116 : Int32)), (.int (101 : Int32))] from by decide +kernel]; exact V_t187
      have V_t187 := V_t187'
      refine goW st187 ?_
      refine goW (fun _ k => by refine XS.astore X187.here hx rfl (hb hby at_32) rfl rfl (l' := (fL15 p0 p1 p2 p3 x1 x2 b187)) rfl ?_; exact k) ?_
      refine goW (fun _ k => by refine XS.goto X187.here hx rfl (pc0 := 34) (pc' := 54) rfl (hb hby at_34) (by decide) (by decide) ?_; exact k) ?_
      exact J54 T187.vm _ _ _ _ b187 t187 kb187 ([(109 : Int32), (105 : Int32), (110 : Int32), (117 : Int32), (116 : Int32), (101 : Int32)] : List Int32) (up X187 (by decide) (by decide)) N0 e187 hS hk hZ hown HC O Z0 (by decide) (by decide) E_b187 FV_b187 FC_b187 V_t187
    · refine goW (fun _ k => by refine XS.icmpYes X0.here hx rfl (pc0 := 27) (pc' := 37) rfl (hb hby at_27) rfl (feq hc27_186).2 (by decide) (by decide) ?_; exact k) ?_
      show OwnEndW _ _ _ _ _ _ _ (s₁.setTop (mkF m 37 (fL14 p0 p1 p2 p3 x1 x2) []))
      refine goW (fun _ k => by refine XS.iload X0.here hx rfl (hb hby at_37) rfl ?_; exact k) ?_
      refine goW (fun _ k => by refine XS.iconst X0.here hx rfl (hb hby at_39) ?_; exact k) ?_
      show OwnEndW _ _ _ _ _ _ _ (s₁.setTop (mkF m 40 (fL14 p0 p1 p2 p3 x1 x2) [(.int (2 : Int32)), (.int x1)]))
      by_cases hc40_188 : x1 = (2 : Int32)
      · refine goW (fun _ k => by refine XS.icmpNo X0.here hx rfl (hb hby at_40) rfl (teq hc40_188).2 ?_; exact k) ?_
        show OwnEndW _ _ _ _ _ _ _ (s₁.setTop (mkF m 43 (fL14 p0 p1 p2 p3 x1 x2) []))
        obtain ⟨b189, T189, h189, k189, t189, kb189, X189, e189, E189, hS, hk, hZ, hown, E_b189, FC_b189, FV_b189, V_t189, -, -, hC189, hL189, hne189, st189⟩ := ldcCH (vm0 := s.vm) (EL := own_EL) X0 hx hZ hown (hw _ (List.mem_of_getElem? (i := 106) rfl)) wS e0 hS hk hEL (List.mem_of_getElem? (i := 2) rfl) HC.1 (vs := [(.int (100 : Int32)), (.int (97 : Int32)), (.int (121 : Int32)), (.int (79 : Int32)), (.int (102 : Int32)), (.int (87 : Int32)), (.int (101 : Int32)), (.int (101 : Int32)), (.int (107 : Int32))]) (z := 9) ⟨by decide +kernel, by decide +kernel⟩ (by decide) (by decide) (g := (mkF m 43 (fL14 p0 p1 p2 p3 x1 x2) [])) rfl (hb hby at_43) (n := 36) (by decide) (by decide) (by decide) (by decide)
        have HC := HC.trans hC189
        have Z0 := Nat.le_trans Z0 E189.1
        have SC := SC.ext E189
        have O := O.ext E189
        have V_t189' : Arv Z h189 t189 kb189 .byte (Int32.ofNat ([(100 : Int32), (97 : Int32), (121 : Int32), (79 : Int32), (102 : Int32), (87 : Int32), (101 : Int32), (101 : Int32), (107 : Int32)] : List Int32).length) (own_vs ([(100 : Int32), (97 : Int32), (121 : Int32), (79 : Int32), (102 : Int32), (87 : Int32), (101 : Int32), (101 : Int32), (107 : Int32)] : List Int32)) (.int 0) := by rw [show own_vs ([(100 : Int32), (97 : Int32), (121 : Int32), (79 : Int32), (102 : Int32), (87 : Int32), (101 : Int32), (101 : Int32), (107 : Int32)] : List Int32) = [(.int (100 : Int32)), (.int (97 : Int32)), (.int (121 : Int32)), (.int (79 : Int32)), (.int (102 : Int32)), (.int (87 : Int32)), (.int (101 : Int32)), (.int (101 : Int32)), (.int (107 : Int32))] from by decide +kernel]; exact V_t189
        have V_t189 := V_t189'
        refine goW st189 ?_
        refine goW (fun _ k => by refine XS.astore X189.here hx rfl (hb hby at_45) rfl rfl (l' := (fL15 p0 p1 p2 p3 x1 x2 b189)) rfl ?_; exact k) ?_
        refine goW (fun _ k => by refine XS.goto X189.here hx rfl (pc0 := 47) (pc' := 54) rfl (hb hby at_47) (by decide) (by decide) ?_; exact k) ?_
        exact J54 T189.vm _ _ _ _ b189 t189 kb189 ([(100 : Int32), (97 : Int32), (121 : Int32), (79 : Int32), (102 : Int32), (87 : Int32), (101 : Int32), (101 : Int32), (107 : Int32)] : List Int32) (up X189 (by decide) (by decide)) N0 e189 hS hk hZ hown HC O Z0 (by decide) (by decide) E_b189 FV_b189 FC_b189 V_t189
      · refine goW (fun _ k => by refine XS.icmpYes X0.here hx rfl (pc0 := 40) (pc' := 50) rfl (hb hby at_40) rfl (feq hc40_188).2 (by decide) (by decide) ?_; exact k) ?_
        show OwnEndW _ _ _ _ _ _ _ (s₁.setTop (mkF m 50 (fL14 p0 p1 p2 p3 x1 x2) []))
        obtain ⟨b190, T190, h190, k190, t190, kb190, X190, e190, E190, hS, hk, hZ, hown, E_b190, FC_b190, FV_b190, V_t190, -, -, hC190, hL190, hne190, st190⟩ := ldcCH (vm0 := s.vm) (EL := own_EL) X0 hx hZ hown (hw _ (List.mem_of_getElem? (i := 107) rfl)) wS e0 hS hk hEL (List.mem_of_getElem? (i := 3) rfl) HC.1 (vs := []) (z := 0) ⟨by decide +kernel, by decide +kernel⟩ (by decide) (by decide) (g := (mkF m 50 (fL14 p0 p1 p2 p3 x1 x2) [])) rfl (hb hby at_50) (n := 0) (by decide) (by decide) (by decide) (by decide)
        have HC := HC.trans hC190
        have Z0 := Nat.le_trans Z0 E190.1
        have SC := SC.ext E190
        have O := O.ext E190
        have V_t190' : Arv Z h190 t190 kb190 .byte (Int32.ofNat ([] : List Int32).length) (own_vs ([] : List Int32)) (.int 0) := by rw [show own_vs ([] : List Int32) = [] from by decide +kernel]; exact V_t190
        have V_t190 := V_t190'
        refine goW st190 ?_
        refine goW (fun _ k => by refine XS.astore X190.here hx rfl (hb hby at_52) rfl rfl (l' := (fL15 p0 p1 p2 p3 x1 x2 b190)) rfl ?_; exact k) ?_
        exact J54 T190.vm _ _ _ _ b190 t190 kb190 ([] : List Int32) (up X190 (by decide) (by decide)) N0 e190 hS hk hZ hown HC O Z0 (by decide) (by decide) E_b190 FV_b190 FC_b190 V_t190
set_option maxRecDepth 65536 in
set_option maxHeartbeats 40000000 in
theorem comes_1 {Post : Tables → Env → Array Value → State → Outcome → State → Prop} (hpost : ∀ tb e args s v u, (limb_1_1.after args s (.returned v) u = true ∧ limb_1_2.after args s (.returned v) u = true ∧ True) → ReturnedEndW s (.returned v) u (Jvm.fieldLocs frame_1_writes args s ++ Jvm.arrayLocs frame_1_arrays args s ++ Jvm.staticLocs frame_1_statics s) 32 5312 → Post tb e args s (.returned v) u) :
    ArmFor flags0 classFile x code maxLocals ret World_1 tables_1 room_1 Calls_1 rest_1 Pre_1 Post := by
  intro l hfl _ _ p e ha hc hk s m args below hf hA hF happ hP
  obtain ⟨hcalls, hrest, hpre⟩ := hP
  obtain ⟨-, -, -, hnamed, -, -, -, hat⟩ := (Spec.applies_iff hf).mp happ
  obtain ⟨hg, hn⟩ := and_e (Cond.before_iff.mp (show (Jvm.Cond.and given_1 narrow_1).before args s = true from hpre))
  obtain ⟨gv1, gv2⟩ := and_e hg
  obtain ⟨gv3, gv4⟩ := and_e gv2
  obtain ⟨gv5, gv6⟩ := and_e gv4
  obtain ⟨gv7, gv8⟩ := and_e gv6
  obtain ⟨w0, w1, w2, w3, rfl⟩ : ∃ w0 w1 w2 w3 : Value, args = #[w0, w1, w2, w3] := by
    have hs : args.size = 4 := by simpa [Cond.value, given_1] using gv1
    obtain ⟨L⟩ := args
    match L, hs with
    | [w0, w1, w2, w3], _ => exact ⟨w0, w1, w2, w3, rfl⟩
  have hw := fun d (hd : d ∈ tables_1) => atoms_spec (ws := Jvm.Cond.code x code maxLocals ret :: tables_1) hat d (List.mem_cons_of_mem _ hd)
  have hfit : Fit s := fun {y c} hc i hi => by
    obtain ⟨ha, rfl⟩ := Array.getElem?_eq_some_iff.mp hc
    have q := List.all_eq_true.mp ((Array.all_eq_true_iff_forall_mem.mp hF) _ (Array.getElem_mem ha)) i (List.mem_range.mpr hi)
    simpa [Array.getElem?_eq_getElem hi] using q
  obtain ⟨hsets, hown0⟩ := atoms_of _ (rest_1_c_eq ▸ (show rest_1_c.before _ s = true from hrest))
  have hr0 := Cond.before_iff.mp hown0
  obtain ⟨i0, ei0⟩ := is_v gv3
  obtain rfl : w0 = (.int i0) := Option.some.inj ei0
  obtain ⟨i1, ei1⟩ := is_v gv5
  obtain rfl : w1 = (.int i1) := Option.some.inj ei1
  obtain ⟨i2, ei2⟩ := is_v gv7
  obtain rfl : w2 = (.int i2) := Option.some.inj ei2
  obtain ⟨i3, ei3⟩ := is_v gv8
  obtain rfl : w3 = (.int i3) := Option.some.inj ei3
  obtain ⟨cs, ecs⟩ := is_v (Cond.before_iff.mp (hsets _ (List.mem_of_getElem? (i := 1) rfl)))
  have SC0 : Sta s s.heap "java/lang/String" "COMPACT_STRINGS" "Z" (.int cs) := Sta.start ecs (Or.inl (hsets _ (List.mem_of_getElem? (i := 0) rfl)))
  have c1 : ¬ cs = (0 : Int32) := gotF (Cond.eq_ints ecs (Term.int_eval (0))) (not_v (Cond.before_iff.mp (hsets _ (List.mem_of_getElem? (i := 2) rfl))))
  have hEL : EW s _ own_EL := (EW.cons (hw _ (List.mem_of_getElem? (i := 0) rfl)) (by decide) (EW.cons (hw _ (List.mem_of_getElem? (i := 105) rfl)) (by decide) (EW.cons (hw _ (List.mem_of_getElem? (i := 106) rfl)) (by decide) (EW.cons (hw _ (List.mem_of_getElem? (i := 107) rfl)) (by decide) (EW.cons (hw _ (List.mem_of_getElem? (i := 113) rfl)) (by decide) EW.nil)))))
  have hCH : CHv s own_EL s.vm s.heap := CHv.start hEL (fun p hp => hcalls.1 p hp) (hsets _ (List.mem_of_getElem? (i := 2) rfl)) (hw _ (List.mem_of_getElem? (i := 3) rfl)) (hw _ (List.mem_of_getElem? (i := 2) rfl))
  obtain ⟨nv1, nv2⟩ := and_e hn
  obtain ⟨nv3, nv4⟩ := and_e nv2
  obtain ⟨nv5, nv6⟩ := and_e nv4
  obtain ⟨nv7, nv8⟩ := and_e nv6
  obtain ⟨nv9, nv10⟩ := and_e nv8
  obtain ⟨nv11, nv12⟩ := and_e nv10
  obtain ⟨nv13, nv14⟩ := and_e nv12
  obtain ⟨nv15, nv16⟩ := and_e nv14
  obtain ⟨nv17, nv18⟩ := and_e nv16
  obtain ⟨nv19, nv20⟩ := and_e nv18
  obtain ⟨nv21, nv22⟩ := and_e nv20
  obtain ⟨nv23, nv24⟩ := and_e nv22
  obtain ⟨nv25, nv26⟩ := and_e nv24
  obtain ⟨nv27, nv28⟩ := and_e nv26
  obtain ⟨nv29, nv30⟩ := and_e nv28
  obtain ⟨nv31, nv32⟩ := and_e nv30
  obtain ⟨nv33, nv34⟩ := and_e nv32
  obtain ⟨nv35, nv36⟩ := and_e nv34
  obtain ⟨nv37, nv38⟩ := and_e nv36
  obtain ⟨nv39, nv40⟩ := and_e nv38
  obtain ⟨nv41, nv42⟩ := and_e nv40
  obtain ⟨nv43, nv44⟩ := and_e nv42
  obtain ⟨nv45, nv46⟩ := and_e nv44
  obtain ⟨nv47, nv48⟩ := and_e nv46
  obtain ⟨nv49, nv50⟩ := and_e nv48
  obtain ⟨nv51, nv52⟩ := and_e nv50
  obtain ⟨nv53, nv54⟩ := and_e nv52
  obtain ⟨nv55, nv56⟩ := and_e nv54
  obtain ⟨nv57, nv58⟩ := and_e nv56
  obtain ⟨nv59, nv60⟩ := and_e nv58
  obtain ⟨nv61, nv62⟩ := and_e nv60
  obtain ⟨nv63, nv64⟩ := and_e nv62
  obtain ⟨nv65, nv66⟩ := and_e nv64
  obtain ⟨nv67, nv68⟩ := and_e nv66
  obtain ⟨nv69, nv70⟩ := and_e nv68
  obtain ⟨nv71, nv72⟩ := and_e nv70
  obtain ⟨nv73, nv74⟩ := and_e nv72
  obtain ⟨nv75, nv76⟩ := and_e nv74
  obtain ⟨nv77, nv78⟩ := and_e nv76
  obtain ⟨fm, efm, rf⟩ : ∃ v, (Jvm.Term.static "jdk/internal/util/Preconditions" "SIOOBE_FORMATTER" "Ljava/util/function/BiFunction;").eval _ s none [] s = some v ∧ v.isRef = true := own_isref (Cond.before_iff.mp (hsets _ (List.mem_of_getElem? (i := 8) rfl)))
  have SF0 := Sta.start efm (Or.inl (hsets _ (List.mem_of_getElem? (i := 7) rfl)))
  obtain ⟨w0', tw0⟩ := exa_v nv1
  have EW0 := Exa.start tw0 nv1
  have M0 := Sta.start tw0 (Or.inr ⟨hw _ (List.mem_of_getElem? (i := 80) rfl), hw _ (List.mem_of_getElem? (i := 81) rfl)⟩)
  obtain ⟨w1', tw1⟩ := exa_v nv11
  have EW1 := Exa.start tw1 nv11
  have M1 := Sta.start tw1 (Or.inr ⟨hw _ (List.mem_of_getElem? (i := 80) rfl), hw _ (List.mem_of_getElem? (i := 97) rfl)⟩)
  obtain ⟨w2', tw2⟩ := exa_v nv15
  have EW2 := Exa.start tw2 nv15
  have M2 := Sta.start tw2 (Or.inr ⟨hw _ (List.mem_of_getElem? (i := 80) rfl), hw _ (List.mem_of_getElem? (i := 98) rfl)⟩)
  obtain ⟨va, tva⟩ := arr_v nv3
  obtain ⟨cv, AV⟩ := Arr.start tva nv3
  have SV := Sta.start tva (Or.inr ⟨hw _ (List.mem_of_getElem? (i := 80) rfl), hw _ (List.mem_of_getElem? (i := 89) rfl)⟩)
  have EV := Exa.start tva nv5
  obtain ⟨lnv, lmv⟩ := own_len tva AV nv7
  obtain ⟨ve0, ea0, eb0⟩ := Cond.eq_worth nv9
  obtain rfl := Option.some.inj (eb0.symm.trans tw0)
  have sv0 := own_el (i := 0) tva AV ⟨by decide, by decide⟩ ea0
  obtain ⟨ve1, ea1, eb1⟩ := Cond.eq_worth nv13
  obtain rfl := Option.some.inj (eb1.symm.trans tw1)
  have sv1 := own_el (i := 1) tva AV ⟨by decide, by decide⟩ ea1
  obtain ⟨ve2, ea2, eb2⟩ := Cond.eq_worth nv17
  obtain rfl := Option.some.inj (eb2.symm.trans tw2)
  have sv2 := own_el (i := 2) tva AV ⟨by decide, by decide⟩ ea2
  have VV := Arv.start (z := 3) (vs := [.ref w0', .ref w1', .ref w2']) (dv := .null) hfit AV lmv lnv (by decide) rfl ⟨sv0, sv1, sv2, trivial⟩
  obtain ⟨nn0, tnn0⟩ := exa_v nv19
  have EN0 := Exa.start tnn0 nv19
  have FN0 := own_fref tw0 tnn0
  have DN0 := own_fld tnn0 nv21
  obtain ⟨tn0, ttn0⟩ := arr_v nv23
  have VN0 := own_fref tnn0 ttn0
  obtain ⟨cn0, AN0'⟩ := Arr.start ttn0 nv23
  obtain ⟨ln0, lm0⟩ := own_len ttn0 AN0' nv25
  have sn0_0 := own_eli (i := 0) ttn0 AN0' ⟨by decide, by decide⟩ nv27
  have sn0_1 := own_eli (i := 1) ttn0 AN0' ⟨by decide, by decide⟩ nv29
  have sn0_2 := own_eli (i := 2) ttn0 AN0' ⟨by decide, by decide⟩ nv31
  have sn0_3 := own_eli (i := 3) ttn0 AN0' ⟨by decide, by decide⟩ nv33
  have AN0'' := Arv.start (z := 4) (vs := [.int (104 : Int32), .int (111 : Int32), .int (117 : Int32), .int (114 : Int32)]) (dv := .int 0) hfit AN0' lm0 ln0 (by decide) rfl ⟨sn0_0, sn0_1, sn0_2, sn0_3, trivial⟩
  have AN0 : Arv s s.heap tn0 cn0.cls .byte (Int32.ofNat ([(104 : Int32), (111 : Int32), (117 : Int32), (114 : Int32)] : List Int32).length) (own_vs ([(104 : Int32), (111 : Int32), (117 : Int32), (114 : Int32)] : List Int32)) (.int 0) := by rw [show own_vs ([(104 : Int32), (111 : Int32), (117 : Int32), (114 : Int32)] : List Int32) = [.int (104 : Int32), .int (111 : Int32), .int (117 : Int32), .int (114 : Int32)] from by decide +kernel]; exact AN0''
  obtain ⟨nn1, tnn1⟩ := exa_v nv35
  have EN1 := Exa.start tnn1 nv35
  have FN1 := own_fref tw1 tnn1
  have DN1 := own_fld tnn1 nv37
  obtain ⟨tn1, ttn1⟩ := arr_v nv39
  have VN1 := own_fref tnn1 ttn1
  obtain ⟨cn1, AN1'⟩ := Arr.start ttn1 nv39
  obtain ⟨ln1, lm1⟩ := own_len ttn1 AN1' nv41
  have sn1_0 := own_eli (i := 0) ttn1 AN1' ⟨by decide, by decide⟩ nv51
  have sn1_1 := own_eli (i := 1) ttn1 AN1' ⟨by decide, by decide⟩ nv53
  have sn1_2 := own_eli (i := 2) ttn1 AN1' ⟨by decide, by decide⟩ nv55
  have sn1_3 := own_eli (i := 3) ttn1 AN1' ⟨by decide, by decide⟩ nv57
  have sn1_4 := own_eli (i := 4) ttn1 AN1' ⟨by decide, by decide⟩ nv59
  have sn1_5 := own_eli (i := 5) ttn1 AN1' ⟨by decide, by decide⟩ nv61
  have AN1'' := Arv.start (z := 6) (vs := [.int (109 : Int32), .int (105 : Int32), .int (110 : Int32), .int (117 : Int32), .int (116 : Int32), .int (101 : Int32)]) (dv := .int 0) hfit AN1' lm1 ln1 (by decide) rfl ⟨sn1_0, sn1_1, sn1_2, sn1_3, sn1_4, sn1_5, trivial⟩
  have AN1 : Arv s s.heap tn1 cn1.cls .byte (Int32.ofNat ([(109 : Int32), (105 : Int32), (110 : Int32), (117 : Int32), (116 : Int32), (101 : Int32)] : List Int32).length) (own_vs ([(109 : Int32), (105 : Int32), (110 : Int32), (117 : Int32), (116 : Int32), (101 : Int32)] : List Int32)) (.int 0) := by rw [show own_vs ([(109 : Int32), (105 : Int32), (110 : Int32), (117 : Int32), (116 : Int32), (101 : Int32)] : List Int32) = [.int (109 : Int32), .int (105 : Int32), .int (110 : Int32), .int (117 : Int32), .int (116 : Int32), .int (101 : Int32)] from by decide +kernel]; exact AN1''
  obtain ⟨nn2, tnn2⟩ := exa_v nv43
  have EN2 := Exa.start tnn2 nv43
  have FN2 := own_fref tw2 tnn2
  have DN2 := own_fld tnn2 nv45
  obtain ⟨tn2, ttn2⟩ := arr_v nv47
  have VN2 := own_fref tnn2 ttn2
  obtain ⟨cn2, AN2'⟩ := Arr.start ttn2 nv47
  obtain ⟨ln2, lm2⟩ := own_len ttn2 AN2' nv49
  have sn2_0 := own_eli (i := 0) ttn2 AN2' ⟨by decide, by decide⟩ nv63
  have sn2_1 := own_eli (i := 1) ttn2 AN2' ⟨by decide, by decide⟩ nv65
  have sn2_2 := own_eli (i := 2) ttn2 AN2' ⟨by decide, by decide⟩ nv67
  have sn2_3 := own_eli (i := 3) ttn2 AN2' ⟨by decide, by decide⟩ nv69
  have sn2_4 := own_eli (i := 4) ttn2 AN2' ⟨by decide, by decide⟩ nv71
  have sn2_5 := own_eli (i := 5) ttn2 AN2' ⟨by decide, by decide⟩ nv73
  have sn2_6 := own_eli (i := 6) ttn2 AN2' ⟨by decide, by decide⟩ nv75
  have sn2_7 := own_eli (i := 7) ttn2 AN2' ⟨by decide, by decide⟩ nv77
  have sn2_8 := own_eli (i := 8) ttn2 AN2' ⟨by decide, by decide⟩ nv78
  have AN2'' := Arv.start (z := 9) (vs := [.int (100 : Int32), .int (97 : Int32), .int (121 : Int32), .int (79 : Int32), .int (102 : Int32), .int (87 : Int32), .int (101 : Int32), .int (101 : Int32), .int (107 : Int32)]) (dv := .int 0) hfit AN2' lm2 ln2 (by decide) rfl ⟨sn2_0, sn2_1, sn2_2, sn2_3, sn2_4, sn2_5, sn2_6, sn2_7, sn2_8, trivial⟩
  have AN2 : Arv s s.heap tn2 cn2.cls .byte (Int32.ofNat ([(100 : Int32), (97 : Int32), (121 : Int32), (79 : Int32), (102 : Int32), (87 : Int32), (101 : Int32), (101 : Int32), (107 : Int32)] : List Int32).length) (own_vs ([(100 : Int32), (97 : Int32), (121 : Int32), (79 : Int32), (102 : Int32), (87 : Int32), (101 : Int32), (101 : Int32), (107 : Int32)] : List Int32)) (.int 0) := by rw [show own_vs ([(100 : Int32), (97 : Int32), (121 : Int32), (79 : Int32), (102 : Int32), (87 : Int32), (101 : Int32), (101 : Int32), (107 : Int32)] : List Int32) = [.int (100 : Int32), .int (97 : Int32), .int (121 : Int32), .int (79 : Int32), .int (102 : Int32), .int (87 : Int32), .int (101 : Int32), .int (101 : Int32), .int (107 : Int32)] from by decide +kernel]; exact AN2''
  obtain ⟨n, o, h1, h2, h3, _, L, rfl, ⟨rfl, N⟩, hq⟩ := rm_law l s _ hw tables_1 i0 i1 i2 i3 cs va cv.cls w0' w1' w2' nn0 nn1 nn2 tn0 tn1 tn2 cn0.cls cn1.cls cn2.cls fm s.heap s.heap.size (Nat.le_refl _) (Old.start s) SC0 c1 SV VV EV EW0 FN0 EN0 VN0 DN0 AN0 EW1 FN1 EN1 VN1 DN1 AN1 EW2 FN2 EN2 VN2 DN2 AN2 M0 M1 M2 SF0 rf hEL p e ha hc hk s m _ below hf ((Spec.applies_iff_loose hf).mp happ).1 ⟨rfl, State.Warmed39.refl s, rfl, hCH⟩ trivial
  refine ⟨n, _, h1, h2, h3, hpost _ _ _ _ _ _ ⟨Cond.after_iff.mpr rfl, Cond.after_iff.mpr (eq_i res_at (Term.int_eval (1)) rfl), trivial⟩ ⟨hq.1, hq.2.1, hq.2.2.1, (hq.2.2.2.sift fun y hy => Or.inr (N y hy)).mono (by decide) (by decide)⟩⟩
theorem main_1_1 : Claimed_1_1 := comes_1 fun _ _ _ _ _ _ h hF => ⟨h.1, hF⟩
theorem main_1_2 : Claimed_1_2 := comes_1 fun _ _ _ _ _ _ h hF => ⟨h.2.1, hF⟩
end Jvm.Pilot.@@N@@
namespace Jvm.Pilot.@@N@@
open Jvm Jvm.ClassFile Sem Op Lib Jvm.Free Jvm.Stand Jvm.Pilot.@@N@@.Jvm.D
/-! MADE BY PROGRAM (witnessworld.py) out of the Statement's table words and the real class files: 23 classes; the members and pool entries that the words name. The judged class is class 1, her method 2. -/
namespace start1
open Jvm.ClassFile
def u (s : String) : CpInfo := .utf8 (stringToUtf16 s)
/-- a pool by its gaps: so many unusable entries, then the entry; so many at the end -/
def gap : Nat → List CpInfo → List CpInfo
  | 0, r => r
  | n + 1, r => .unusable :: gap n r
def poolList (es : List (Nat × CpInfo)) (last : Nat) : List CpInfo := es.foldr (fun e r => gap e.1 (e.2 :: r)) (gap last [])
def pool (es : List (Nat × CpInfo)) (last : Nat) : Array CpInfo := ⟨poolList es last⟩
def fileOf (pool : Array CpInfo) (this : Nat) (attrs : Array Attribute := #[]) (ms : Array MethodInfo := #[]) (fl : Nat := 33) (sup : Nat := 0) (ifs : Array Nat := #[]) (fds : Array FieldInfo := #[]) : ClassFile where
  minorVersion := 0
  majorVersion := 65
  constantPool := pool
  accessFlags := fl
  thisClass := this
  superClass := sup
  interfaces := ifs
  fields := fds
  methods := ms
  attributes := attrs
def plain (name : String) (sup : Option ClassId) : Class where
  name := name
  kind := .ordinary
  loader := none
  accessFlags := 33
  super := sup
  interfaces := #[]
  cf := none
  fields := #[]
  methods := #[]
  instanceTypes := #[]
  staticTypes := #[]
  resolved := #[]
  callSites := []
  init := .initialized
  statics := none
  mirror := none

def pool0 : Array CpInfo := pool [(5, u "<init>"), (0, u "()V"), (1, .class_ 10), (1, u "java/lang/Object"), (85, u "clone"), (0, u "()Ljava/lang/Object;")] 26

def k0c0 : Code := { maxStack := 0, maxLocals := 1, code := object_method_1_code, exceptionTable := #[], attributes := #[] }
def k0m0 : Method := { name := "<init>", desc := "()V", sig := { parameters := [], returnType := none }, accessFlags := 1, code := some k0c0 }
def k0m1 : Method := { name := "clone", desc := "()Ljava/lang/Object;", sig := { parameters := [], returnType := some (.object "java/lang/Object") }, accessFlags := 260, code := none }
/-- java/lang/Object -/
def k0 : Class := { plain "java/lang/Object" none with
  accessFlags := 33
  interfaces := #[]
  cf := some (fileOf pool0 8 #[] #[{ accessFlags := 1, nameIndex := 5, descriptorIndex := 6, attributes := #[] }, { accessFlags := 260, nameIndex := 96, descriptorIndex := 97, attributes := #[] }] 33 0 #[] #[])
  fields := #[]
  methods := #[k0m0, k0m1]
  instanceTypes := #[]
  staticTypes := #[]
  resolved := Array.replicate 124 none
  statics := none }

def pool1 : Array CpInfo := pool [(2, .class_ 4), (1, u "java/lang/Object"), (0, u "<init>"), (0, u "()V"), (0, .methodref 8 9), (0, .class_ 10), (0, .nameAndType 11 12), (0, u "java/lang/String"), (0, u "length"), (0, u "()I"), (0, .methodref 8 14), (0, .nameAndType 15 16), (0, u "charAt"), (0, u "(I)C"), (0, .string 18), (0, u "hour"), (0, .string 20), (0, u "minute"), (0, .string 22), (0, u "dayOfWeek"), (0, .string 24), (0, u ""), (0, .integer 2147483647), (0, .methodref 27 28), (0, .class_ 29), (0, .nameAndType 30 31), (0, u "java/lang/Math"), (0, u "max"), (0, u "(II)I"), (0, .methodref 33 34), (0, .class_ 35), (0, .nameAndType 36 37), (0, u "com/example/minder/minder/model/ClockValueOfPinLaw"), (0, u "pick"), (0, u "(Ljava/lang/String;IICZ)C"), (0, .methodref 8 39), (0, .nameAndType 5 40), (0, u "([C)V"), (0, .methodref 8 42), (0, .nameAndType 43 44), (0, u "equals"), (0, u "(Ljava/lang/Object;)Z"), (0, .fieldref 46 47), (0, .class_ 48), (0, .nameAndType 49 50), (0, u "com/example/minder/minder/model/ClockValue"), (0, u "HOUR"), (0, u "Lcom/example/minder/minder/model/ClockValue;"), (0, .fieldref 46 52), (0, .nameAndType 53 50), (0, u "MINUTE"), (0, .fieldref 46 55), (0, .nameAndType 56 50), (0, u "DAY_OF_WEEK"), (0, .methodref 46 58), (0, .nameAndType 59 60), (0, u "of"), (0, u "(Ljava/lang/String;)Lcom/example/minder/minder/model/ClockValue;"), (3, u "law"), (0, u "(IIII)Z")] 4

def k1m0 : Method := { name := "<init>", desc := "()V", sig := { parameters := [], returnType := none }, accessFlags := 1, code := none }
def k1c1 : Code := { maxStack := 2, maxLocals := 5, code := method_2_code, exceptionTable := #[], attributes := #[] }
def k1m1 : Method := { name := "pick", desc := "(Ljava/lang/String;IICZ)C", sig := { parameters := [(.object "java/lang/String"), .int, .int, .char, .boolean], returnType := some .char }, accessFlags := 10, code := some k1c1 }
def k1c2 : Code := { maxStack := 7, maxLocals := 13, code := code, exceptionTable := #[], attributes := #[] }
def k1m2 : Method := { name := "law", desc := "(IIII)Z", sig := { parameters := [.int, .int, .int, .int], returnType := some .boolean }, accessFlags := 9, code := some k1c2 }
/-- com/example/minder/minder/model/ClockValueOfPinLaw -/
def k1 : Class := { plain "com/example/minder/minder/model/ClockValueOfPinLaw" (some 0) with
  accessFlags := 49
  interfaces := #[]
  cf := some (fileOf pool1 33 #[] #[{ accessFlags := 1, nameIndex := 5, descriptorIndex := 6, attributes := #[] }, { accessFlags := 10, nameIndex := 36, descriptorIndex := 37, attributes := #[] }, { accessFlags := 9, nameIndex := 64, descriptorIndex := 65, attributes := #[] }] 49 2 #[] #[])
  fields := #[]
  methods := #[k1m0, k1m1, k1m2]
  instanceTypes := #[]
  staticTypes := #[]
  resolved := Array.replicate 70 none
  statics := none }

def pool2 : Array CpInfo := pool [(1, .class_ 2), (0, u "java/io/Serializable"), (0, .class_ 4), (0, u "java/lang/Object")] 2

/-- java/io/Serializable -/
def k2 : Class := { plain "java/io/Serializable" (some 0) with
  accessFlags := 1537
  interfaces := #[]
  cf := some (fileOf pool2 1 #[] #[] 1537 3 #[] #[])
  fields := #[]
  methods := #[]
  instanceTypes := #[]
  staticTypes := #[]
  resolved := Array.replicate 7 none
  statics := none }

def pool3 : Array CpInfo := pool [(1, .class_ 2), (0, u "java/lang/Comparable"), (0, .class_ 4), (0, u "java/lang/Object")] 7

/-- java/lang/Comparable -/
def k3 : Class := { plain "java/lang/Comparable" (some 0) with
  accessFlags := 1537
  interfaces := #[]
  cf := some (fileOf pool3 1 #[] #[] 1537 3 #[] #[])
  fields := #[]
  methods := #[]
  instanceTypes := #[]
  staticTypes := #[]
  resolved := Array.replicate 12 none
  statics := none }

def pool4 : Array CpInfo := pool [(2, .class_ 4), (1, u "java/lang/CharSequence"), (42, .class_ 48), (0, u "java/lang/CharSequence$1CodePointIterator"), (10, .class_ 60), (0, u "java/lang/CharSequence$1CharIterator"), (5, .class_ 67), (0, u "java/lang/Object")] 63

/-- java/lang/CharSequence -/
def k4 : Class := { plain "java/lang/CharSequence" (some 0) with
  accessFlags := 1537
  interfaces := #[]
  cf := some (fileOf pool4 2 #[.nestMembers #[47, 59]] #[] 1537 66 #[] #[])
  fields := #[]
  methods := #[]
  instanceTypes := #[]
  staticTypes := #[]
  resolved := Array.replicate 131 none
  statics := none }

def pool5 : Array CpInfo := pool [(1, .class_ 2), (0, u "java/lang/constant/Constable"), (0, .class_ 4), (0, u "java/lang/Object")] 6

/-- java/lang/constant/Constable -/
def k5 : Class := { plain "java/lang/constant/Constable" (some 0) with
  accessFlags := 1537
  interfaces := #[]
  cf := some (fileOf pool5 1 #[] #[] 1537 3 #[] #[])
  fields := #[]
  methods := #[]
  instanceTypes := #[]
  staticTypes := #[]
  resolved := Array.replicate 11 none
  statics := none }

def pool6 : Array CpInfo := pool [(1, .class_ 2), (0, u "java/lang/constant/ConstantDesc"), (0, .class_ 4), (0, u "java/lang/Object")] 32

/-- java/lang/constant/ConstantDesc -/
def k6 : Class := { plain "java/lang/constant/ConstantDesc" (some 0) with
  accessFlags := 1537
  interfaces := #[]
  cf := some (fileOf pool6 1 #[] #[] 1537 3 #[] #[])
  fields := #[]
  methods := #[]
  instanceTypes := #[]
  staticTypes := #[]
  resolved := Array.replicate 37 none
  statics := none }

def pool7 : Array CpInfo := pool [(1, .methodref 2 3), (0, .class_ 4), (0, .nameAndType 5 6), (0, u "java/lang/Object"), (0, u "<init>"), (0, u "()V"), (0, .string 8), (0, u ""), (0, .fieldref 10 11), (0, .class_ 12), (0, .nameAndType 13 14), (0, u "java/lang/String"), (0, u "value"), (0, u "[B"), (0, .fieldref 10 16), (0, .nameAndType 17 18), (0, u "coder"), (0, u "B"), (2, u "hash"), (0, u "I"), (2, u "hashIsZero"), (0, u "Z"), (0, .methodref 10 28), (0, .nameAndType 5 29), (0, u "([CIILjava/lang/Void;)V"), (8, .fieldref 10 39), (0, .nameAndType 40 26), (0, u "COMPACT_STRINGS"), (1, .class_ 44), (1, u "java/lang/StringUTF16"), (0, u "compress"), (1, .methodref 42 48), (0, .nameAndType 49 50), (0, u "coderFromArrayLen"), (0, u "([BI)B"), (56, .class_ 109), (1, u "java/lang/StringLatin1"), (32, u "()Z"), (34, .methodref 42 178), (0, .nameAndType 45 179), (0, u "([CII)[B"), (154, u "()I"), (0, .methodref 10 336), (0, .nameAndType 17 337), (0, u "()B"), (25, u "([BI)C"), (27, u "(II)V"), (35, u "(I)C"), (64, .methodref 10 493), (0, .nameAndType 494 142), (0, u "isLatin1"), (0, .methodref 107 496), (0, .nameAndType 497 363), (0, u "charAt"), (3, u "checkIndex"), (5, u "length"), (33, .methodref 107 542), (0, .nameAndType 543 544), (0, u "equals"), (0, u "([B[B)Z"), (28, u "(Ljava/lang/Object;)Z"), (1, .class_ 576), (0, u "java/lang/CharSequence"), (22, u "CASE_INSENSITIVE_ORDER"), (0, u "Ljava/util/Comparator;"), (409, u "([C)V"), (42, .fieldref 1054 1055), (0, .class_ 1056), (0, .nameAndType 1057 1058), (0, u "jdk/internal/util/Preconditions"), (0, u "SIOOBE_FORMATTER"), (0, u "Ljava/util/function/BiFunction;"), (0, .methodref 1054 1060), (0, .nameAndType 501 1061), (0, u "(IILjava/util/function/BiFunction;)I"), (39, u "serialPersistentFields"), (0, u "[Ljava/io/ObjectStreamField;"), (0, .class_ 1104), (0, u "java/lang/String$CaseInsensitiveComparator"), (1, .class_ 1107), (0, u "java/io/Serializable"), (0, .class_ 1109), (0, u "java/lang/Comparable"), (0, .class_ 1111), (0, u "java/lang/constant/Constable"), (0, .class_ 1113), (0, u "java/lang/constant/ConstantDesc"), (2, u "serialVersionUID"), (0, u "J"), (3, u "REPL"), (0, u "C"), (2, u "LATIN1"), (1, u "UTF16")] 323

def k7m0 : Method := { name := "<init>", desc := "()V", sig := { parameters := [], returnType := none }, accessFlags := 1, code := none }
def k7c1 : Code := { maxStack := 5, maxLocals := 2, code := jdk_42_method_3_code, exceptionTable := #[], attributes := #[] }
def k7m1 : Method := { name := "<init>", desc := "([C)V", sig := { parameters := [(.array .char)], returnType := none }, accessFlags := 1, code := some k7c1 }
def k7c2 : Code := { maxStack := 2, maxLocals := 1, code := jdk_42_method_54_code, exceptionTable := #[], attributes := #[] }
def k7m2 : Method := { name := "length", desc := "()I", sig := { parameters := [], returnType := some .int }, accessFlags := 1, code := some k7c2 }
def k7c3 : Code := { maxStack := 2, maxLocals := 2, code := jdk_42_method_56_code, exceptionTable := #[], attributes := #[] }
def k7m3 : Method := { name := "charAt", desc := "(I)C", sig := { parameters := [.int], returnType := some .char }, accessFlags := 1, code := some k7c3 }
def k7c4 : Code := { maxStack := 2, maxLocals := 3, code := jdk_42_method_66_code, exceptionTable := #[], attributes := #[] }
def k7m4 : Method := { name := "equals", desc := "(Ljava/lang/Object;)Z", sig := { parameters := [(.object "java/lang/Object")], returnType := some .boolean }, accessFlags := 1, code := some k7c4 }
def k7c5 : Code := { maxStack := 4, maxLocals := 6, code := jdk_42_method_149_code, exceptionTable := #[], attributes := #[] }
def k7m5 : Method := { name := "<init>", desc := "([CIILjava/lang/Void;)V", sig := { parameters := [(.array .char), .int, .int, (.object "java/lang/Void")], returnType := none }, accessFlags := 2, code := some k7c5 }
def k7c6 : Code := { maxStack := 1, maxLocals := 1, code := jdk_42_method_152_code, exceptionTable := #[], attributes := #[] }
def k7m6 : Method := { name := "coder", desc := "()B", sig := { parameters := [], returnType := some .byte }, accessFlags := 0, code := some k7c6 }
def k7c7 : Code := { maxStack := 1, maxLocals := 1, code := jdk_42_method_154_code, exceptionTable := #[], attributes := #[] }
def k7m7 : Method := { name := "isLatin1", desc := "()Z", sig := { parameters := [], returnType := some .boolean }, accessFlags := 0, code := some k7c7 }
def k7c8 : Code := { maxStack := 3, maxLocals := 2, code := jdk_42_method_155_code, exceptionTable := #[], attributes := #[] }
def k7m8 : Method := { name := "checkIndex", desc := "(II)V", sig := { parameters := [.int, .int], returnType := none }, accessFlags := 8, code := some k7c8 }
/-- java/lang/String -/
def k7 : Class := { plain "java/lang/String" (some 0) with
  accessFlags := 49
  interfaces := #[2, 3, 4, 5, 6]
  cf := some (fileOf pool7 10 #[.nestMembers #[1103]] #[{ accessFlags := 1, nameIndex := 5, descriptorIndex := 6, attributes := #[] }, { accessFlags := 1, nameIndex := 5, descriptorIndex := 1010, attributes := #[] }, { accessFlags := 1, nameIndex := 507, descriptorIndex := 334, attributes := #[] }, { accessFlags := 1, nameIndex := 497, descriptorIndex := 427, attributes := #[] }, { accessFlags := 1, nameIndex := 543, descriptorIndex := 573, attributes := #[] }, { accessFlags := 2, nameIndex := 5, descriptorIndex := 29, attributes := #[] }, { accessFlags := 0, nameIndex := 17, descriptorIndex := 337, attributes := #[] }, { accessFlags := 0, nameIndex := 494, descriptorIndex := 142, attributes := #[] }, { accessFlags := 8, nameIndex := 501, descriptorIndex := 391, attributes := #[] }] 49 2 #[1106, 1108, 575, 1110, 1112] #[{ accessFlags := 18, nameIndex := 13, descriptorIndex := 14, attributes := #[] }, { accessFlags := 18, nameIndex := 17, descriptorIndex := 18, attributes := #[] }, { accessFlags := 2, nameIndex := 21, descriptorIndex := 22, attributes := #[] }, { accessFlags := 2, nameIndex := 25, descriptorIndex := 26, attributes := #[] }, { accessFlags := 26, nameIndex := 1116, descriptorIndex := 1117, attributes := #[] }, { accessFlags := 24, nameIndex := 40, descriptorIndex := 26, attributes := #[] }, { accessFlags := 26, nameIndex := 1101, descriptorIndex := 1102, attributes := #[] }, { accessFlags := 26, nameIndex := 1121, descriptorIndex := 1122, attributes := #[] }, { accessFlags := 25, nameIndex := 599, descriptorIndex := 600, attributes := #[] }, { accessFlags := 24, nameIndex := 1125, descriptorIndex := 18, attributes := #[] }, { accessFlags := 24, nameIndex := 1127, descriptorIndex := 18, attributes := #[] }])
  fields := #[{ name := "value", type := (.array .byte), accessFlags := 18, slot := 0, constantValue := 0 }, { name := "coder", type := .byte, accessFlags := 18, slot := 1, constantValue := 0 }, { name := "hash", type := .int, accessFlags := 2, slot := 2, constantValue := 0 }, { name := "hashIsZero", type := .boolean, accessFlags := 2, slot := 3, constantValue := 0 }, { name := "serialVersionUID", type := .long, accessFlags := 26, slot := 0, constantValue := 0 }, { name := "COMPACT_STRINGS", type := .boolean, accessFlags := 24, slot := 1, constantValue := 0 }, { name := "serialPersistentFields", type := (.array (.object "java/io/ObjectStreamField")), accessFlags := 26, slot := 2, constantValue := 0 }, { name := "REPL", type := .char, accessFlags := 26, slot := 3, constantValue := 0 }, { name := "CASE_INSENSITIVE_ORDER", type := (.object "java/util/Comparator"), accessFlags := 25, slot := 4, constantValue := 0 }, { name := "LATIN1", type := .byte, accessFlags := 24, slot := 5, constantValue := 0 }, { name := "UTF16", type := .byte, accessFlags := 24, slot := 6, constantValue := 0 }]
  methods := #[k7m0, k7m1, k7m2, k7m3, k7m4, k7m5, k7m6, k7m7, k7m8]
  instanceTypes := #[(.array .byte), .byte, .int, .boolean]
  staticTypes := #[.long, .boolean, (.array (.object "java/io/ObjectStreamField")), .char, (.object "java/util/Comparator"), .byte, .byte]
  resolved := Array.replicate 1451 none
  statics := some 0 }

def pool8 : Array CpInfo := pool [(1, .class_ 2), (0, u "java/lang/String"), (1, .class_ 6), (1, u "java/lang/Object"), (0, u "<init>"), (0, u "()V"), (0, .methodref 1 10), (0, .nameAndType 11 12), (0, u "checkIndex"), (0, u "(II)V"), (1, .class_ 16), (1, u "java/lang/StringLatin1"), (36, u "([BI)C"), (67, u "$assertionsDisabled"), (0, u "Z"), (98, .class_ 223), (1, u "java/lang/StringLatin1$LinesSpliterator"), (28, u "charAt"), (28, u "equals"), (0, u "([B[B)Z"), (107, .class_ 391), (0, u "java/lang/StringLatin1$CharsSpliterator")] 3

def k8m0 : Method := { name := "<init>", desc := "()V", sig := { parameters := [], returnType := none }, accessFlags := 0, code := none }
def k8c1 : Code := { maxStack := 2, maxLocals := 2, code := jdk_43_method_2_code, exceptionTable := #[], attributes := #[] }
def k8m1 : Method := { name := "charAt", desc := "([BI)C", sig := { parameters := [(.array .byte), .int], returnType := some .char }, accessFlags := 9, code := some k8c1 }
def k8c2 : Code := { maxStack := 3, maxLocals := 3, code := jdk_43_method_13_code, exceptionTable := #[], attributes := #[] }
def k8m2 : Method := { name := "equals", desc := "([B[B)Z", sig := { parameters := [(.array .byte), (.array .byte)], returnType := some .boolean }, accessFlags := 9, code := some k8c2 }
/-- java/lang/StringLatin1 -/
def k8 : Class := { plain "java/lang/StringLatin1" (some 0) with
  accessFlags := 48
  interfaces := #[]
  cf := some (fileOf pool8 14 #[.nestMembers #[390, 221]] #[{ accessFlags := 0, nameIndex := 7, descriptorIndex := 8, attributes := #[] }, { accessFlags := 9, nameIndex := 252, descriptorIndex := 53, attributes := #[] }, { accessFlags := 9, nameIndex := 281, descriptorIndex := 282, attributes := #[] }] 48 4 #[] #[{ accessFlags := 4120, nameIndex := 121, descriptorIndex := 122, attributes := #[] }])
  fields := #[{ name := "$assertionsDisabled", type := .boolean, accessFlags := 4120, slot := 0, constantValue := 0 }]
  methods := #[k8m0, k8m1, k8m2]
  instanceTypes := #[]
  staticTypes := #[.boolean]
  resolved := Array.replicate 395 none
  statics := none }

def pool9 : Array CpInfo := pool [(2, .class_ 4), (1, u "java/lang/Object"), (0, u "<init>"), (0, u "()V"), (17, .class_ 26), (1, u "jdk/internal/util/Preconditions"), (6, u "checkIndex"), (21, .class_ 56), (0, u "jdk/internal/util/Preconditions$4"), (57, .class_ 115), (0, u "jdk/internal/util/Preconditions$1"), (7, u "SIOOBE_FORMATTER"), (0, u "Ljava/util/function/BiFunction;"), (0, .class_ 126), (0, u "jdk/internal/util/Preconditions$2"), (3, u "AIOOBE_FORMATTER"), (0, .class_ 132), (0, u "jdk/internal/util/Preconditions$3"), (3, u "IOOBE_FORMATTER"), (41, u "(IILjava/util/function/BiFunction;)I")] 15

def k9m0 : Method := { name := "<init>", desc := "()V", sig := { parameters := [], returnType := none }, accessFlags := 1, code := none }
def k9c1 : Code := { maxStack := 3, maxLocals := 3, code := jdk_41_method_11_code, exceptionTable := #[], attributes := #[] }
def k9m1 : Method := { name := "checkIndex", desc := "(IILjava/util/function/BiFunction;)I", sig := { parameters := [.int, .int, (.object "java/util/function/BiFunction")], returnType := some .int }, accessFlags := 9, code := some k9c1 }
/-- jdk/internal/util/Preconditions -/
def k9 : Class := { plain "jdk/internal/util/Preconditions" (some 0) with
  accessFlags := 33
  interfaces := #[]
  cf := some (fileOf pool9 24 #[.nestMembers #[55, 131, 125, 114]] #[{ accessFlags := 1, nameIndex := 5, descriptorIndex := 6, attributes := #[] }, { accessFlags := 9, nameIndex := 33, descriptorIndex := 178, attributes := #[] }] 33 2 #[] #[{ accessFlags := 25, nameIndex := 123, descriptorIndex := 124, attributes := #[] }, { accessFlags := 25, nameIndex := 130, descriptorIndex := 124, attributes := #[] }, { accessFlags := 25, nameIndex := 136, descriptorIndex := 124, attributes := #[] }])
  fields := #[{ name := "SIOOBE_FORMATTER", type := (.object "java/util/function/BiFunction"), accessFlags := 25, slot := 0, constantValue := 0 }, { name := "AIOOBE_FORMATTER", type := (.object "java/util/function/BiFunction"), accessFlags := 25, slot := 1, constantValue := 0 }, { name := "IOOBE_FORMATTER", type := (.object "java/util/function/BiFunction"), accessFlags := 25, slot := 2, constantValue := 0 }]
  methods := #[k9m0, k9m1]
  instanceTypes := #[]
  staticTypes := #[(.object "java/util/function/BiFunction"), (.object "java/util/function/BiFunction"), (.object "java/util/function/BiFunction")]
  resolved := Array.replicate 194 none
  statics := some 1 }

def pool10 : Array CpInfo := pool [(6, .class_ 8), (1, u "java/lang/Object"), (0, u "<init>"), (0, u "()V"), (1, .class_ 14), (1, u "java/lang/StringUTF16"), (31, u "$assertionsDisabled"), (0, u "Z"), (13, u "HI_BYTE_SHIFT"), (0, u "I"), (2, u "LO_BYTE_SHIFT"), (49, .methodref 12 116), (0, .nameAndType 117 118), (0, u "compress"), (0, u "([CI[BII)I"), (3, u "([CII)[B"), (138, u "coderFromArrayLen"), (0, u "([BI)B"), (106, .class_ 371), (1, u "java/lang/StringUTF16$LinesSpliterator"), (58, u "MAX_LENGTH"), (196, .class_ 628), (0, u "java/lang/StringUTF16$CodePointsSpliterator"), (0, .class_ 630), (0, u "java/lang/StringUTF16$CharsSpliterator")] 4

def k10m0 : Method := { name := "<init>", desc := "()V", sig := { parameters := [], returnType := none }, accessFlags := 0, code := none }
def k10c1 : Code := { maxStack := 2, maxLocals := 2, code := jdk_52_method_15_code, exceptionTable := #[], attributes := #[] }
def k10m1 : Method := { name := "coderFromArrayLen", desc := "([BI)B", sig := { parameters := [(.array .byte), .int], returnType := some .byte }, accessFlags := 8, code := some k10c1 }
def k10c2 : Code := { maxStack := 5, maxLocals := 6, code := jdk_52_method_16_code, exceptionTable := #[], attributes := #[] }
def k10m2 : Method := { name := "compress", desc := "([CII)[B", sig := { parameters := [(.array .char), .int, .int], returnType := some (.array .byte) }, accessFlags := 9, code := some k10c2 }
def k10c3 : Code := { maxStack := 3, maxLocals := 7, code := jdk_52_method_21_code, exceptionTable := #[], attributes := #[] }
def k10m3 : Method := { name := "compress", desc := "([CI[BII)I", sig := { parameters := [(.array .char), .int, (.array .byte), .int, .int], returnType := some .int }, accessFlags := 9, code := some k10c3 }
/-- java/lang/StringUTF16 -/
def k10 : Class := { plain "java/lang/StringUTF16" (some 0) with
  accessFlags := 48
  interfaces := #[]
  cf := some (fileOf pool10 12 #[.nestMembers #[627, 629, 369]] #[{ accessFlags := 0, nameIndex := 9, descriptorIndex := 10, attributes := #[] }, { accessFlags := 8, nameIndex := 261, descriptorIndex := 262, attributes := #[] }, { accessFlags := 9, nameIndex := 117, descriptorIndex := 122, attributes := #[] }, { accessFlags := 9, nameIndex := 117, descriptorIndex := 118, attributes := #[] }] 48 6 #[] #[{ accessFlags := 26, nameIndex := 61, descriptorIndex := 62, attributes := #[] }, { accessFlags := 26, nameIndex := 65, descriptorIndex := 62, attributes := #[] }, { accessFlags := 24, nameIndex := 430, descriptorIndex := 62, attributes := #[] }, { accessFlags := 4120, nameIndex := 46, descriptorIndex := 47, attributes := #[] }])
  fields := #[{ name := "HI_BYTE_SHIFT", type := .int, accessFlags := 26, slot := 0, constantValue := 0 }, { name := "LO_BYTE_SHIFT", type := .int, accessFlags := 26, slot := 1, constantValue := 0 }, { name := "MAX_LENGTH", type := .int, accessFlags := 24, slot := 2, constantValue := 0 }, { name := "$assertionsDisabled", type := .boolean, accessFlags := 4120, slot := 3, constantValue := 0 }]
  methods := #[k10m0, k10m1, k10m2, k10m3]
  instanceTypes := #[]
  staticTypes := #[.int, .int, .int, .boolean]
  resolved := Array.replicate 635 none
  statics := none }

def pool11 : Array CpInfo := pool [(2, .class_ 4), (1, u "java/lang/Enum"), (0, u "name"), (0, u "Ljava/lang/String;"), (2, u "ordinal"), (0, u "I"), (1, .class_ 14), (1, u "java/lang/Object"), (4, u "hash"), (86, .class_ 108), (1, u "java/lang/Enum$EnumDesc"), (2, .class_ 112), (0, u "java/lang/constant/Constable"), (0, .class_ 114), (0, u "java/lang/Comparable"), (0, .class_ 116), (0, u "java/io/Serializable")] 87

/-- java/lang/Enum -/
def k11 : Class := { plain "java/lang/Enum" (some 0) with
  accessFlags := 1057
  interfaces := #[5, 3, 2]
  cf := some (fileOf pool11 2 #[.nestMembers #[106]] #[] 1057 12 #[111, 113, 115] #[{ accessFlags := 18, nameIndex := 5, descriptorIndex := 6, attributes := #[] }, { accessFlags := 18, nameIndex := 9, descriptorIndex := 10, attributes := #[] }, { accessFlags := 2, nameIndex := 19, descriptorIndex := 10, attributes := #[] }])
  fields := #[{ name := "name", type := (.object "java/lang/String"), accessFlags := 18, slot := 0, constantValue := 0 }, { name := "ordinal", type := .int, accessFlags := 18, slot := 1, constantValue := 0 }, { name := "hash", type := .int, accessFlags := 2, slot := 2, constantValue := 0 }]
  methods := #[]
  instanceTypes := #[(.object "java/lang/String"), .int, .int]
  staticTypes := #[]
  resolved := Array.replicate 204 none
  statics := none }

def pool12 : Array CpInfo := pool [(1, .class_ 2), (0, u "com/example/minder/minder/model/ClockValue"), (2, u "HOUR"), (0, u "Lcom/example/minder/minder/model/ClockValue;"), (2, u "MINUTE"), (2, u "DAY_OF_WEEK"), (0, .fieldref 1 14), (0, .nameAndType 15 16), (0, u "$VALUES"), (0, u "[Lcom/example/minder/minder/model/ClockValue;"), (0, .methodref 18 19), (0, .class_ 16), (0, .nameAndType 20 21), (0, u "clone"), (0, u "()Ljava/lang/Object;"), (1, .class_ 25), (1, u "java/lang/Enum"), (6, .fieldref 1 33), (0, .nameAndType 34 35), (0, u "name"), (0, u "Ljava/lang/String;"), (0, .methodref 1 37), (0, .nameAndType 38 39), (0, u "values"), (0, u "()[Lcom/example/minder/minder/model/ClockValue;"), (0, .methodref 41 42), (0, .class_ 43), (0, .nameAndType 44 45), (0, u "java/lang/String"), (0, u "equals"), (0, u "(Ljava/lang/Object;)Z"), (43, u "(Ljava/lang/String;)Lcom/example/minder/minder/model/ClockValue;"), (3, u "of")] 9

def k12c0 : Code := { maxStack := 1, maxLocals := 0, code := prog_21_method_1_code, exceptionTable := #[], attributes := #[] }
def k12m0 : Method := { name := "values", desc := "()[Lcom/example/minder/minder/model/ClockValue;", sig := { parameters := [], returnType := some (.array (.object "com/example/minder/minder/model/ClockValue")) }, accessFlags := 9, code := some k12c0 }
def k12c1 : Code := { maxStack := 2, maxLocals := 5, code := prog_21_method_4_code, exceptionTable := #[], attributes := #[] }
def k12m1 : Method := { name := "of", desc := "(Ljava/lang/String;)Lcom/example/minder/minder/model/ClockValue;", sig := { parameters := [(.object "java/lang/String")], returnType := some (.object "com/example/minder/minder/model/ClockValue") }, accessFlags := 9, code := some k12c1 }
/-- com/example/minder/minder/model/ClockValue -/
def k12 : Class := { plain "com/example/minder/minder/model/ClockValue" (some 11) with
  accessFlags := 16433
  interfaces := #[]
  cf := some (fileOf pool12 1 #[] #[{ accessFlags := 9, nameIndex := 38, descriptorIndex := 39, attributes := #[] }, { accessFlags := 9, nameIndex := 93, descriptorIndex := 89, attributes := #[] }] 16433 23 #[] #[{ accessFlags := 16409, nameIndex := 5, descriptorIndex := 6, attributes := #[] }, { accessFlags := 16409, nameIndex := 9, descriptorIndex := 6, attributes := #[] }, { accessFlags := 16409, nameIndex := 12, descriptorIndex := 6, attributes := #[] }, { accessFlags := 18, nameIndex := 34, descriptorIndex := 35, attributes := #[] }, { accessFlags := 4122, nameIndex := 15, descriptorIndex := 16, attributes := #[] }])
  fields := #[{ name := "HOUR", type := (.object "com/example/minder/minder/model/ClockValue"), accessFlags := 16409, slot := 0, constantValue := 0 }, { name := "MINUTE", type := (.object "com/example/minder/minder/model/ClockValue"), accessFlags := 16409, slot := 1, constantValue := 0 }, { name := "DAY_OF_WEEK", type := (.object "com/example/minder/minder/model/ClockValue"), accessFlags := 16409, slot := 2, constantValue := 0 }, { name := "name", type := (.object "java/lang/String"), accessFlags := 18, slot := 3, constantValue := 0 }, { name := "$VALUES", type := (.array (.object "com/example/minder/minder/model/ClockValue")), accessFlags := 4122, slot := 3, constantValue := 0 }]
  methods := #[k12m0, k12m1]
  instanceTypes := #[(.object "java/lang/String"), .int, .int, (.object "java/lang/String")]
  staticTypes := #[(.object "com/example/minder/minder/model/ClockValue"), (.object "com/example/minder/minder/model/ClockValue"), (.object "com/example/minder/minder/model/ClockValue"), (.array (.object "com/example/minder/minder/model/ClockValue"))]
  resolved := Array.replicate 103 none
  statics := some 2 }

def pool13 : Array CpInfo := pool [(1, .class_ 2), (0, u "java/lang/Cloneable"), (0, .class_ 4), (0, u "java/lang/Object")] 2

/-- java/lang/Cloneable -/
def k13 : Class := { plain "java/lang/Cloneable" (some 0) with
  accessFlags := 1537
  interfaces := #[]
  cf := some (fileOf pool13 1 #[] #[] 1537 3 #[] #[])
  fields := #[]
  methods := #[]
  instanceTypes := #[]
  staticTypes := #[]
  resolved := Array.replicate 7 none
  statics := none }

def pool14 : Array CpInfo := pool [(1, .class_ 2), (0, u "java/lang/Math"), (1, .class_ 6), (1, u "java/lang/Object"), (0, u "<init>"), (0, u "()V"), (89, .class_ 100), (1, u "java/lang/Math$RandomNumberGeneratorHolder"), (71, u "negativeZeroFloatBits"), (0, u "J"), (2, u "negativeZeroDoubleBits"), (21, u "max"), (46, u "$assertionsDisabled"), (0, u "Z"), (88, u "(II)I"), (2, u "twoToTheDoubleScaleDown"), (0, u "D"), (4, u "twoToTheDoubleScaleUp"), (9, u "E"), (3, u "PI"), (2, u "TAU"), (2, u "DEGREES_TO_RADIANS"), (0, u "RADIANS_TO_DEGREES")] 94

def k14m0 : Method := { name := "<init>", desc := "()V", sig := { parameters := [], returnType := none }, accessFlags := 2, code := none }
def k14c1 : Code := { maxStack := 2, maxLocals := 2, code := jdk_29_method_65_code, exceptionTable := #[], attributes := #[] }
def k14m1 : Method := { name := "max", desc := "(II)I", sig := { parameters := [.int, .int], returnType := some .int }, accessFlags := 9, code := some k14c1 }
/-- java/lang/Math -/
def k14 : Class := { plain "java/lang/Math" (some 0) with
  accessFlags := 49
  interfaces := #[]
  cf := some (fileOf pool14 1 #[.nestMembers #[98]] #[{ accessFlags := 2, nameIndex := 7, descriptorIndex := 8, attributes := #[] }, { accessFlags := 9, nameIndex := 198, descriptorIndex := 335, attributes := #[] }] 49 4 #[] #[{ accessFlags := 25, nameIndex := 354, descriptorIndex := 339, attributes := #[] }, { accessFlags := 25, nameIndex := 358, descriptorIndex := 339, attributes := #[] }, { accessFlags := 25, nameIndex := 361, descriptorIndex := 339, attributes := #[] }, { accessFlags := 26, nameIndex := 364, descriptorIndex := 339, attributes := #[] }, { accessFlags := 26, nameIndex := 365, descriptorIndex := 339, attributes := #[] }, { accessFlags := 26, nameIndex := 172, descriptorIndex := 173, attributes := #[] }, { accessFlags := 26, nameIndex := 176, descriptorIndex := 173, attributes := #[] }, { accessFlags := 8, nameIndex := 344, descriptorIndex := 339, attributes := #[] }, { accessFlags := 8, nameIndex := 338, descriptorIndex := 339, attributes := #[] }, { accessFlags := 4120, nameIndex := 245, descriptorIndex := 246, attributes := #[] }])
  fields := #[{ name := "E", type := .double, accessFlags := 25, slot := 0, constantValue := 0 }, { name := "PI", type := .double, accessFlags := 25, slot := 1, constantValue := 0 }, { name := "TAU", type := .double, accessFlags := 25, slot := 2, constantValue := 0 }, { name := "DEGREES_TO_RADIANS", type := .double, accessFlags := 26, slot := 3, constantValue := 0 }, { name := "RADIANS_TO_DEGREES", type := .double, accessFlags := 26, slot := 4, constantValue := 0 }, { name := "negativeZeroFloatBits", type := .long, accessFlags := 26, slot := 5, constantValue := 0 }, { name := "negativeZeroDoubleBits", type := .long, accessFlags := 26, slot := 6, constantValue := 0 }, { name := "twoToTheDoubleScaleUp", type := .double, accessFlags := 8, slot := 7, constantValue := 0 }, { name := "twoToTheDoubleScaleDown", type := .double, accessFlags := 8, slot := 8, constantValue := 0 }, { name := "$assertionsDisabled", type := .boolean, accessFlags := 4120, slot := 9, constantValue := 0 }]
  methods := #[k14m0, k14m1]
  instanceTypes := #[]
  staticTypes := #[.double, .double, .double, .double, .double, .long, .long, .double, .double, .boolean]
  resolved := Array.replicate 460 none
  statics := none }

def pool15 : Array CpInfo := pool [(9, u "<init>"), (6, .class_ 18), (1, u "java/lang/Object"), (0, u "()V"), (1, .class_ 23), (1, u "jdk/internal/util/ArraysSupport"), (0, u "LOG2_ARRAY_LONG_INDEX_SCALE"), (0, u "I"), (2, u "U"), (0, u "Ljdk/internal/misc/Unsafe;"), (8, u "BIG_ENDIAN"), (0, u "Z"), (8, u "LOG2_BYTE_BIT_SIZE"), (4, u "LOG2_ARRAY_INT_INDEX_SCALE"), (54, u "JLA"), (0, u "Ljdk/internal/access/JavaLangAccess;"), (11, u "LOG2_ARRAY_BOOLEAN_INDEX_SCALE"), (9, u "LOG2_ARRAY_BYTE_INDEX_SCALE"), (5, u "LOG2_ARRAY_CHAR_INDEX_SCALE"), (5, u "LOG2_ARRAY_SHORT_INDEX_SCALE"), (18, u "LOG2_ARRAY_FLOAT_INDEX_SCALE"), (24, u "LOG2_ARRAY_DOUBLE_INDEX_SCALE"), (89, u "T_BOOLEAN"), (2, u "T_CHAR"), (1, u "T_FLOAT"), (1, u "T_DOUBLE"), (1, u "T_BYTE"), (1, u "T_SHORT"), (1, u "T_INT"), (1, u "T_LONG"), (1, u "SOFT_MAX_ARRAY_LENGTH")] 83

def k15m0 : Method := { name := "<init>", desc := "()V", sig := { parameters := [], returnType := none }, accessFlags := 2, code := none }
/-- jdk/internal/util/ArraysSupport -/
def k15 : Class := { plain "jdk/internal/util/ArraysSupport" (some 0) with
  accessFlags := 33
  interfaces := #[]
  cf := some (fileOf pool15 21 #[] #[{ accessFlags := 2, nameIndex := 9, descriptorIndex := 19, attributes := #[] }] 33 16 #[] #[{ accessFlags := 24, nameIndex := 28, descriptorIndex := 29, attributes := #[] }, { accessFlags := 26, nameIndex := 38, descriptorIndex := 39, attributes := #[] }, { accessFlags := 25, nameIndex := 121, descriptorIndex := 25, attributes := #[] }, { accessFlags := 25, nameIndex := 131, descriptorIndex := 25, attributes := #[] }, { accessFlags := 25, nameIndex := 137, descriptorIndex := 25, attributes := #[] }, { accessFlags := 25, nameIndex := 143, descriptorIndex := 25, attributes := #[] }, { accessFlags := 25, nameIndex := 53, descriptorIndex := 25, attributes := #[] }, { accessFlags := 25, nameIndex := 24, descriptorIndex := 25, attributes := #[] }, { accessFlags := 25, nameIndex := 162, descriptorIndex := 25, attributes := #[] }, { accessFlags := 25, nameIndex := 187, descriptorIndex := 25, attributes := #[] }, { accessFlags := 26, nameIndex := 48, descriptorIndex := 25, attributes := #[] }, { accessFlags := 25, nameIndex := 277, descriptorIndex := 25, attributes := #[] }, { accessFlags := 25, nameIndex := 280, descriptorIndex := 25, attributes := #[] }, { accessFlags := 25, nameIndex := 282, descriptorIndex := 25, attributes := #[] }, { accessFlags := 25, nameIndex := 284, descriptorIndex := 25, attributes := #[] }, { accessFlags := 25, nameIndex := 286, descriptorIndex := 25, attributes := #[] }, { accessFlags := 25, nameIndex := 288, descriptorIndex := 25, attributes := #[] }, { accessFlags := 25, nameIndex := 290, descriptorIndex := 25, attributes := #[] }, { accessFlags := 25, nameIndex := 292, descriptorIndex := 25, attributes := #[] }, { accessFlags := 26, nameIndex := 108, descriptorIndex := 109, attributes := #[] }, { accessFlags := 25, nameIndex := 294, descriptorIndex := 25, attributes := #[] }])
  fields := #[{ name := "U", type := (.object "jdk/internal/misc/Unsafe"), accessFlags := 24, slot := 0, constantValue := 0 }, { name := "BIG_ENDIAN", type := .boolean, accessFlags := 26, slot := 1, constantValue := 0 }, { name := "LOG2_ARRAY_BOOLEAN_INDEX_SCALE", type := .int, accessFlags := 25, slot := 2, constantValue := 0 }, { name := "LOG2_ARRAY_BYTE_INDEX_SCALE", type := .int, accessFlags := 25, slot := 3, constantValue := 0 }, { name := "LOG2_ARRAY_CHAR_INDEX_SCALE", type := .int, accessFlags := 25, slot := 4, constantValue := 0 }, { name := "LOG2_ARRAY_SHORT_INDEX_SCALE", type := .int, accessFlags := 25, slot := 5, constantValue := 0 }, { name := "LOG2_ARRAY_INT_INDEX_SCALE", type := .int, accessFlags := 25, slot := 6, constantValue := 0 }, { name := "LOG2_ARRAY_LONG_INDEX_SCALE", type := .int, accessFlags := 25, slot := 7, constantValue := 0 }, { name := "LOG2_ARRAY_FLOAT_INDEX_SCALE", type := .int, accessFlags := 25, slot := 8, constantValue := 0 }, { name := "LOG2_ARRAY_DOUBLE_INDEX_SCALE", type := .int, accessFlags := 25, slot := 9, constantValue := 0 }, { name := "LOG2_BYTE_BIT_SIZE", type := .int, accessFlags := 26, slot := 10, constantValue := 0 }, { name := "T_BOOLEAN", type := .int, accessFlags := 25, slot := 11, constantValue := 0 }, { name := "T_CHAR", type := .int, accessFlags := 25, slot := 12, constantValue := 0 }, { name := "T_FLOAT", type := .int, accessFlags := 25, slot := 13, constantValue := 0 }, { name := "T_DOUBLE", type := .int, accessFlags := 25, slot := 14, constantValue := 0 }, { name := "T_BYTE", type := .int, accessFlags := 25, slot := 15, constantValue := 0 }, { name := "T_SHORT", type := .int, accessFlags := 25, slot := 16, constantValue := 0 }, { name := "T_INT", type := .int, accessFlags := 25, slot := 17, constantValue := 0 }, { name := "T_LONG", type := .int, accessFlags := 25, slot := 18, constantValue := 0 }, { name := "JLA", type := (.object "jdk/internal/access/JavaLangAccess"), accessFlags := 26, slot := 19, constantValue := 0 }, { name := "SOFT_MAX_ARRAY_LENGTH", type := .int, accessFlags := 25, slot := 20, constantValue := 0 }]
  methods := #[k15m0]
  instanceTypes := #[]
  staticTypes := #[(.object "jdk/internal/misc/Unsafe"), .boolean, .int, .int, .int, .int, .int, .int, .int, .int, .int, .int, .int, .int, .int, .int, .int, .int, .int, (.object "jdk/internal/access/JavaLangAccess"), .int]
  resolved := Array.replicate 378 none
  statics := none }

/-- the primitive byte -/
def k16 : Class := { plain "byte" none with kind := .primitive 'B', accessFlags := 0x411 }
/-- [B -/
def k17 : Class := { plain "[B" (some 0) with kind := .array 16 .byte, interfaces := #[13, 2], accessFlags := 1041 }

/-- the primitive char -/
def k18 : Class := { plain "char" none with kind := .primitive 'C', accessFlags := 0x411 }
/-- [C -/
def k19 : Class := { plain "[C" (some 0) with kind := .array 18 .char, interfaces := #[13, 2], accessFlags := 1041 }

/-- the primitive int -/
def k20 : Class := { plain "int" none with kind := .primitive 'I', accessFlags := 0x411 }
/-- [I -/
def k21 : Class := { plain "[I" (some 0) with kind := .array 20 .int, interfaces := #[13, 2], accessFlags := 1041 }

/-- [Lcom/example/minder/minder/model/ClockValue; -/
def k22 : Class := { plain "[Lcom/example/minder/minder/model/ClockValue;" (some 0) with kind := .array 12 (.object "com/example/minder/minder/model/ClockValue"), interfaces := #[13, 2], accessFlags := 1041 }

def heap : Heap := #[{ cls := 7, slots := #[.long 0, .int 1, .null, .int 0, .null, .int 0, .int 0], vm := .statics 7 },
  { cls := 9, slots := #[.null, .null, .null], vm := .statics 9 },
  { cls := 12, slots := #[.ref 4, .ref 5, .ref 6, .ref 3], vm := .statics 12 },
  { cls := 22, slots := #[.ref 4, .ref 5, .ref 6], vm := .none },
  { cls := 12, slots := #[.null, .int 0, .int 0, .ref 7], vm := .none },
  { cls := 12, slots := #[.null, .int 1, .int 0, .ref 8], vm := .none },
  { cls := 12, slots := #[.null, .int 2, .int 0, .ref 9], vm := .none },
  { cls := 7, slots := #[.ref 10, .int 0, .int 0, .int 0], vm := .none },
  { cls := 7, slots := #[.ref 11, .int 0, .int 0, .int 0], vm := .none },
  { cls := 7, slots := #[.ref 12, .int 0, .int 0, .int 0], vm := .none },
  { cls := 17, slots := #[.int 104, .int 111, .int 117, .int 114], vm := .none },
  { cls := 17, slots := #[.int 109, .int 105, .int 110, .int 117, .int 116, .int 101], vm := .none },
  { cls := 17, slots := #[.int 100, .int 97, .int 121, .int 79, .int 102, .int 87, .int 101, .int 101, .int 107], vm := .none }]
def classes : Array Class := #[k0, k1, k2, k3, k4, k5, k6, k7, k8, k9, k10, k11, k12, k13, k14, k15, k16, k17, k18, k19, k20, k21, k22]
def interned : List (Array UInt16 × Addr) := []
def slotsUsed : Nat := 60
def theMethod : MethodId := ⟨1, 2⟩
def args0 : Array Value := #[.int 5, .int 3, .int 2, .int 7]
def aboutOver (below : List Frame) : State where
  vm := { classes := classes, interned := interned.toArray }
  heap := heap
  slotsUsed := slotsUsed
  threads := #[{ frames := .invoking theMethod args0 :: below }]
def below0 : List Frame := [.native { method := ⟨0, 0⟩, args := #[] }]
def about1 : State := aboutOver below0
def p0 : Program := .bare "" "" ""
def e0 : Env := launch0.env 0 0 0
theorem w_frames : about1.frames = Frame.invoking theMethod args0 :: below0 := rfl
set_option maxRecDepth 65536 in
theorem w_args : argsFit about1.vm theMethod args0 = true := by decide +kernel
set_option maxRecDepth 65536 in
theorem w_heap : heapFits about1 = true := by decide +kernel
set_option maxRecDepth 65536 in
theorem w_runnable : about1.curStatus? = some .runnable := by decide +kernel
set_option maxRecDepth 65536 in
theorem w_alone : about1.alone = true := by decide +kernel
set_option maxRecDepth 65536 in
theorem w_named : about1.methodNamed? x = some theMethod := by decide +kernel
set_option maxRecDepth 65536 in
theorem w_hears : about1.hears theMethod below0 = true := by decide +kernel
set_option maxRecDepth 65536 in
theorem w_ripe : about1.ripe theMethod args0 below0 = true := by decide +kernel
theorem w_running : about1.status = .running := rfl
set_option maxRecDepth 65536 in
theorem w_room : about1.hasRoom e0.platform room_1 = true :=
  launch0.hasRoom_least _ room_1 (by decide +kernel) (by decide +kernel) (by decide +kernel) (by decide +kernel) (by decide +kernel) (by decide +kernel)
theorem allAtoms_all (ts : List Jvm.Cond) (a : Array Jvm.Value) (st : Jvm.State) : (allAtoms ts).before a st = ts.all (fun c => c.before a st) := by
  induction ts with
  | nil => rfl
  | cons c t ih =>
    show (Jvm.Cond.and c (allAtoms t)).before a st = _
    rw [Jvm.Cond.before_and, ih, List.all_cons]
def words1 : List Jvm.Cond := Jvm.Cond.code x code maxLocals ret :: tables_1
/-- a 'code' word, met by the world's own term for the bytes: nothing is compared byte by byte -/
theorem code_word {y : MethodName} {bytes : ByteArray} {mx : Nat} {rt : Option FieldType} {a : Array Value} {s : State} {m : MethodId} {meth : Method} {c : Code} (h1 : s.methodNamed? y = some m) (h2 : s.vm.method? m = some meth) (h3 : meth.code = some c) (h4 : c.code = bytes)
    (h5 : (c.maxLocals == mx && c.exceptionTable.isEmpty && decide (c.maxStack ≤ mostOperands) && decide (meth.sig.returnType = rt) && !meth.locks && decide (parseMethodDescriptor y.desc = some meth.sig)) = true) : (Jvm.Cond.code y bytes mx rt).before a s = true := by
  simp only [Bool.and_eq_true, beq_iff_eq, Bool.not_eq_true', decide_eq_true_eq] at h5
  obtain ⟨⟨⟨⟨⟨g1, g2⟩, g3⟩, g4⟩, g5⟩, g6⟩ := h5
  simp [Cond.before, Cond.holds, Cond.value, h1, h2, h3, h4, g1, g2, g3, g4, g5, g6]
def isCode : Jvm.Cond → Bool
  | .code _ _ _ _ => true
  | _ => false
theorem all_split {L : List Jvm.Cond} {P : Jvm.Cond → Bool} (h1 : L.all (fun c => isCode c || P c) = true) (h2 : ∀ c ∈ L.filter isCode, P c = true) : L.all P = true := by
  refine List.all_eq_true.mpr fun c hc => ?_
  have h := List.all_eq_true.mp h1 c hc
  rcases Bool.eq_false_or_eq_true (isCode c) with hi | hi
  · exact h2 c (List.mem_filter.mpr ⟨hc, hi⟩)
  · simpa [hi] using h
set_option maxRecDepth 65536 in
theorem w_c0 : (Jvm.Cond.code x code maxLocals ret).before args0 about1 = true := code_word (m := ⟨1, 2⟩) (meth := k1m2) (c := k1c2) (by decide +kernel) rfl rfl rfl (by decide +kernel)
set_option maxRecDepth 65536 in
theorem w_c1 : (Jvm.Cond.code ({ cls := "java/lang/String", name := "length", desc := "()I" } : Jvm.MethodName) jdk_42_method_54_code (1 : Nat) (Option.some Jvm.ClassFile.FieldType.int)).before args0 about1 = true := code_word (m := ⟨7, 2⟩) (meth := k7m2) (c := k7c2) (by decide +kernel) rfl rfl rfl (by decide +kernel)
set_option maxRecDepth 65536 in
theorem w_c2 : (Jvm.Cond.code ({ cls := "java/lang/String", name := "coder", desc := "()B" } : Jvm.MethodName) jdk_42_method_152_code (1 : Nat) (Option.some Jvm.ClassFile.FieldType.byte)).before args0 about1 = true := code_word (m := ⟨7, 6⟩) (meth := k7m6) (c := k7c6) (by decide +kernel) rfl rfl rfl (by decide +kernel)
set_option maxRecDepth 65536 in
theorem w_c3 : (Jvm.Cond.code ({ cls := "com/example/minder/minder/model/ClockValueOfPinLaw", name := "pick", desc := "(Ljava/lang/String;IICZ)C" } : Jvm.MethodName) method_2_code (5 : Nat) (Option.some Jvm.ClassFile.FieldType.char)).before args0 about1 = true := code_word (m := ⟨1, 1⟩) (meth := k1m1) (c := k1c1) (by decide +kernel) rfl rfl rfl (by decide +kernel)
set_option maxRecDepth 65536 in
theorem w_c4 : (Jvm.Cond.code ({ cls := "java/lang/String", name := "charAt", desc := "(I)C" } : Jvm.MethodName) jdk_42_method_56_code (2 : Nat) (Option.some Jvm.ClassFile.FieldType.char)).before args0 about1 = true := code_word (m := ⟨7, 3⟩) (meth := k7m3) (c := k7c3) (by decide +kernel) rfl rfl rfl (by decide +kernel)
set_option maxRecDepth 65536 in
theorem w_c5 : (Jvm.Cond.code ({ cls := "java/lang/String", name := "isLatin1", desc := "()Z" } : Jvm.MethodName) jdk_42_method_154_code (1 : Nat) (Option.some Jvm.ClassFile.FieldType.boolean)).before args0 about1 = true := code_word (m := ⟨7, 7⟩) (meth := k7m7) (c := k7c7) (by decide +kernel) rfl rfl rfl (by decide +kernel)
set_option maxRecDepth 65536 in
theorem w_c6 : (Jvm.Cond.code ({ cls := "java/lang/StringLatin1", name := "charAt", desc := "([BI)C" } : Jvm.MethodName) jdk_43_method_2_code (2 : Nat) (Option.some Jvm.ClassFile.FieldType.char)).before args0 about1 = true := code_word (m := ⟨8, 1⟩) (meth := k8m1) (c := k8c1) (by decide +kernel) rfl rfl rfl (by decide +kernel)
set_option maxRecDepth 65536 in
theorem w_c7 : (Jvm.Cond.code ({ cls := "java/lang/String", name := "checkIndex", desc := "(II)V" } : Jvm.MethodName) jdk_42_method_155_code (2 : Nat) (Option.none : Option Jvm.ClassFile.FieldType)).before args0 about1 = true := code_word (m := ⟨7, 8⟩) (meth := k7m8) (c := k7c8) (by decide +kernel) rfl rfl rfl (by decide +kernel)
set_option maxRecDepth 65536 in
theorem w_c8 : (Jvm.Cond.code ({ cls := "jdk/internal/util/Preconditions", name := "checkIndex", desc := "(IILjava/util/function/BiFunction;)I" } : Jvm.MethodName) jdk_41_method_11_code (3 : Nat) (Option.some Jvm.ClassFile.FieldType.int)).before args0 about1 = true := code_word (m := ⟨9, 1⟩) (meth := k9m1) (c := k9c1) (by decide +kernel) rfl rfl rfl (by decide +kernel)
set_option maxRecDepth 65536 in
theorem w_c9 : (Jvm.Cond.code ({ cls := "java/lang/String", name := "<init>", desc := "([C)V" } : Jvm.MethodName) jdk_42_method_3_code (2 : Nat) (Option.none : Option Jvm.ClassFile.FieldType)).before args0 about1 = true := code_word (m := ⟨7, 1⟩) (meth := k7m1) (c := k7c1) (by decide +kernel) rfl rfl rfl (by decide +kernel)
set_option maxRecDepth 65536 in
theorem w_c10 : (Jvm.Cond.code ({ cls := "java/lang/String", name := "<init>", desc := "([CIILjava/lang/Void;)V" } : Jvm.MethodName) jdk_42_method_149_code (6 : Nat) (Option.none : Option Jvm.ClassFile.FieldType)).before args0 about1 = true := code_word (m := ⟨7, 5⟩) (meth := k7m5) (c := k7c5) (by decide +kernel) rfl rfl rfl (by decide +kernel)
set_option maxRecDepth 65536 in
theorem w_c11 : (Jvm.Cond.code ({ cls := "java/lang/Object", name := "<init>", desc := "()V" } : Jvm.MethodName) object_method_1_code (1 : Nat) (Option.none : Option Jvm.ClassFile.FieldType)).before args0 about1 = true := code_word (m := ⟨0, 0⟩) (meth := k0m0) (c := k0c0) (by decide +kernel) rfl rfl rfl (by decide +kernel)
set_option maxRecDepth 65536 in
theorem w_c12 : (Jvm.Cond.code ({ cls := "java/lang/StringUTF16", name := "compress", desc := "([CII)[B" } : Jvm.MethodName) jdk_52_method_16_code (6 : Nat) (Option.some (Jvm.ClassFile.FieldType.array Jvm.ClassFile.FieldType.byte))).before args0 about1 = true := code_word (m := ⟨10, 2⟩) (meth := k10m2) (c := k10c2) (by decide +kernel) rfl rfl rfl (by decide +kernel)
set_option maxRecDepth 65536 in
theorem w_c13 : (Jvm.Cond.code ({ cls := "java/lang/StringUTF16", name := "compress", desc := "([CI[BII)I" } : Jvm.MethodName) jdk_52_method_21_code (7 : Nat) (Option.some Jvm.ClassFile.FieldType.int)).before args0 about1 = true := code_word (m := ⟨10, 3⟩) (meth := k10m3) (c := k10c3) (by decide +kernel) rfl rfl rfl (by decide +kernel)
set_option maxRecDepth 65536 in
theorem w_c14 : (Jvm.Cond.code ({ cls := "java/lang/StringUTF16", name := "coderFromArrayLen", desc := "([BI)B" } : Jvm.MethodName) jdk_52_method_15_code (2 : Nat) (Option.some Jvm.ClassFile.FieldType.byte)).before args0 about1 = true := code_word (m := ⟨10, 1⟩) (meth := k10m1) (c := k10c1) (by decide +kernel) rfl rfl rfl (by decide +kernel)
set_option maxRecDepth 65536 in
theorem w_c15 : (Jvm.Cond.code ({ cls := "java/lang/String", name := "equals", desc := "(Ljava/lang/Object;)Z" } : Jvm.MethodName) jdk_42_method_66_code (3 : Nat) (Option.some Jvm.ClassFile.FieldType.boolean)).before args0 about1 = true := code_word (m := ⟨7, 4⟩) (meth := k7m4) (c := k7c4) (by decide +kernel) rfl rfl rfl (by decide +kernel)
set_option maxRecDepth 65536 in
theorem w_c16 : (Jvm.Cond.code ({ cls := "java/lang/StringLatin1", name := "equals", desc := "([B[B)Z" } : Jvm.MethodName) jdk_43_method_13_code (3 : Nat) (Option.some Jvm.ClassFile.FieldType.boolean)).before args0 about1 = true := code_word (m := ⟨8, 2⟩) (meth := k8m2) (c := k8c2) (by decide +kernel) rfl rfl rfl (by decide +kernel)
set_option maxRecDepth 65536 in
theorem w_c17 : (Jvm.Cond.code ({ cls := "com/example/minder/minder/model/ClockValue", name := "of", desc := "(Ljava/lang/String;)Lcom/example/minder/minder/model/ClockValue;" } : Jvm.MethodName) prog_21_method_4_code (5 : Nat) (Option.some (Jvm.ClassFile.FieldType.object "com/example/minder/minder/model/ClockValue"))).before args0 about1 = true := code_word (m := ⟨12, 1⟩) (meth := k12m1) (c := k12c1) (by decide +kernel) rfl rfl rfl (by decide +kernel)
set_option maxRecDepth 65536 in
theorem w_c18 : (Jvm.Cond.code ({ cls := "com/example/minder/minder/model/ClockValue", name := "values", desc := "()[Lcom/example/minder/minder/model/ClockValue;" } : Jvm.MethodName) prog_21_method_1_code (0 : Nat) (Option.some (Jvm.ClassFile.FieldType.array (Jvm.ClassFile.FieldType.object "com/example/minder/minder/model/ClockValue")))).before args0 about1 = true := code_word (m := ⟨12, 0⟩) (meth := k12m0) (c := k12c0) (by decide +kernel) rfl rfl rfl (by decide +kernel)
set_option maxRecDepth 65536 in
theorem w_c19 : (Jvm.Cond.code ({ cls := "java/lang/Math", name := "max", desc := "(II)I" } : Jvm.MethodName) jdk_29_method_65_code (2 : Nat) (Option.some Jvm.ClassFile.FieldType.int)).before args0 about1 = true := code_word (m := ⟨14, 1⟩) (meth := k14m1) (c := k14c1) (by decide +kernel) rfl rfl rfl (by decide +kernel)
def codes1 : List Jvm.Cond := [Jvm.Cond.code x code maxLocals ret, Jvm.Cond.code ({ cls := "java/lang/String", name := "length", desc := "()I" } : Jvm.MethodName) jdk_42_method_54_code (1 : Nat) (Option.some Jvm.ClassFile.FieldType.int), Jvm.Cond.code ({ cls := "java/lang/String", name := "coder", desc := "()B" } : Jvm.MethodName) jdk_42_method_152_code (1 : Nat) (Option.some Jvm.ClassFile.FieldType.byte), Jvm.Cond.code ({ cls := "com/example/minder/minder/model/ClockValueOfPinLaw", name := "pick", desc := "(Ljava/lang/String;IICZ)C" } : Jvm.MethodName) method_2_code (5 : Nat) (Option.some Jvm.ClassFile.FieldType.char), Jvm.Cond.code ({ cls := "java/lang/String", name := "charAt", desc := "(I)C" } : Jvm.MethodName) jdk_42_method_56_code (2 : Nat) (Option.some Jvm.ClassFile.FieldType.char), Jvm.Cond.code ({ cls := "java/lang/String", name := "isLatin1", desc := "()Z" } : Jvm.MethodName) jdk_42_method_154_code (1 : Nat) (Option.some Jvm.ClassFile.FieldType.boolean), Jvm.Cond.code ({ cls := "java/lang/StringLatin1", name := "charAt", desc := "([BI)C" } : Jvm.MethodName) jdk_43_method_2_code (2 : Nat) (Option.some Jvm.ClassFile.FieldType.char), Jvm.Cond.code ({ cls := "java/lang/String", name := "checkIndex", desc := "(II)V" } : Jvm.MethodName) jdk_42_method_155_code (2 : Nat) (Option.none : Option Jvm.ClassFile.FieldType), Jvm.Cond.code ({ cls := "jdk/internal/util/Preconditions", name := "checkIndex", desc := "(IILjava/util/function/BiFunction;)I" } : Jvm.MethodName) jdk_41_method_11_code (3 : Nat) (Option.some Jvm.ClassFile.FieldType.int), Jvm.Cond.code ({ cls := "java/lang/String", name := "<init>", desc := "([C)V" } : Jvm.MethodName) jdk_42_method_3_code (2 : Nat) (Option.none : Option Jvm.ClassFile.FieldType), Jvm.Cond.code ({ cls := "java/lang/String", name := "<init>", desc := "([CIILjava/lang/Void;)V" } : Jvm.MethodName) jdk_42_method_149_code (6 : Nat) (Option.none : Option Jvm.ClassFile.FieldType), Jvm.Cond.code ({ cls := "java/lang/Object", name := "<init>", desc := "()V" } : Jvm.MethodName) object_method_1_code (1 : Nat) (Option.none : Option Jvm.ClassFile.FieldType), Jvm.Cond.code ({ cls := "java/lang/StringUTF16", name := "compress", desc := "([CII)[B" } : Jvm.MethodName) jdk_52_method_16_code (6 : Nat) (Option.some (Jvm.ClassFile.FieldType.array Jvm.ClassFile.FieldType.byte)), Jvm.Cond.code ({ cls := "java/lang/StringUTF16", name := "compress", desc := "([CI[BII)I" } : Jvm.MethodName) jdk_52_method_21_code (7 : Nat) (Option.some Jvm.ClassFile.FieldType.int), Jvm.Cond.code ({ cls := "java/lang/StringUTF16", name := "coderFromArrayLen", desc := "([BI)B" } : Jvm.MethodName) jdk_52_method_15_code (2 : Nat) (Option.some Jvm.ClassFile.FieldType.byte), Jvm.Cond.code ({ cls := "java/lang/String", name := "equals", desc := "(Ljava/lang/Object;)Z" } : Jvm.MethodName) jdk_42_method_66_code (3 : Nat) (Option.some Jvm.ClassFile.FieldType.boolean), Jvm.Cond.code ({ cls := "java/lang/StringLatin1", name := "equals", desc := "([B[B)Z" } : Jvm.MethodName) jdk_43_method_13_code (3 : Nat) (Option.some Jvm.ClassFile.FieldType.boolean), Jvm.Cond.code ({ cls := "com/example/minder/minder/model/ClockValue", name := "of", desc := "(Ljava/lang/String;)Lcom/example/minder/minder/model/ClockValue;" } : Jvm.MethodName) prog_21_method_4_code (5 : Nat) (Option.some (Jvm.ClassFile.FieldType.object "com/example/minder/minder/model/ClockValue")), Jvm.Cond.code ({ cls := "com/example/minder/minder/model/ClockValue", name := "values", desc := "()[Lcom/example/minder/minder/model/ClockValue;" } : Jvm.MethodName) prog_21_method_1_code (0 : Nat) (Option.some (Jvm.ClassFile.FieldType.array (Jvm.ClassFile.FieldType.object "com/example/minder/minder/model/ClockValue"))), Jvm.Cond.code ({ cls := "java/lang/Math", name := "max", desc := "(II)I" } : Jvm.MethodName) jdk_29_method_65_code (2 : Nat) (Option.some Jvm.ClassFile.FieldType.int)]
set_option maxRecDepth 65536 in
theorem codes_eq : words1.filter isCode = codes1 := rfl
theorem w_codes : ∀ c ∈ words1.filter isCode, c.before args0 about1 = true := by
  rw [codes_eq]
  intro c hc
  simp only [codes1, List.mem_cons, List.not_mem_nil, or_false] at hc
  rcases hc with rfl | rfl | rfl | rfl | rfl | rfl | rfl | rfl | rfl | rfl | rfl | rfl | rfl | rfl | rfl | rfl | rfl | rfl | rfl | rfl
  · exact w_c0
  · exact w_c1
  · exact w_c2
  · exact w_c3
  · exact w_c4
  · exact w_c5
  · exact w_c6
  · exact w_c7
  · exact w_c8
  · exact w_c9
  · exact w_c10
  · exact w_c11
  · exact w_c12
  · exact w_c13
  · exact w_c14
  · exact w_c15
  · exact w_c16
  · exact w_c17
  · exact w_c18
  · exact w_c19
set_option maxRecDepth 65536 in
theorem w_t1 : (words1.take 24).all (fun c => isCode c || c.before args0 about1) = true := by decide +kernel
set_option maxRecDepth 65536 in
theorem w_t2 : ((words1.drop 24).take 24).all (fun c => isCode c || c.before args0 about1) = true := by decide +kernel
set_option maxRecDepth 65536 in
theorem w_t3 : (((words1.drop 24).drop 24).take 24).all (fun c => isCode c || c.before args0 about1) = true := by decide +kernel
set_option maxRecDepth 65536 in
theorem w_t4 : ((((words1.drop 24).drop 24).drop 24).take 24).all (fun c => isCode c || c.before args0 about1) = true := by decide +kernel
set_option maxRecDepth 65536 in
theorem w_t5 : ((((words1.drop 24).drop 24).drop 24).drop 24).all (fun c => isCode c || c.before args0 about1) = true := by decide +kernel
theorem w_tables : (allAtoms (Jvm.Cond.code x code maxLocals ret :: tables_1)).before args0 about1 = true := by
  rw [allAtoms_all]
  show words1.all (fun c => c.before args0 about1) = true
  refine all_split ?_ w_codes
  rw [← List.take_append_drop 24 words1, List.all_append, w_t1, ← List.take_append_drop 24 (words1.drop 24), List.all_append, w_t2, ← List.take_append_drop 24 ((words1.drop 24).drop 24), List.all_append, w_t3, ← List.take_append_drop 24 (((words1.drop 24).drop 24).drop 24), List.all_append, w_t4, w_t5]
  rfl
set_option maxRecDepth 65536 in
theorem w_rest : rest_1_c.before args0 about1 = true := by decide +kernel
set_option maxRecDepth 65536 in
theorem w_case : (Jvm.Cond.and given_1 narrow_1).before args0 about1 = true := by decide +kernel
set_option maxRecDepth 65536 in
theorem w_consts : constsHeld consts_1 about1 := Jvm.Lit.constsHeldB_iff.mp (by decide +kernel)
theorem w_applies : (headSpec (Jvm.Cond.code x code maxLocals ret :: tables_1) room_1).applies x e0.platform about1 = true :=
  (Spec.applies_iff w_frames).mpr ⟨w_running, w_runnable, w_alone, w_named, w_hears, w_ripe, w_room, w_tables⟩
theorem atStart : AtStart classFile x code maxLocals ret World_1 tables_1 room_1 Calls_1 rest_1 Pre_1 launch0 p0 e0 about1 theMethod args0 below0 :=
  ⟨lists_1, trivial, launch0.admits_env _ _ _, launch0.least_env, fairChoices_fair.cas, fairChoices_fair.clock, w_frames, w_args, w_heap, w_applies, ⟨w_consts, trivial⟩, w_rest, w_case⟩
end start1
theorem witness_1 : WitnessClaimed_1 := ⟨start1.p0, start1.e0, start1.about1, start1.theMethod, start1.args0, start1.below0, start1.atStart⟩
end Jvm.Pilot.@@N@@
